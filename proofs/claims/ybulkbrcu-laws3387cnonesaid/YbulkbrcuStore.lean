/-
  package store: what a fresh store's memory is, and '(*Store).object' (function 12).
-/
import Derived.Test.YbulkbrcuPtrMap
import Derived.Maps.RangeWalk
import Derived.Outline
import Derived.StringKeys
import Derived.Deep.AppendLies
namespace Go.Proofs.Ybulkbrcu
open Go.RowKit Go.Maps

/-- An element of the map of objects: a pointer that is not nil, read as its block's number. -/
def nnElem : Value → Option (DataW Unit × List MemPlace)
  | .pointer (some ⟨b, 0, none⟩) => some (.lit (.int .i64 (b : Int)), [])
  | _ => none

theorem nnElem_mk (b : Nat) : nnElem (.pointer (some ⟨b, 0, none⟩)) = some (.lit (.int .i64 (b : Int)), []) := rfl
theorem nnElem_inv {v : Value} {y : DataW Unit × List MemPlace} (h : nnElem v = some y) : ∃ b : Nat, v = .pointer (some ⟨b, 0, none⟩) ∧ y = (.lit (.int .i64 (b : Int)), []) := by
  unfold nnElem at h
  split at h
  · rename_i b
    cases h
    exact ⟨b, rfl, rfl⟩
  · cases h
theorem nn_ptr {v : Value} {y : DataW Unit × List MemPlace} (h : nnElem v = some y) : ptrElem v = some y := by
  obtain ⟨b, rfl, rfl⟩ := nnElem_inv h
  rfl

theorem law9 : Keyed Yba.prog 9 := string_keyed Yba.underlying9
theorem zero73 (w : World) : (zeroValue 73).run Yba.prog w = .ok (.pointer none) w := by kernel_rfl

/-- Block b is an object that exists and refers to some item, or to none. -/
def ObjOk (w : World) (b : Nat) : Prop := ∃ c : Array Value, w.heap[b]? = some (.cells c 72) ∧ c[1]? = some (.bool true) ∧ ∃ s : ByteArray, c[2]? = some (.string s) ∧ s.size ≤ maxLen

/-- A STORE ALL OF WHOSE OBJECTS EXIST: block sB; its map of objects, block mB, of at most n entries; all of them from block B on. -/
structure St (B sB mB n : Nat) (w : World) : Prop where
  lo : B ≤ mB ∧ B ≤ sB
  store : ∃ c : Array Value, w.heap[sB]? = some (.cells c 63) ∧ c[0]? = some (.map (some mB))
  map : ∃ D : DataW Unit, w.ownsMap Yba.prog 9 nnElem mB n D ∧ ∀ (kl : Lit) (b : Nat), D.atKey kl .nil = .lit (.int .i64 (b : Int)) → ObjOk w b ∧ B ≤ b

theorem cellOf {w : World} {b o : Nat} {cs : Array Value} {t : TypeId} {v : Value} (h : w.heap[b]? = some (.cells cs t)) (hv : cs[o]? = some v) : w.cell? ⟨b, o, none⟩ = some v ∧ w.frozen? ⟨b, o, none⟩ = false := by
  simp [World.cell?, World.frozen?, h, hv]

theorem St.load {B sB mB n : Nat} {w : World} (h : St B sB mB n w) : w.cell? ⟨sB, 0, none⟩ = some (.map (some mB)) := by
  obtain ⟨c, h1, h2⟩ := h.store
  exact (cellOf h1 h2).1

theorem ObjOk.keep {w w' : World} {b : Nat} (h : ObjOk w b) (hb : ∀ c t, w.heap[b]? = some (.cells c t) → w'.heap[b]? = some (.cells c t)) : ObjOk w' b := by
  obtain ⟨c, h1, r⟩ := h
  exact ⟨c, hb c 72 h1, r⟩

/-- All blocks of cells, and the map, are as they were. -/
theorem St.keep {B sB mB n : Nat} {w w' : World} (h : St B sB mB n w) (hb : ∀ k, k < w.heap.size → w'.heap[k]? = w.heap[k]?) : St B sB mB n w' := by
  obtain ⟨c, h1, h2⟩ := h.store
  obtain ⟨D, ⟨es, clock, hm, r⟩, hD⟩ := h.map
  refine ⟨h.lo, ⟨c, (hb _ (Array.getElem?_eq_some_iff.1 h1).1).trans h1, h2⟩, D, ⟨es, clock, (hb _ (Array.getElem?_eq_some_iff.1 hm).1).trans hm, r⟩, fun kl b he => ?_⟩
  obtain ⟨o1, o2⟩ := hD kl b he
  exact ⟨o1.keep (fun c t hc => (hb _ (Array.getElem?_eq_some_iff.1 hc).1).trans hc), o2⟩

theorem St.later {B sB mB n : Nat} {w w' : World} (h : St B sB mB n w) (hb : Below w.heap.size w w') : St B sB mB n w' := h.keep hb.block

/-- A look-up: nil, or an object that exists. -/
theorem St.look {B sB mB n : Nat} {w : World} (h : St B sB mB n w) (s : ByteArray) (hs : s.size ≤ maxLen) :
    (Instr.lookup 59 (.map (some mB)) (.string s) false).run Yba.prog w = .ok (.pointer none) w ∨ ∃ b, (Instr.lookup 59 (.map (some mB)) (.string s) false).run Yba.prog w = .ok (.pointer (some ⟨b, 0, none⟩)) w ∧ ObjOk w b ∧ B ≤ b := by
  obtain ⟨D, ⟨es, clock, hm, F, hn, hDe⟩, hD⟩ := h.map
  have hown := World.ownsMap_of_fit (R := ptrElem) hm F (fun x _ z hz => nn_ptr hz)
  rw [← hDe] at hown
  obtain ⟨v, ps, hrun, hv⟩ := hown.lookup law9 Yba.underlying59 (zero73 w) (zd := .nil) (zp := []) rfl (WideMaps.keyOf_string_mk Yba.underlying9 hs)
  unfold ptrElem at hv
  split at hv
  · exact .inl hrun
  · rename_i b
    simp at hv
    exact .inr ⟨b, hrun, hD _ b hv.1.symm⟩
  · cases hv

/-- 's.objects[item] = o', o a new object. -/
theorem St.put {B sB mB n : Nat} {w w' : World} {D : DataW Unit} {o : Nat} {s : List UInt8} (h : St B sB mB n w) (hown : w.ownsMap Yba.prog 9 nnElem mB n D) (hD : ∀ (kl : Lit) (b : Nat), D.atKey kl .nil = .lit (.int .i64 (b : Int)) → ObjOk w b ∧ B ≤ b)
    (ho : ObjOk w o) (hB : B ≤ o) (hown' : w'.ownsMap Yba.prog 9 nnElem mB (n + 1) (D.put (.string s) (.lit (.int .i64 (o : Int))))) (hg : w.grownBy w' (some mB)) : St B sB mB (n + 1) w' := by
  have hmb : ∃ es clock, w.heap[mB]? = some (.map es clock) := by
    obtain ⟨es, clock, hm, _⟩ := hown
    exact ⟨es, clock, hm⟩
  obtain ⟨es, clock, hm⟩ := hmb
  have keep : ∀ (b : Nat) (c : Array Value) (t : TypeId), w.heap[b]? = some (Obj.cells c t) → w'.heap[b]? = some (Obj.cells c t) := fun b c t hc => by
    rw [hg.block b (Array.getElem?_eq_some_iff.1 hc).1 (by
      intro e
      cases e
      rw [hm] at hc
      cases hc)]
    exact hc
  obtain ⟨c, h1, h2⟩ := h.store
  refine ⟨h.lo, ⟨c, keep _ _ _ h1, h2⟩, _, hown', fun kl b he => ?_⟩
  by_cases e : kl = .string s
  · subst e
    rw [atKey_put_same hown.isMap (show WideAt.IsKeyLit (.string s) from trivial)] at he
    have hob : o = b := by
      simp at he
      exact Int.ofNat_inj.1 he
    rw [← hob]
    exact ⟨ho.keep (fun c t => keep _ c t), hB⟩
  · rw [atKey_put_other e] at he
    obtain ⟨o1, o2⟩ := hD kl b he
    exact ⟨o1.keep (fun c t => keep _ c t), o2⟩

/-- 'o.committed.state.ref = t'. -/
theorem St.setRef {B sB mB n : Nat} {w : World} {o : Nat} {t : ByteArray} (h : St B sB mB n w) (ho : ObjOk w o) (ht : t.size ≤ maxLen) : St B sB mB n (w.setCell ⟨o, 2, none⟩ (.string t)) := by
  obtain ⟨co, hc1, hc2, s, hc3, hc4⟩ := ho
  have hsz : 2 < co.size := (Array.getElem?_eq_some_iff.1 hc3).1
  have hnew : (w.setCell ⟨o, 2, none⟩ (.string t)).heap[o]? = some (.cells (co.setIfInBounds 2 (.string t)) 72) := by
    simp only [World.setCell, Array.getElem?_modify, ↓reduceIte, hc1, Option.map_some]
    rfl
  have other : ∀ b, b ≠ o → (w.setCell ⟨o, 2, none⟩ (.string t)).heap[b]? = w.heap[b]? := fun b hb => Below.heap_setCell _ _ _ _ (by exact hb)
  obtain ⟨c, h1, h2⟩ := h.store
  obtain ⟨D, ⟨es, clock, hm, r⟩, hD⟩ := h.map
  have hso : sB ≠ o := fun e => by subst e; rw [hc1] at h1; cases h1
  have hmo : mB ≠ o := fun e => by subst e; rw [hc1] at hm; cases hm
  refine ⟨h.lo, ⟨c, (other _ hso).trans h1, h2⟩, D, ⟨es, clock, (other _ hmo).trans hm, r⟩, fun kl b he => ?_⟩
  obtain ⟨o1, o2⟩ := hD kl b he
  refine ⟨?_, o2⟩
  by_cases e : b = o
  · subst e
    refine ⟨_, hnew, ?_, t, ?_, ht⟩
    · rw [Array.getElem?_setIfInBounds, if_neg (by omega)]
      exact hc2
    · simp [hsz]
  · exact o1.keep (fun c t hc => (other _ e).trans hc)

set_option maxRecDepth 100000 in
/-- '(*Store).object(item)': an object that exists; the store has at most one entry more; nothing else but new blocks. -/
theorem object_any (B sB mB n : Nat) (it : ByteArray) (w : World) (h : St B sB mB n w) (hs : it.size ≤ maxLen) (hn : n ≤ 1000000) (hB : B ≤ w.heap.size) :
    Calls Yba.prog 12 #[.pointer (some ⟨sB, 0, none⟩), .string it] w fun e w' => ∃ b, e = .returned (.pointer (some ⟨b, 0, none⟩)) ∧ St B sB mB (n + 1) w' ∧ ObjOk w' b ∧ B ≤ b ∧ w.grownBy w' (some mB) := by
  have hld := h.load
  rcases h.look it hs with hlk | ⟨b, hlk, hob, hBb⟩
  · obtain ⟨D, hown, hD⟩ := h.map
    have hobn : ∀ c, c = #[Value.int .i64 0, .bool true, .string ⟨#[]⟩, .slice none 0 0] → ObjOk (w.alloc (.cells c 72)) w.heap.size := fun c hc => ⟨c, heap_alloc_new w _, by rw [hc]; rfl, ⟨#[]⟩, by rw [hc]; rfl, by unfold maxLen; exact Nat.zero_le _⟩
    have hst : ∀ o, St B sB mB n (w.alloc o) := fun o => h.later ((Below.refl _ w).alloc (Nat.le_refl _) o)
    have hD2 : ∀ (o : Obj) (kl : Lit) (b : Nat), D.atKey kl .nil = .lit (.int .i64 (b : Int)) → ObjOk (w.alloc o) b ∧ B ≤ b := fun o kl b he => by
      obtain ⟨o1, o2⟩ := hD kl b he
      exact ⟨o1.keep (fun c t hc => (Below.heap_alloc w o b (Array.getElem?_eq_some_iff.1 hc).1).trans hc), o2⟩
    have hmlt := hown.lt
    have hslt := World.block_lt_of_cell? w _ hld
    go_enter Yba.func12, Yba.ntmps12
    go_wp2_with (at_mapUpdate; refine wpList_mapUpdate_own _ rfl (.tmp 21) (.tmp 22) (.tmp 23) 59 rfl 9 73 law9 Yba.underlying59 nnElem mB n D rfl (hown.alloc _) (by unfold maxLen; omega) _ _ _ rfl rfl (WideMaps.keyOf_string_mk Yba.underlying9 hs) _ [] (nnElem_mk w.heap.size) ?_; intro w1 hown1 hgrow1)
    have S1 := (hst _).put (hown.alloc _) (hD2 _) (hobn _ rfl) hB hown1 hgrow1
    have O1 : ObjOk w1 w.heap.size := (hobn _ rfl).keep (fun c t hc => by rw [hgrow1.block _ (by simp) (by simp; omega)]; exact hc)
    go_ret
    exact ⟨w.heap.size, rfl, S1, O1, hB, (World.grownBy_alloc w _ _).trans hgrow1⟩
  · go_enter Yba.func12, Yba.ntmps12
    go_wp2
    go_ret
    obtain ⟨D, hown, hD⟩ := h.map
    exact ⟨b, rfl, ⟨h.lo, h.store, D, hown.mono (by omega), hD⟩, hob, hBb, ⟨rfl, rfl, rfl, Nat.le_refl _, fun _ _ _ => rfl⟩⟩

end Go.Proofs.Ybulkbrcu
