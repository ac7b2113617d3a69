/-
  'LawS3387BScript': the lemmas on worlds, outside the walk.
  w.heap.size: the map's block; + 1: the graph's; + 1 + 1: the array ns; nb j: node j's block; Mo: the array model's; T: the first block behind it: every row that is appended to lies from T on.
-/
import Derived.Test.YbulkbrcuOneParts
namespace Go.Proofs.Ybulkbrcu
open Go.RowKit Go.Maps

def upd {α : Type} (f : Nat → α) (s : Nat) (x : α) : Nat → α := fun j => if j = s then x else f j
theorem upd_same {α : Type} (f : Nat → α) (s : Nat) (x : α) : upd f s x s = x := by simp [upd]
theorem upd_other {α : Type} (f : Nat → α) {s j : Nat} (x : α) (h : j ≠ s) : upd f s x j = f j := by simp [upd, h]

/-! ### the first loop: the nodes are made -/
structure Net1 (w : World) (i : Nat) (nb : Nat → Nat) (wr : World) : Prop where
  below : Below w.heap.size w wr
  size : w.heap.size + 3 ≤ wr.heap.size
  conf : wr.heap[w.heap.size + 1]? = some (confObj w.heap.size 0)
  arr : ∃ cs : Array Value, wr.heap[w.heap.size + 1 + 1]? = some (.cells cs 34) ∧ cs.size = 5 ∧ ∀ j, 1 ≤ j → j < i → cs[j]? = some (.pointer (some ⟨nb j, 0, none⟩))
  node : ∀ j : Nat, 1 ≤ j → j < i → wr.heap[nb j]? = some (nodeObj j (.slice none 0 0)) ∧ w.heap.size + 3 ≤ nb j
  inj : ∀ j j', 1 ≤ j → j < i → 1 ≤ j' → j' < i → nb j = nb j' → j = j'
  map : ∃ D : DataW Unit, wr.ownsMap Yba.prog 3 ptrElem w.heap.size (i - 1) D ∧ Maps.size D = i - 1 ∧ (∀ j : Nat, 1 ≤ j → j < i → D.atKey (.int .i64 (j : Int)) .nil = .lit (.int .i64 (nb j : Int))) ∧ ∀ j : Nat, i ≤ j → Maps.has D (.int .i64 (j : Int)) = false

theorem net1_start (w : World) (nb : Nat → Nat) (o : Array Value) (ho : o.size = 5) : Net1 w 1 nb (((w.alloc (.map #[] 0)).alloc (confObj w.heap.size 0)).alloc (.cells o 34)) := by
  obtain ⟨⟨h1, h2⟩, h3, hs⟩ := heap3 w (.map #[] 0) (confObj w.heap.size 0) (.cells o 34)
  refine ⟨?_, by omega, h2, ⟨o, h3, ho, fun j a b => by omega⟩, fun j a b => by omega, fun j _ a b => by omega, .map [], ?_, rfl, fun j a b => by omega, fun j _ => rfl⟩
  · exact (((Below.refl _ _).alloc (Nat.le_refl _) _).alloc (by simp) _).alloc (by simp; omega) _
  · exact ((made_at rfl).alloc _).alloc _

theorem nat_lit_ne {i j : Nat} (h : i ≠ j) : Lit.int .i64 (i : Int) ≠ Lit.int .i64 (j : Int) := lit_ne (fun e => h (by omega))

theorem wf_small {k : Nat} (h : k ≤ 5) : (Lit.int .i64 (k : Int)).wf = true := WalkArith.wf_i64 (by omega)

theorem set_at {cs : Array Value} {k : Nat} (h : k < cs.size) (v : Value) : (cs.setIfInBounds k v)[k]? = some v := by
  simp [h]

/-- The world behind 'ns[k] = &node{number: k}'. -/
theorem net1_mid {w : World} {k : Nat} {nb : Nat → Nat} {wr : World} (N : Net1 w k nb wr) (h1 : 1 ≤ k) (h4 : k ≤ 4) (W2 : World) (hW : W2 = (wr.alloc (nodeObj k (.slice none 0 0))).setCell ⟨w.heap.size + 1 + 1, k, none⟩ (.pointer (some ⟨wr.heap.size, 0, none⟩))) :
    W2.cell? ⟨w.heap.size + 1, 0, none⟩ = some (.map (some w.heap.size)) ∧ W2.cell? ⟨w.heap.size + 1 + 1, k, none⟩ = some (.pointer (some ⟨wr.heap.size, 0, none⟩)) ∧
    ∃ w', (Instr.mapUpdate 27 (.map (some w.heap.size)) (.int .i64 (k : Int)) (.pointer (some ⟨wr.heap.size, 0, none⟩))).run Yba.prog W2.drew = .ok () w' ∧ Net1 w (k + 1) (upd nb k wr.heap.size) w' := by
  have hs := N.size
  obtain ⟨cs, ha, hcs, hcj⟩ := N.arr
  obtain ⟨D, hown, hsz, hat, hno⟩ := N.map
  have blk : ∀ b, b < wr.heap.size → b ≠ w.heap.size + 1 + 1 → W2.heap[b]? = wr.heap[b]? := by
    intro b hb hne
    rw [hW, Below.heap_setCell _ _ _ _ hne, Below.heap_alloc _ _ _ hb]
  have hnew : W2.heap[wr.heap.size]? = some (nodeObj k (.slice none 0 0)) := by
    rw [hW, Below.heap_setCell _ _ _ _ (by show wr.heap.size ≠ w.heap.size + 1 + 1; omega)]
    exact heap_alloc_new wr _
  have hA0 : (wr.alloc (nodeObj k (.slice none 0 0))).heap[w.heap.size + 1 + 1]? = some (.cells cs 34) := by rw [Below.heap_alloc _ _ _ (by omega)]; exact ha
  have harr : W2.heap[w.heap.size + 1 + 1]? = some (.cells (cs.setIfInBounds k (.pointer (some ⟨wr.heap.size, 0, none⟩))) 34) := by
    rw [hW]
    simp only [World.setCell, Array.getElem?_modify, ↓reduceIte, hA0, Option.map_some]
    rfl
  have hsz2 : W2.heap.size = wr.heap.size + 1 := by rw [hW]; simp [World.setCell]
  have hmapb : W2.heap[w.heap.size]? = wr.heap[w.heap.size]? := blk _ (by omega) (by omega)
  have hown2 : W2.ownsMap Yba.prog 3 ptrElem w.heap.size (k - 1) D := by
    obtain ⟨es, clock, hb, r⟩ := hown
    exact ⟨es, clock, hmapb.trans hb, r⟩
  have hbelow : Below w.heap.size w W2 := by
    rw [hW]
    exact (N.below.alloc (by omega) _).setCell (by show w.heap.size ≤ w.heap.size + 1 + 1; omega) _
  refine ⟨(cell_of_heap ((blk _ (by omega) (by omega)).trans N.conf) rfl).1, (cell_of_heap harr (set_at (by omega) _)).1, ?_⟩
  obtain ⟨w', hrun, hown', hgrow⟩ := hown2.drew.update (val := .pointer (some ⟨wr.heap.size, 0, none⟩)) law3 Yba.underlying27 (by unfold maxLen; omega) (keyOf_int_mk Yba.underlying3 (wf_small (k := k) (by omega))) (ptrElem_mk wr.heap.size)
  refine ⟨w', hrun, ?_⟩
  have blk' : ∀ b, b < wr.heap.size + 1 → b ≠ w.heap.size → w'.heap[b]? = W2.heap[b]? := fun b hb hne => hgrow.block b (by show b < W2.heap.size; omega) (by simp; exact hne)
  have hsz' : wr.heap.size + 1 ≤ w'.heap.size := by have := hgrow.size; exact hsz2 ▸ this
  refine ⟨?_, by omega, ?_, ⟨_, (blk' _ (by omega) (by omega)).trans harr, by simp [hcs], ?_⟩, ?_, ?_, ?_⟩
  · refine hbelow.drew.grown (w := W2.drew) (w' := w') hgrow ?_ (fun q hq => by cases hq; exact Nat.le_refl _)
    show w.heap.size ≤ W2.heap.size
    omega
  · exact ((blk' _ (by omega) (by omega)).trans (blk _ (by omega) (by omega))).trans N.conf
  · intro j hj1 hj2
    by_cases e : j = k
    · subst e
      rw [upd_same]
      exact set_at (by omega) _
    · rw [upd_other _ _ e]
      simp [Ne.symm e]
      exact hcj j hj1 (by omega)
  · intro j hj1 hj2
    by_cases e : j = k
    · subst e
      rw [upd_same]
      exact ⟨(blk' _ (by omega) (by omega)).trans hnew, by omega⟩
    · rw [upd_other _ _ e]
      obtain ⟨n1, n2⟩ := N.node j hj1 (by omega)
      have nl : nb j < wr.heap.size := (Array.getElem?_eq_some_iff.1 n1).1
      exact ⟨((blk' _ (by omega) (by omega)).trans (blk _ nl (by omega))).trans n1, n2⟩
  · intro j j' a1 a2 b1 b2 e
    by_cases ej : j = k
    · by_cases ej' : j' = k
      · omega
      · rw [ej, upd_same, upd_other _ _ ej'] at e
        have := (Array.getElem?_eq_some_iff.1 (N.node j' b1 (by omega)).1).1
        omega
    · by_cases ej' : j' = k
      · rw [ej', upd_same, upd_other _ _ ej] at e
        have := (Array.getElem?_eq_some_iff.1 (N.node j a1 (by omega)).1).1
        omega
      · rw [upd_other _ _ ej, upd_other _ _ ej'] at e
        exact N.inj j j' a1 (by omega) b1 (by omega) e
  · refine ⟨_, hown'.mono (by omega), ?_, ?_, ?_⟩
    · rw [size_put (hown.tidy law3), hno k (Nat.le_refl _), hsz]
      simp; omega
    · intro j hj1 hj2
      by_cases e : j = k
      · subst e
        rw [upd_same]
        exact atKey_put_same hown.isMap (isKeyLit_int _) _ _
      · rw [upd_other _ _ e, atKey_put_other (nat_lit_ne e)]
        exact hat j hj1 (by omega)
    · intro j hj
      rw [has_put_other (nat_lit_ne (by omega))]
      exact hno j (by omega)

end Go.Proofs.Ybulkbrcu
