/-
  'check.newReferences' (function 8), '(*check.references).dangling' (function 9).
-/
import Derived.Test.YbulkbrcuDang
namespace Go.Proofs.Ybulkbrcu
open Go.RowKit Go.Maps

/-- A 'references' of a store all of whose objects exist: block R, its 'met' the map at M, its 'first' fv; all from block B on. -/
structure Rf (B R M : Nat) (fv : Value) (w : World) : Prop where
  lo : B ≤ R
  ne : M ≠ R
  cells : ∃ sB mB n, w.heap[R]? = some (.cells #[.pointer (some ⟨sB, 0, none⟩), .map (some M), fv] 50) ∧ St B sB mB n w
  met : w.heap[M]? = some (.map #[] 0)

set_option maxRecDepth 100000 in
theorem newReferences_any (a : Option Addr) (len cap : Nat) (w : World) (hlen : (len : Int) ≤ 1024) (hr : Refs w a len) :
    Calls Yba.prog 8 #[.slice a len cap] w fun e w' => ∃ R M, e = .returned (.pointer (some ⟨R, 0, none⟩)) ∧ Rf w.heap.size R M (.pointer none) w' ∧ Below w.heap.size w w' := by
  have hmm := @run_makeMap Yba.prog
  have hS := new_any a len cap w hlen hr
  clear hr
  go_enter Yba.func8, Yba.ntmps8
  go_wp2_with (first
    | (go_at_call 10; refine hS.mono ?_; rintro e w1 ⟨n, rfl, hn, S1, hb1⟩)
    | go_in)
  go_ret
  have hs1 := hb1.size
  have hb2 : Below w1.heap.size w1 (w1.alloc (.map #[] 0)) := (Below.refl _ _).alloc (Nat.le_refl _) _
  have hb3 := hb2.alloc (by simp) (.cells #[.pointer (some ⟨w.heap.size + 1 + 1, 0, none⟩), .map (some w1.heap.size), .pointer none] 50)
  refine ⟨w1.heap.size + 1, w1.heap.size, by simp, ⟨by omega, by omega, ⟨_, _, n, ?_, S1.later hb3⟩, ?_⟩, hb1.trans (hb3.mono hs1)⟩
  · have := heap_alloc_new (w1.alloc (.map #[] 0)) (.cells #[.pointer (some ⟨w.heap.size + 1 + 1, 0, none⟩), .map (some w1.heap.size), .pointer none] 50)
    simpa using this
  · rw [Below.heap_alloc _ _ _ (by simp)]
    exact heap_alloc_new w1 _

theorem size_lt {w w1 : World} {o : Obj} (hb : Below (w.alloc o).heap.size (w.alloc o) w1) : w.heap.size < w1.heap.size := by
  have := hb.size
  simp at this
  omega

theorem heap_set2 {w : World} {b : Nat} {x y u v : Value} {t : TypeId} {o : Obj} (h : w.heap[b]? = some (.cells #[x, y] t)) : (((w.setCell ⟨b, 0, none⟩ u).setCell ⟨b, 1, none⟩ v).alloc o).heap[b]? = some (.cells #[u, v] t) := by
  have hb : b < w.heap.size := (Array.getElem?_eq_some_iff.1 h).1
  rw [Below.heap_alloc _ _ _ (by simpa using hb)]
  simp [World.setCell, Array.getElem?_modify, h]

/-- What lay in a block is kept over an allocation and a call. -/
theorem kept {w w1 : World} {o : Obj} {b k : Nat} {v : Value} (hc : w.cell? ⟨b, k, none⟩ = some v) (hb : Below (w.alloc o).heap.size (w.alloc o) w1) : w1.cell? ⟨b, k, none⟩ = some v := by
  have hlt : b < w.heap.size := World.block_lt_of_cell? w _ hc
  rw [hb.cell (p := ⟨b, k, none⟩) (by simp; omega), ((Below.refl _ w).alloc (Nat.le_refl _) o).cell (p := ⟨b, k, none⟩) hlt]
  exact hc

theorem keptNew {w w1 : World} {c : Array Value} {t : TypeId} {k : Nat} {v : Value} (hc : c[k]? = some v) (hb : Below (w.alloc (.cells c t)).heap.size (w.alloc (.cells c t)) w1) : w1.cell? ⟨w.heap.size, k, none⟩ = some v ∧ w1.frozen? ⟨w.heap.size, k, none⟩ = false := by
  rw [hb.cell (p := ⟨w.heap.size, k, none⟩) (by simp), hb.frozen (p := ⟨w.heap.size, k, none⟩) (by simp)]
  exact cellOf (heap_alloc_new w _) hc

set_option maxRecDepth 100000 in
theorem dangling_nil (B R M : Nat) (w : World) (h : Rf B R M (.pointer none) w) :
    Calls Yba.prog 9 #[.pointer (some ⟨R, 0, none⟩)] w fun e w' => e = .returned (.agg #[.pointer none, .slice none 0 0]) ∧ Below w.heap.size w w' := by
  obtain ⟨sB, mB, n, hc, S⟩ := h.cells
  have c0 : w.cell? ⟨R, 0, none⟩ = some (.pointer (some ⟨sB, 0, none⟩)) := (cellOf hc (o := 0) rfl).1
  have c2 : w.cell? ⟨R, 2, none⟩ = some (.pointer none) := (cellOf hc (o := 2) rfl).1
  have hlt : R < w.heap.size := World.block_lt_of_cell? w _ c0
  have hb1 : ∀ o, Below w.heap.size w (w.alloc o) := fun o => (Below.refl _ w).alloc (Nat.le_refl _) o
  have hS := fun o => storeDangling B sB mB n (w.alloc o) (S.later (hb1 o))
  go_enter Yba.func9, Yba.ntmps9
  go_wp2_with (first
    | (go_at_call 11; refine (hS _).mono ?_; rintro e w1 ⟨rfl, hb2⟩; have d2 := kept c2 hb2; obtain ⟨e0, g0⟩ := keptNew (k := 0) (v := .pointer none) rfl hb2; obtain ⟨e1, g1⟩ := keptNew (k := 1) (v := .slice none 0 0) rfl hb2; have hsz := size_lt hb2; have hRz := Nat.lt_trans hlt hsz)
    | go_in)
  have hw1 : w1.heap[w.heap.size]? = some (.cells #[.pointer none, .slice none 0 0] 53) := (hb2.block _ (by simp)).trans (heap_alloc_new w _)
  refine bodyPost_ret (results_cell_row rfl _ _ w.heap.size 53 _ _ _ rfl (heap_set2 hw1) Yba.underlying53 rfl (by kernel_rfl)) rfl ⟨rfl, ?_⟩
  exact ((((hb1 _).trans (hb2.mono (by simp))).setCell (by exact Nat.le_refl _) _).setCell (by exact Nat.le_refl _) _).alloc (by show w.heap.size ≤ ((w1.setCell _ _).setCell _ _).heap.size; simp; omega) _

set_option maxRecDepth 100000 in
/-- 'dangling' where the history has met one: a copy of what 'first' holds, in a block of its own. -/
theorem dangling_met (B R M F : Nat) (x y z : Int) (s : ByteArray) (w : World) (h : Rf B R M (.pointer (some ⟨F, 0, none⟩)) w) (hF : w.heap[F]? = some (.cells #[.int .i64 x, .int .i64 y, .string s, .int .i64 z] 46)) :
    Calls Yba.prog 9 #[.pointer (some ⟨R, 0, none⟩)] w fun e w' => ∃ N, e = .returned (.agg #[.pointer (some ⟨N, 0, none⟩), .slice none 0 0]) ∧ w.heap.size ≤ N ∧ w'.heap[N]? = some (.cells #[.int .i64 x, .int .i64 y, .string s] 44) ∧ Below w.heap.size w w' := by
  obtain ⟨sB, mB, n, hc, S⟩ := h.cells
  have c0 : w.cell? ⟨R, 0, none⟩ = some (.pointer (some ⟨sB, 0, none⟩)) := (cellOf hc (o := 0) rfl).1
  have c2 : w.cell? ⟨R, 2, none⟩ = some (.pointer (some ⟨F, 0, none⟩)) := (cellOf hc (o := 2) rfl).1
  have f0 : w.cell? ⟨F, 0, none⟩ = some (.int .i64 x) := (cellOf hF (o := 0) rfl).1
  have f1 : w.cell? ⟨F, 1, none⟩ = some (.int .i64 y) := (cellOf hF (o := 1) rfl).1
  have f2 : w.cell? ⟨F, 2, none⟩ = some (.string s) := (cellOf hF (o := 2) rfl).1
  have hlt : R < w.heap.size := World.block_lt_of_cell? w _ c0
  have hltF : F < w.heap.size := World.block_lt_of_cell? w _ f0
  have hb1 : ∀ o, Below w.heap.size w (w.alloc o) := fun o => (Below.refl _ w).alloc (Nat.le_refl _) o
  have hS := fun o => storeDangling B sB mB n (w.alloc o) (S.later (hb1 o))
  go_enter Yba.func9, Yba.ntmps9
  go_wp2_with (first
    | (go_at_call 11; refine (hS _).mono ?_; rintro e w1 ⟨rfl, hb2⟩; have d2 := kept c2 hb2; have k0 := kept f0 hb2; have k1 := kept f1 hb2; have k2 := kept f2 hb2; obtain ⟨e0, g0⟩ := keptNew (k := 0) (v := .pointer none) rfl hb2; obtain ⟨e1, g1⟩ := keptNew (k := 1) (v := .slice none 0 0) rfl hb2; have hsz := size_lt hb2; have hRz := Nat.lt_trans hlt hsz; have hFz := Nat.lt_trans hltF hsz)
    | go_in)
  have hw1 : w1.heap[w.heap.size]? = some (.cells #[.pointer none, .slice none 0 0] 53) := (hb2.block _ (by simp)).trans (heap_alloc_new w _)
  refine bodyPost_ret (results_cell_row rfl _ _ w.heap.size 53 _ _ _ rfl ((Below.heap_alloc _ _ _ (by simp; omega)).trans (heap_set2 hw1)) Yba.underlying53 rfl (by kernel_rfl)) rfl ⟨w1.heap.size + 1, rfl, by omega, ?_, ?_⟩
  · have := heap_alloc2_new ((w1.setCell ⟨w.heap.size, 0, none⟩ (.pointer (some ⟨w1.heap.size + 1, 0, none⟩))).setCell ⟨w.heap.size, 1, none⟩ (.slice none 0 0)) (.cells #[.pointer (some ⟨w1.heap.size + 1, 0, none⟩), .slice none 0 0] 53) (.cells #[.int .i64 x, .int .i64 y, .string s] 44)
    simpa using this
  · exact (((((hb1 _).trans (hb2.mono (by simp))).setCell (by exact Nat.le_refl _) _).setCell (by exact Nat.le_refl _) _).alloc (by show w.heap.size ≤ ((w1.setCell _ _).setCell _ _).heap.size; simp; omega) _).alloc (by simp; omega) _

theorem St.set50 {B sB mB n R k : Nat} {w : World} {c : Array Value} {v : Value} (h : St B sB mB n w) (hR : w.heap[R]? = some (.cells c 50)) : St B sB mB n (w.setCell ⟨R, k, none⟩ v) := by
  have other : ∀ b, b ≠ R → (w.setCell ⟨R, k, none⟩ v).heap[b]? = w.heap[b]? := fun b hb => Below.heap_setCell _ _ _ _ (by exact hb)
  obtain ⟨c, h1, h2⟩ := h.store
  obtain ⟨D, ⟨es, clock, hm, r⟩, hD⟩ := h.map
  have hso : sB ≠ R := fun e => by subst e; rw [hR] at h1; cases h1
  have hmo : mB ≠ R := fun e => by subst e; rw [hR] at hm; cases hm
  refine ⟨h.lo, ⟨c, (other _ hso).trans h1, h2⟩, D, ⟨es, clock, (other _ hmo).trans hm, r⟩, fun kl b he => ?_⟩
  obtain ⟨o1, o2⟩ := hD kl b he
  refine ⟨?_, o2⟩
  obtain ⟨cc, q1, q2⟩ := o1
  exact ⟨cc, (other _ (fun e => by subst e; rw [hR] at q1; cases q1)).trans q1, q2⟩

/-- 'r.first = &metRead{..}'. -/
theorem Rf.setFirst {B R M : Nat} {fv pv : Value} {o : Obj} {w : World} (h : Rf B R M fv w) : Rf B R M pv ((w.setCell ⟨R, 2, none⟩ pv).alloc o) := by
  obtain ⟨sB, mB, n, hc, S⟩ := h.cells
  have hlt : R < w.heap.size := (Array.getElem?_eq_some_iff.1 hc).1
  have hltM : M < w.heap.size := (Array.getElem?_eq_some_iff.1 h.met).1
  refine ⟨h.lo, h.ne, ⟨sB, mB, n, ?_, (S.set50 hc).later ((Below.refl _ _).alloc (Nat.le_refl _) _)⟩, ?_⟩
  · rw [Below.heap_alloc _ _ _ (by simpa using hlt)]
    simp [World.setCell, Array.getElem?_modify, hc]
  · rw [Below.heap_alloc _ _ _ (by simpa using hltM), Below.heap_setCell _ _ _ _ (by exact h.ne)]
    exact h.met

end Go.Proofs.Ybulkbrcu
