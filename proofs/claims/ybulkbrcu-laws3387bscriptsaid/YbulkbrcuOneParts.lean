/-
  'LawS3387BOne', where an edge is added: the lemmas on worlds, outside the walk.
-/
import Derived.Test.YbulkbrcuOneWalk
namespace Go.Proofs.Ybulkbrcu
open Go.RowKit Go.Maps

theorem Laid.of {B : Nat} {num sz : Int} {w w1 w2 : World} (L : Laid B num sz w w1) (hb : Below B w w2) (hs : B + 3 ≤ w2.heap.size) (h0 : w2.heap[B]? = w1.heap[B]?) (h2 : w2.heap[B + 1 + 1]? = w1.heap[B + 1 + 1]?) : Laid B num sz w w2 :=
  ⟨hb, hs, (World.cell?_of_block (w := w1) h0).trans L.n0, (World.cell?_of_block (w := w1) h0).trans L.n3, (World.cell?_of_block (w := w1) h2).trans L.g0, (World.cell?_of_block (w := w1) h2).trans L.g4, (World.frozen?_of_block (w := w1) h2).trans L.f4⟩

theorem Laid.kept {B M : Nat} {num sz : Int} {w w1 w2 : World} (L : Laid B num sz w w1) (h : Below M w1 w2) (hM : B + 3 ≤ M) : Laid B num sz w w2 :=
  L.of (L.below.trans (h.mono (by omega))) (Nat.le_trans L.size h.size) (h.block _ (by omega)) (h.block _ (by omega))

theorem Laid.boxed {B : Nat} {num sz : Int} {w w1 : World} (L : Laid B num sz w w1) (o : Obj) : Laid B num sz w (w1.alloc o) :=
  L.kept ((Below.refl w1.heap.size w1).alloc (Nat.le_refl _) o) L.size

theorem Laid.stored {B : Nat} {num sz : Int} {w w1 w2 : World} (L : Laid B num sz w w1) (h : w1.grownBy w2 (some (B + 1))) : Laid B num sz w w2 := by
  have hs := L.size
  exact L.of (L.below.grown h (by omega) (fun k hk => by cases hk; omega)) (Nat.le_trans L.size h.size) (h.block _ (by omega) (by simp)) (h.block _ (by omega) (by simp))

/-- The source's block behind 'g.nodes[from] = src'. -/
theorem src_of {B : Nat} {num sz f : Int} {cp : Value} {w w1 w2 : World} (L : Laid B num sz w w1) (h : (w1.alloc (nodeObj f cp)).grownBy w2 (some (B + 1))) :
    w2.cell? ⟨w1.heap.size, 3, none⟩ = some cp ∧ w2.frozen? ⟨w1.heap.size, 3, none⟩ = false ∧ w1.heap.size < w2.heap.size := by
  have hs := L.size
  have hz := h.size
  simp at hz
  have k := (h.block w1.heap.size (by simp) (by simp; omega)).trans (heap_alloc_new w1 _)
  exact ⟨(cell_of_heap k rfl).1, (cell_of_heap k rfl).2, by omega⟩

/-- The map's two entries. -/
theorem map_two {num f : Int} {B S : Nat} (hne : f ≠ num) (D : DataW Unit) (hD : D = ((DataW.map [] : DataW Unit).put (.int .i64 num) (.lit (.int .i64 (B : Int)))).put (.int .i64 f) (.lit (.int .i64 (S : Int)))) :
    D.atKey (.int .i64 num) .nil = .lit (.int .i64 (B : Int)) ∧ D.atKey (.int .i64 f) .nil = .lit (.int .i64 (S : Int)) ∧ Maps.size D = 2 := by
  subst hD
  refine ⟨?_, ?_, ?_⟩
  · rw [atKey_put_other (lit_ne (Ne.symm hne))]
    exact map_one.1
  · exact atKey_put_same (isMap_empty.put _ _) (isKeyLit_int _) _ _
  · rw [size_put (tidy_empty.put (isKeyLit_int _) _), has_put_other (lit_ne hne), map_one.2]
    rfl

theorem add_head (g j : Nat) : (⟨g, 0, none⟩ : Addr).add j = ⟨g, j, none⟩ := by unfold Addr.add; split <;> simp_all

/-- WHAT IS KNOWN behind the call of edge. -/
structure After (B S : Nat) (num sz f : Int) (n : Nat) (xs : List Value) (w w3 : World) : Prop where
  below : Below B w w3
  n3 : w3.cell? ⟨B, 3, none⟩ = some (.slice none 0 0)
  g0 : w3.cell? ⟨B + 1 + 1, 0, none⟩ = some (.map (some (B + 1)))
  g4 : w3.cell? ⟨B + 1 + 1, 4, none⟩ = some (.int .i64 (wrap64 (sz + 1)))
  lkn : (Instr.lookup 27 (.map (some (B + 1))) (.int .i64 num) false).run Yba.prog w3 = .ok (.pointer (some ⟨B, 0, none⟩)) w3
  lkf : (Instr.lookup 27 (.map (some (B + 1))) (.int .i64 f) false).run Yba.prog w3 = .ok (.pointer (some ⟨S, 0, none⟩)) w3
  len : ∀ ty, (Builtin.len_ #[27] ty #[.map (some (B + 1))]).run Yba.prog w3 = .ok (.int .i64 (2 : Nat)) w3
  succ : ∃ gg cap, w3.cell? ⟨S, 3, none⟩ = some (.slice (some ⟨gg, 0, none⟩) (n + 1) cap) ∧ (∀ j u, (xs ++ [.int .i64 num])[j]? = some u → w3.cell? ⟨gg, j, none⟩ = some u)

theorem after_edge {B S : Nat} {num sz f : Int} {n base : Nat} {v : Value} {xs : List Value} {w w2 w3 : World} (L : Laid B num sz w w2) (hne : f ≠ num) (hnum : (Lit.int .i64 num).wf = true) (hf : (Lit.int .i64 f).wf = true)
    (hown : w2.ownsMap Yba.prog 3 ptrElem (B + 1) 2 (((DataW.map [] : DataW Unit).put (.int .i64 num) (.lit (.int .i64 (B : Int)))).put (.int .i64 f) (.lit (.int .i64 (S : Int)))))
    (E : Edged (B + 1 + 1) S v base n xs num sz w2 w3) (hS : B + 3 ≤ S) (hv : ∀ k, v.ownBlock = some k → B + 3 ≤ k) : After B S num sz f n xs w w3 := by
  have hs := L.size
  have hvb : ∀ k, k < B + 3 → some k ≠ v.ownBlock := fun k hk e => by have := hv k e.symm; omega
  have hbm : w3.heap[B + 1]? = w2.heap[B + 1]? := E.block _ (by omega) (by omega) (by omega) (hvb _ (by omega))
  have hown3 : w3.ownsMap Yba.prog 3 ptrElem (B + 1) 2 (((DataW.map [] : DataW Unit).put (.int .i64 num) (.lit (.int .i64 (B : Int)))).put (.int .i64 f) (.lit (.int .i64 (S : Int)))) := by
    obtain ⟨es, clock, hb, r⟩ := hown
    exact ⟨es, clock, hbm.trans hb, r⟩
  obtain ⟨m1, m2, m3⟩ := map_two hne _ rfl (B := B) (S := S)
  refine ⟨?_, ?_, ?_, E.sized, ptr_look hown3 hnum m1, ptr_look hown3 hf m2, ?_, ?_⟩
  · refine ⟨E.os.trans L.below.os, E.tape.trans L.below.tape, E.output.trans L.below.output, Nat.le_trans L.below.size E.size, fun k hk => ?_⟩
    rw [E.block k (by omega) (by omega) (by omega) (hvb _ (by omega))]
    exact L.below.block k hk
  · rw [E.cell _ (show B < _ by omega) (hvb _ (show B < _ by omega)) (by simp only [ne_eq, Addr.mk.injEq]; omega) (by simp)]
    exact L.n3
  · rw [E.cell _ (show B + 1 + 1 < _ by omega) (hvb _ (show B + 1 + 1 < _ by omega)) (by simp) (by simp)]
    exact L.g0
  · intro ty
    have := hown3.len Yba.underlying27 ty
    rwa [m3] at this
  · obtain ⟨gg, cap, h1, h2, _⟩ := E.succ
    refine ⟨gg, cap, h1, fun j u hj => ?_⟩
    have := h2.cells (g := gg) rfl j u hj
    rwa [add_head] at this

end Go.Proofs.Ybulkbrcu
