/-
  A map[int]*T that the call makes: 'ownsMap' (the guide's Derived/Maps/Own.lean) at elements that are pointers: a pointer to block p's head reads as the number p, nil as '.nil'.
-/
import Derived.Test.YbulkbrcuRows
import Derived.WalkKit
import Derived.Maps.OwnSet
namespace Go.Proofs.Ybulkbrcu
open Go.RowKit Go.Maps

def ptrElem : Value → Option (DataW Unit × List MemPlace)
  | .pointer none => some (.nil, [])
  | .pointer (some ⟨b, 0, none⟩) => some (.lit (.int .i64 (b : Int)), [])
  | _ => none

theorem ptrElem_mk (b : Nat) : ptrElem (.pointer (some ⟨b, 0, none⟩)) = some (.lit (.int .i64 (b : Int)), []) := rfl

theorem ptrElem_inv {v : Value} {b : Nat} {ps : List MemPlace} (h : ptrElem v = some (.lit (.int .i64 (b : Int)), ps)) : v = .pointer (some ⟨b, 0, none⟩) := by
  unfold ptrElem at h
  split at h
  · simp at h
  · simp at h
    obtain ⟨h, _⟩ := h
    rw [show _ = b from Int.ofNat_inj.1 h]
  · cases h

theorem ptrElem_nil {v : Value} {ps : List MemPlace} (h : ptrElem v = some (.nil, ps)) : v = .pointer none := by
  unfold ptrElem at h
  split at h
  · rfl
  · simp at h
  · cases h

theorem law3 : Keyed Yba.prog 3 := int_keyed Yba.underlying3
theorem zero23 (w : World) : (zeroValue 23).run Yba.prog w = .ok (.pointer none) w := by kernel_rfl

/-- 'm[x]', the map reads as D. -/
theorem ptr_look {w : World} {b n : Nat} {D : DataW Unit} (h : w.ownsMap Yba.prog 3 ptrElem b n D) {x : Int} (hx : (Lit.int .i64 x).wf = true) {p : Nat} (hat : D.atKey (.int .i64 x) .nil = .lit (.int .i64 (p : Int))) :
    (Instr.lookup 27 (.map (some b)) (.int .i64 x) false).run Yba.prog w = .ok (.pointer (some ⟨p, 0, none⟩)) w := by
  obtain ⟨v, ps, hrun, hv⟩ := h.lookup law3 Yba.underlying27 (zero23 w) (zd := .nil) (zp := []) rfl (keyOf_int_mk Yba.underlying3 hx)
  rw [hat] at hv
  rw [ptrElem_inv hv] at hrun
  exact hrun

theorem isKeyLit_int (x : Int) : WideAt.IsKeyLit (.int .i64 x) := by trivial

theorem lit_ne {x y : Int} (h : x ≠ y) : Lit.int .i64 x ≠ Lit.int .i64 y := fun e => h (by cases e; rfl)

/-- How many entries the block has. -/
theorem map_block {w : World} {b n : Nat} {D : DataW Unit} (h : w.ownsMap Yba.prog 3 ptrElem b n D) : ∃ es clock, w.heap[b]? = some (.map es clock) ∧ es.size = Maps.size D := by
  obtain ⟨es, clock, hb, _, _, rfl⟩ := h
  exact ⟨es, clock, hb, by rw [size_eq, length_read]⟩

end Go.Proofs.Ybulkbrcu
