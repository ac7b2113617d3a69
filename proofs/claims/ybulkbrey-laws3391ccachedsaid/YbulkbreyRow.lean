/-
  A row of directives that the call has made and is filling; what is told of a slice of directives that came in.
-/
import Derived.Test.YbulkbreyRows
import Derived.WalkKit
import Derived.Below
namespace Go.Proofs.Ybulkbrey
open Go.RowKit

/-- A slice of 'ZzS3391CDir' that came in: element j is N j, V j, O j. -/
def Dirs (w : World) (a : Option Addr) (len : Nat) (N V : Nat → ByteArray) (O : Nat → Int) : Prop := ∀ j, j < len → ∃ b off, a = some ⟨b, off, none⟩ ∧ w.cell? ⟨b, off + j * 3, none⟩ = some (.string (N j)) ∧ w.cell? ⟨b, off + j * 3 + 1, none⟩ = some (.string (V j)) ∧ w.cell? ⟨b, off + j * 3 + 2, none⟩ = some (.int .u8 (O j))

/-- Block D: a row of n directives, the first k of them filled. -/
def Row (w : World) (D n k : Nat) (N V : Nat → ByteArray) : Prop := ∃ c t, w.heap[D]? = some (.cells c t) ∧ c.size = n * 3 ∧ ∀ j, j < k → c[j * 3]? = some (.string (N j)) ∧ c[j * 3 + 1]? = some (.string (V j)) ∧ c[j * 3 + 2]? = some Value.nilIface

theorem cellOf {w : World} {b o : Nat} {cs : Array Value} {t : TypeId} {v : Value} (h : w.heap[b]? = some (.cells cs t)) (hv : cs[o]? = some v) : w.cell? ⟨b, o, none⟩ = some v ∧ w.frozen? ⟨b, o, none⟩ = false := by
  simp [World.cell?, World.frozen?, h, hv]

theorem Row.lt {w : World} {D n k : Nat} {N V : Nat → ByteArray} (h : Row w D n k N V) : D < w.heap.size := by
  obtain ⟨c, t, h1, _⟩ := h
  exact (Array.getElem?_eq_some_iff.1 h1).1

theorem Row.keep {w w' : World} {D n k : Nat} {N V : Nat → ByteArray} (h : Row w D n k N V) (hb : w'.heap[D]? = w.heap[D]?) : Row w' D n k N V := by
  obtain ⟨c, t, h1, r⟩ := h
  exact ⟨c, t, hb.trans h1, r⟩

theorem Row.cells {w : World} {D n k : Nat} {N V : Nat → ByteArray} (h : Row w D n k N V) {j : Nat} (hj : j < k) : w.cell? ⟨D, j * 3, none⟩ = some (.string (N j)) ∧ w.cell? ⟨D, j * 3 + 1, none⟩ = some (.string (V j)) ∧ w.cell? ⟨D, j * 3 + 2, none⟩ = some Value.nilIface := by
  obtain ⟨c, t, h1, _, h3⟩ := h
  obtain ⟨q1, q2, q3⟩ := h3 j hj
  exact ⟨(cellOf h1 q1).1, (cellOf h1 q2).1, (cellOf h1 q3).1⟩

/-- There is room for element k. -/
theorem Row.room {w : World} {D n k : Nat} {N V : Nat → ByteArray} (h : Row w D n k N V) {j : Nat} (hj : j < n) : ∃ x y z, (w.cell? ⟨D, j * 3, none⟩ = some x ∧ w.frozen? ⟨D, j * 3, none⟩ = false) ∧ (w.cell? ⟨D, j * 3 + 1, none⟩ = some y ∧ w.frozen? ⟨D, j * 3 + 1, none⟩ = false) ∧ (w.cell? ⟨D, j * 3 + 2, none⟩ = some z ∧ w.frozen? ⟨D, j * 3 + 2, none⟩ = false) := by
  obtain ⟨c, t, h1, h2, _⟩ := h
  exact ⟨c[j * 3]'(by omega), c[j * 3 + 1]'(by omega), c[j * 3 + 2]'(by omega), cellOf h1 (by simp), cellOf h1 (by simp), cellOf h1 (by simp)⟩

/-- 'xs[k] = Directive{..}'. -/
theorem Row.set {w : World} {D n k : Nat} {N V : Nat → ByteArray} (h : Row w D n k N V) (hk : k < n) :
    Row (((w.setCell ⟨D, k * 3, none⟩ (.string (N k))).setCell ⟨D, k * 3 + 1, none⟩ (.string (V k))).setCell ⟨D, k * 3 + 2, none⟩ Value.nilIface) D n (k + 1) N V := by
  obtain ⟨c, t, h1, h2, h3⟩ := h
  refine ⟨((c.setIfInBounds (k * 3) (.string (N k))).setIfInBounds (k * 3 + 1) (.string (V k))).setIfInBounds (k * 3 + 2) Value.nilIface, t, ?_, by simp [h2], fun j hj => ?_⟩
  · simp [World.setCell, Array.getElem?_modify, h1]
  · simp only [Array.getElem?_setIfInBounds, Array.size_setIfInBounds]
    rcases Nat.lt_succ_iff_lt_or_eq.1 hj with hl | rfl
    · obtain ⟨q1, q2, q3⟩ := h3 j hl
      rw [if_neg (by omega), if_neg (by omega), if_neg (by omega), if_neg (by omega), if_neg (by omega), if_neg (by omega), if_neg (by omega), if_neg (by omega), if_neg (by omega)]
      exact ⟨q1, q2, q3⟩
    · refine ⟨?_, ?_, ?_⟩
      · rw [if_neg (by omega), if_neg (by omega), if_pos rfl, if_pos (by omega)]
      · rw [if_neg (by omega), if_pos rfl, if_pos (by omega)]
      · rw [if_pos rfl, if_pos (by omega)]

noncomputable def infoD : TypeInfo := (Yba.prog.info? 33).get (by kernel_rfl)
noncomputable def madeD (n : Nat) : Array Value := madeCells (Value.agg #[.string ⟨#[]⟩, .string ⟨#[]⟩, Value.nilIface]).cells (n * infoD.size)
theorem madeD_size (n : Nat) : (madeD n).size = n * 3 := by
  have : infoD.size = 3 := by kernel_rfl
  simp [madeD, madeCells, this]

/-- 'make([]Directive, n)'. -/
theorem make_dirs (n : Nat) (hn : (n : Int) ≤ 1024) (w : World) : (Instr.makeSlice 23 (.int .i64 (n : Int)) (.int .i64 (n : Int))).run Yba.prog w = .ok (.slice (some ⟨w.heap.size, 0, none⟩) n n) (w.alloc (.cells (madeD n) 33)) := by
  have hb : infoD.bytes ≤ 1000 := of_decide_eq_true (by kernel_rfl)
  have := run_make (P := Yba.prog) (w := w) 23 33 infoD (Value.agg #[.string ⟨#[]⟩, .string ⟨#[]⟩, Value.nilIface]) Yba.underlying23 (by kernel_rfl) (by kernel_rfl) .i64 .i64 n n (by omega) (by omega)
    (by
      have h1 : (infoD.bytes : Int) * (n : Int) ≤ 1000 * 1024 := Int.mul_le_mul (by omega) hn (by omega) (by omega)
      omega) (by omega)
  simpa [madeD] using this

theorem made_row (n : Nat) (N V : Nat → ByteArray) (w : World) : Row (w.alloc (.cells (madeD n) 33)) w.heap.size n 0 N V := ⟨madeD n, 33, heap_alloc_new w _, madeD_size n, fun j hj => by omega⟩

end Go.Proofs.Ybulkbrey
