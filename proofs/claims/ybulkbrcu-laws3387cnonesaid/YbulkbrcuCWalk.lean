/-
  The walks of 'check.LawS3387CNone' (function 6) and 'check.LawS3387CMet' (function 5).
-/
import Derived.Test.YbulkbrcuRefs
namespace Go.Proofs.Ybulkbrcu
open Go.RowKit Go.Maps

set_option maxRecDepth 100000 in
theorem none_long (a : Option Addr) (len cap : Nat) (w : World) (hlen : (1024 : Int) < (len : Int)) :
    Calls Yba.prog 6 #[.slice a len cap] w fun e w' => e = .returned (.bool true) ∧ Below w.heap.size w w' := by
  go_enter Yba.func6, Yba.ntmps6
  go_wp2
  go_ret
  exact ⟨rfl, Below.refl _ _⟩

theorem len_met {w : World} {M : Nat} {ty : TypeId} (h : w.heap[M]? = some (.map #[] 0)) : (Builtin.len_ #[48] ty #[.map (some M)]).run Yba.prog w = .ok (.int .i64 0) w := by
  simp [Builtin.len_, run_underlying Yba.underlying48, MapKept.run_getObj_map h, goInt, Result.andThen]

set_option maxRecDepth 100000 in
theorem none_any (a : Option Addr) (len cap : Nat) (w : World) (hlen : (len : Int) ≤ 1024) (hr : Refs w a len) :
    Calls Yba.prog 6 #[.slice a len cap] w fun e w' => e = .returned (.bool true) ∧ Below w.heap.size w w' := by
  have hN := newReferences_any a len cap w hlen hr
  clear hr
  go_enter Yba.func6, Yba.ntmps6
  go_wp2_with (first
    | (go_at_call 8; refine hN.mono ?_; rintro e w1 ⟨R, M, rfl, R1, hb1⟩; have hD := dangling_nil _ _ _ _ R1)
    | (go_at_call 9; refine hD.mono ?_; rintro e w2 ⟨rfl, hb2⟩; obtain ⟨sB, mB, n, hc, S⟩ := R1.cells; have hlt : R < w1.heap.size := (Array.getElem?_eq_some_iff.1 hc).1; have c1 := (hb2.cell (p := ⟨R, 1, none⟩) hlt).trans (cellOf hc (o := 1) (v := .map (some M)) rfl).1; have c2 := (hb2.cell (p := ⟨R, 2, none⟩) hlt).trans (cellOf hc (o := 2) (v := .pointer none) rfl).1; have hsz := hb2.size; have hRz := Nat.lt_of_lt_of_le hlt hsz; have hml := fun o => len_met (w := w2.alloc o) (ty := 3) ((Below.heap_alloc w2 o M (Nat.lt_of_lt_of_le (Array.getElem?_eq_some_iff.1 R1.met).1 hsz)).trans ((hb2.block M (Array.getElem?_eq_some_iff.1 R1.met).1).trans R1.met)); clear hc)
    | go_in)
  go_ret
  exact ⟨rfl, (hb1.trans (hb2.mono hb1.size)).alloc (Nat.le_trans hb1.size hsz) _⟩

set_option maxRecDepth 100000 in
theorem met_long (a : Option Addr) (len cap : Nat) (x y z : Int) (s : ByteArray) (w : World) (hlen : (1024 : Int) < (len : Int)) :
    Calls Yba.prog 5 #[.slice a len cap, .int .i64 x, .int .i64 y, .string s, .int .i64 z] w fun e w' => e = .returned (.bool true) ∧ Below w.heap.size w w' := by
  go_enter Yba.func5, Yba.ntmps5
  go_wp2
  go_ret
  exact ⟨rfl, Below.refl _ _⟩

/-- What the walk is told behind 'd := r.dangling()'. -/
theorem met_facts {B R M N : Nat} {x y z : Int} {s : ByteArray} {w1 w2 : World} (R1 : Rf B R M (.pointer none) w1)
    (hN : ((w1.setCell ⟨R, 2, none⟩ (.pointer (some ⟨w1.heap.size, 0, none⟩))).alloc (.cells #[.int .i64 x, .int .i64 y, .string s, .int .i64 z] 46)).heap.size ≤ N) (hNc : w2.heap[N]? = some (.cells #[.int .i64 x, .int .i64 y, .string s] 44))
    (hb : Below ((w1.setCell ⟨R, 2, none⟩ (.pointer (some ⟨w1.heap.size, 0, none⟩))).alloc (.cells #[.int .i64 x, .int .i64 y, .string s, .int .i64 z] 46)).heap.size ((w1.setCell ⟨R, 2, none⟩ (.pointer (some ⟨w1.heap.size, 0, none⟩))).alloc (.cells #[.int .i64 x, .int .i64 y, .string s, .int .i64 z] 46)) w2) :
    (R < w1.heap.size ∧ w1.heap.size < N ∧ N < w2.heap.size) ∧ w2.cell? ⟨R, 2, none⟩ = some (.pointer (some ⟨w1.heap.size, 0, none⟩)) ∧
    (w2.cell? ⟨w1.heap.size, 0, none⟩ = some (.int .i64 x) ∧ w2.cell? ⟨w1.heap.size, 1, none⟩ = some (.int .i64 y) ∧ w2.cell? ⟨w1.heap.size, 2, none⟩ = some (.string s) ∧ w2.cell? ⟨w1.heap.size, 3, none⟩ = some (.int .i64 z)) ∧
    (w2.cell? ⟨N, 0, none⟩ = some (.int .i64 x) ∧ w2.frozen? ⟨N, 0, none⟩ = false) ∧ (w2.cell? ⟨N, 1, none⟩ = some (.int .i64 y) ∧ w2.frozen? ⟨N, 1, none⟩ = false) ∧ (w2.cell? ⟨N, 2, none⟩ = some (.string s) ∧ w2.frozen? ⟨N, 2, none⟩ = false) ∧ Below w1.heap.size (w1.setCell ⟨R, 2, none⟩ (.pointer (some ⟨w1.heap.size, 0, none⟩))) w2 := by
  obtain ⟨sB, mB, n, hc, S⟩ := (R1.setFirst (pv := .pointer (some ⟨w1.heap.size, 0, none⟩)) (o := .cells #[.int .i64 x, .int .i64 y, .string s, .int .i64 z] 46)).cells
  obtain ⟨sB', mB', n', hc', S'⟩ := R1.cells
  have hlt : R < w1.heap.size := (Array.getElem?_eq_some_iff.1 hc').1
  have hNl : N < w2.heap.size := (Array.getElem?_eq_some_iff.1 hNc).1
  have hz : ((w1.setCell ⟨R, 2, none⟩ (.pointer (some ⟨w1.heap.size, 0, none⟩))).alloc (.cells #[.int .i64 x, .int .i64 y, .string s, .int .i64 z] 46)).heap.size = w1.heap.size + 1 := by simp
  have hF : w2.heap[w1.heap.size]? = some (.cells #[.int .i64 x, .int .i64 y, .string s, .int .i64 z] 46) := by
    rw [hb.block _ (by rw [hz]; omega)]
    have := heap_alloc_new (w1.setCell ⟨R, 2, none⟩ (.pointer (some ⟨w1.heap.size, 0, none⟩))) (.cells #[.int .i64 x, .int .i64 y, .string s, .int .i64 z] 46)
    simpa using this
  have hR : w2.heap[R]? = some (.cells #[.pointer (some ⟨sB, 0, none⟩), .map (some M), .pointer (some ⟨w1.heap.size, 0, none⟩)] 50) := (hb.block _ (by rw [hz]; omega)).trans hc
  exact ⟨⟨hlt, by omega, hNl⟩, (cellOf hR rfl).1, ⟨(cellOf hF rfl).1, (cellOf hF rfl).1, (cellOf hF rfl).1, (cellOf hF rfl).1⟩, cellOf hNc rfl, cellOf hNc rfl, cellOf hNc rfl,
    ((Below.refl _ _).alloc (by simp) _).trans (hb.mono (by rw [hz]; omega))⟩

set_option maxRecDepth 100000 in
theorem met_any (a : Option Addr) (len cap : Nat) (x y z : Int) (s : ByteArray) (w : World) (hlen : (len : Int) ≤ 1024) (hr : Refs w a len) (hs : s.size + 1 ≤ 9223372036854775807) :
    Calls Yba.prog 5 #[.slice a len cap, .int .i64 x, .int .i64 y, .string s, .int .i64 z] w fun e w' => e = .returned (.bool true) ∧ Below w.heap.size w w' := by
  have hN := newReferences_any a len cap w hlen hr
  clear hr
  go_enter Yba.func5, Yba.ntmps5
  go_wp2_with (first
    | (go_at_call 8; refine hN.mono ?_; rintro e w1 ⟨R, M, rfl, R1, hb1⟩; obtain ⟨sB, mB, n, hc, S⟩ := R1.cells; have hlt : R < w1.heap.size := (Array.getElem?_eq_some_iff.1 hc).1; have c2 := (cellOf hc (o := 2) (v := .pointer none) rfl); clear hc; obtain ⟨c2, z2⟩ := c2
       have hD := dangling_met _ R M w1.heap.size x y z s _ (R1.setFirst (pv := .pointer (some ⟨w1.heap.size, 0, none⟩)) (o := .cells #[.int .i64 x, .int .i64 y, .string s, .int .i64 z] 46)) (by simpa using heap_alloc_new (w1.setCell ⟨R, 2, none⟩ (.pointer (some ⟨w1.heap.size, 0, none⟩))) (.cells #[.int .i64 x, .int .i64 y, .string s, .int .i64 z] 46)))
    | (go_at_call 9; refine hD.mono ?_; rintro e w2 ⟨N, rfl, hN1, hN2, hb2⟩; obtain ⟨⟨s1, s2, s3⟩, t0, ⟨u0, u1, u2, u3⟩, ⟨v0, v1⟩, ⟨v2, v3⟩, ⟨v4, v5⟩, hb3⟩ := met_facts R1 hN1 hN2 hb2; have s4 := Nat.lt_trans s2 s3; have s5 := Nat.lt_trans s1 s4; have s6 := Nat.lt_trans s1 s2)
    | go_in)
  go_ret
  have q := hb1.size
  refine ⟨rfl, ?_⟩
  exact (((((hb1.setCell (p := ⟨R, 2, none⟩) (by exact R1.lo) _).trans (hb3.mono q)).setCell (p := ⟨N, 0, none⟩) (by show w.heap.size ≤ N; omega) _).setCell (p := ⟨N, 1, none⟩) (by show w.heap.size ≤ N; omega) _).setCell (p := ⟨N, 2, none⟩) (by show w.heap.size ≤ N; omega) _).alloc (by simp; omega) _

end Go.Proofs.Ybulkbrcu
