/-
  'LawS3387BOne' (function 3): her walks.
-/
import Derived.Test.YbulkbrcuEdge
import Derived.Test.YbulkbrcuPtrMap
import Derived.Outline
import Derived.LaidEqlPtr
import Derived.Lib.Builder
import Derived.Laws.CopyOwn
import Derived.WalkSmall
import Derived.BigQuiet
import Derived.Deep.QuietTactic
namespace Go.Proofs.Ybulkbrcu
open Go.RowKit Go.Maps

def nodeObj (num : Int) (succ : Value) : Obj := .cells #[.int .i64 num, .slice none 0 0, .pointer none, succ, .int .i64 0] 25
def confObj (m : Nat) (sz : Int) : Obj := .cells #[.map (some m), .slice none 0 0, .map none, .slice none 0 0, .int .i64 sz, .int .i64 0] 30

theorem info25 : ∃ j, Yba.prog.info? 25 = some j := Option.isSome_iff_exists.1 (by kernel_rfl)
/-- 'p == p'. -/
theorem ptr_eql (a : Addr) (w : World) : (binOp .eql 23 (.pointer (some a)) (.pointer (some a))).run Yba.prog w = .ok (.bool true) w := by
  obtain ⟨j, hj⟩ := info25
  exact run_eql_ptr_same w a Yba.underlying23 hj

set_option maxRecDepth 100000 in
/-- More than 1024: true at once. -/
theorem one_long (m : Int) (f num : Int) (a : Option Addr) (len cap : Nat) (sz : Int) (w : World) (h : (1024 : Int) < len) :
    Calls Yba.prog 3 #[.int .u8 m, .int .i64 f, .int .i64 num, .slice a len cap, .int .i64 sz] w fun e w' => e = .returned (.bool true) ∧ Below w.heap.size w w' := by
  go_enter Yba.func3, Yba.ntmps3
  go_wp2
  go_ret
  exact ⟨rfl, Below.refl _ _⟩

theorem made_at {w : World} {b : Nat} (hb : w.heap.size = b) : (w.alloc (.map #[] 0)).ownsMap Yba.prog 3 ptrElem b 0 (.map []) := by
  subst hb
  exact World.ownsMap_made _ _ _ _

theorem Below.of_grown {w w1 : World} {r : Option Nat} (h : w.grownBy w1 r) : ∀ k, k < w.heap.size → some k ≠ r → w1.heap[k]? = w.heap[k]? := h.block

theorem cell_of_heap {w : World} {b o : Nat} {cs : Array Value} {t : TypeId} {v : Value} (h : w.heap[b]? = some (.cells cs t)) (hv : cs[o]? = some v) : w.cell? ⟨b, o, none⟩ = some v ∧ w.frozen? ⟨b, o, none⟩ = false := by
  simp [World.cell?, World.frozen?, h, hv]

theorem heap3 (w : World) (o1 o2 o3 : Obj) : ((((w.alloc o1).alloc o2).alloc o3).heap[w.heap.size]? = some o1 ∧ (((w.alloc o1).alloc o2).alloc o3).heap[w.heap.size + 1]? = some o2) ∧ (((w.alloc o1).alloc o2).alloc o3).heap[w.heap.size + 1 + 1]? = some o3 ∧ (((w.alloc o1).alloc o2).alloc o3).heap.size = w.heap.size + 3 := by
  refine ⟨⟨?_, ?_⟩, ?_, ?_⟩
  · show (((w.heap.push o1).push o2).push o3)[w.heap.size]? = _
    simp only [Array.getElem?_push, Array.size_push]
    rw [if_neg (by omega), if_neg (by omega), if_pos trivial]
  · show (((w.heap.push o1).push o2).push o3)[w.heap.size + 1]? = _
    simp only [Array.getElem?_push, Array.size_push]
    rw [if_neg (by omega), if_pos trivial]
  · show (((w.heap.push o1).push o2).push o3)[w.heap.size + 1 + 1]? = _
    simp only [Array.getElem?_push, Array.size_push]
    rw [if_pos trivial]
  · simp

/-- WHAT IS KNOWN behind 'g.nodes[num] = n'. -/
structure Laid (B : Nat) (num sz : Int) (w w1 : World) : Prop where
  below : Below B w w1
  size : B + 3 ≤ w1.heap.size
  n0 : w1.cell? ⟨B, 0, none⟩ = some (.int .i64 num)
  n3 : w1.cell? ⟨B, 3, none⟩ = some (.slice none 0 0)
  g0 : w1.cell? ⟨B + 1 + 1, 0, none⟩ = some (.map (some (B + 1)))
  g4 : w1.cell? ⟨B + 1 + 1, 4, none⟩ = some (.int .i64 sz)
  f4 : w1.frozen? ⟨B + 1 + 1, 4, none⟩ = false

theorem laid_of {num sz : Int} {w w1 : World} (h : (((w.alloc (nodeObj num (.slice none 0 0))).alloc (.map #[] 0)).alloc (confObj (w.heap.size + 1) sz)).grownBy w1 (some (w.heap.size + 1))) : Laid w.heap.size num sz w w1 := by
  obtain ⟨⟨h1, _⟩, h3, hs⟩ := heap3 w (nodeObj num (.slice none 0 0)) (.map #[] 0) (confObj (w.heap.size + 1) sz)
  have k1 := (h.block w.heap.size (by omega) (by simp)).trans h1
  have k3 := (h.block (w.heap.size + 1 + 1) (by omega) (by simp)).trans h3
  refine ⟨?_, by have := h.size; omega, (cell_of_heap k1 rfl).1, (cell_of_heap k1 rfl).1, (cell_of_heap k3 rfl).1, (cell_of_heap k3 rfl).1, (cell_of_heap k3 rfl).2⟩
  refine Below.grown ?_ h (by omega) (fun k hk => by cases hk; omega)
  exact (((Below.refl _ _).alloc (Nat.le_refl _) _).alloc (by simp) _).alloc (by simp; omega) _

theorem map_one {num : Int} {B : Nat} : ((DataW.map [] : DataW Unit).put (.int .i64 num) (.lit (.int .i64 (B : Int)))).atKey (.int .i64 num) .nil = .lit (.int .i64 (B : Int)) ∧ Maps.size ((DataW.map [] : DataW Unit).put (.int .i64 num) (.lit (.int .i64 (B : Int)))) = 1 := by
  refine ⟨atKey_put_same isMap_empty (isKeyLit_int _) _ _, ?_⟩
  rw [size_put tidy_empty]
  rfl

theorem ptr_neq (a : Addr) (w : World) : (binOp .neq 23 (.pointer (some a)) (.pointer (some a))).run Yba.prog w = .ok (.bool false) w := by
  obtain ⟨j, hj⟩ := info25
  exact Lib.run_neq_ptr_same w a Yba.underlying23 hj

set_option maxRecDepth 100000 in
set_option maxHeartbeats 1600000 in
theorem one_z (m : Int) (f num : Int) (a : Option Addr) (len cap : Nat) (sz : Int) (w : World) (h : (len : Int) ≤ 1024) (hm : (m.tmod 3 == 0) = true) (hnum : (Lit.int .i64 num).wf = true) :
    Calls Yba.prog 3 #[.int .u8 m, .int .i64 f, .int .i64 num, .slice a len cap, .int .i64 sz] w fun e w' => e = .returned (.bool true) ∧ Below w.heap.size w w' := by
  have hmm := @run_makeMap Yba.prog
  have hpe := ptr_eql
  go_enter Yba.func3, Yba.ntmps3
  go_wp2_with (first
    | (at_mapUpdate; refine wpList_mapUpdate_own _ rfl (.tmp 36) (.tmp 37) (.tmp 38) 27 rfl 3 23 law3 Yba.underlying27 ptrElem (w.heap.size + 1) 0 (.map []) rfl ((made_at (by simp)).alloc _) (by unfold maxLen; omega) _ _ _ rfl rfl (keyOf_int_mk Yba.underlying3 hnum) _ [] (ptrElem_mk w.heap.size) ?_; intro w1 hown1 hgrow1; have L := laid_of hgrow1; clear hgrow1; have hn0 := L.n0; have hn3 := L.n3; have hg0 := L.g0; have hg4 := L.g4; have hlk := ptr_look hown1 hnum map_one.1; have hle := hown1.len Yba.underlying27; rw [map_one.2] at hle)
    | (go_at_call 7; refine (edge_zero _ _ _).mono ?_; rintro e w' ⟨rfl, rfl⟩))
  go_ret
  exact ⟨rfl, L.below⟩

set_option maxRecDepth 100000 in
set_option maxHeartbeats 1600000 in
/-- mode % 3 = 1, num = 0. -/
theorem one_numz (m f : Int) (a : Option Addr) (len cap : Nat) (sz : Int) (w : World) (h : (len : Int) ≤ 1024) (hnum : (Lit.int .i64 0).wf = true) (hm : (m.tmod 3 == 0) = false) (hm1 : (m.tmod 3 == 1) = true) :
    Calls Yba.prog 3 #[.int .u8 m, .int .i64 f, .int .i64 0, .slice a len cap, .int .i64 sz] w fun e w' => e = .returned (.bool true) ∧ Below w.heap.size w w' := by
  have hmm := @run_makeMap Yba.prog
  have hpe := ptr_eql
  go_enter Yba.func3, Yba.ntmps3
  go_wp2_with (first
    | (at_mapUpdate; refine wpList_mapUpdate_own _ rfl (.tmp 36) (.tmp 37) (.tmp 38) 27 rfl 3 23 law3 Yba.underlying27 ptrElem (w.heap.size + 1) 0 (.map []) rfl ((made_at (by simp)).alloc _) (by unfold maxLen; omega) _ _ _ rfl rfl (keyOf_int_mk Yba.underlying3 hnum) _ [] (ptrElem_mk w.heap.size) ?_; intro w1 hown1 hgrow1; have L := laid_of hgrow1; clear hgrow1; have hn0 := L.n0; have hn3 := L.n3; have hg0 := L.g0; have hg4 := L.g4; have hlk := ptr_look hown1 hnum map_one.1; have hle := hown1.len Yba.underlying27; rw [map_one.2] at hle)
    | (go_at_call 7; refine (edge_zero _ _ _).mono ?_; rintro e w' ⟨rfl, rfl⟩))
  go_ret
  exact ⟨rfl, L.below⟩

set_option maxRecDepth 100000 in
set_option maxHeartbeats 1600000 in
/-- mode % 3 = 1, num not 0. -/
theorem one_num (m f num : Int) (a : Option Addr) (len cap : Nat) (sz : Int) (w : World) (h : (len : Int) ≤ 1024) (hnum : (Lit.int .i64 num).wf = true) (hm : (m.tmod 3 == 0) = false) (hm1 : (m.tmod 3 == 1) = true) (hz : (num == 0) = false) :
    Calls Yba.prog 3 #[.int .u8 m, .int .i64 f, .int .i64 num, .slice a len cap, .int .i64 sz] w fun e w' => e = .returned (.bool true) ∧ Below w.heap.size w w' := by
  have hz2 : (num != 0) = true := by simpa using hz
  have hmm := @run_makeMap Yba.prog
  have hpe := ptr_eql
  go_enter Yba.func3, Yba.ntmps3
  go_wp2_with (first
    | (at_mapUpdate; refine wpList_mapUpdate_own _ rfl (.tmp 36) (.tmp 37) (.tmp 38) 27 rfl 3 23 law3 Yba.underlying27 ptrElem (w.heap.size + 1) 0 (.map []) rfl ((made_at (by simp)).alloc _) (by unfold maxLen; omega) _ _ _ rfl rfl (keyOf_int_mk Yba.underlying3 hnum) _ [] (ptrElem_mk w.heap.size) ?_; intro w1 hown1 hgrow1; have L := laid_of hgrow1; clear hgrow1; have hn0 := L.n0; have hn3 := L.n3; have hg0 := L.g0; have hg4 := L.g4; have hlk := ptr_look hown1 hnum map_one.1; have hle := hown1.len Yba.underlying27; rw [map_one.2] at hle)
    | (go_at_call 7; refine (edge_self _ w.heap.size num _ hz hn0).mono ?_; rintro e w' ⟨rfl, rfl⟩))
  go_ret
  exact ⟨rfl, L.below⟩

set_option maxRecDepth 100000 in
set_option maxHeartbeats 1600000 in
/-- mode % 3 = 2, from = 0. -/
theorem one_fz (m num : Int) (a : Option Addr) (len cap : Nat) (sz : Int) (w : World) (h : (len : Int) ≤ 1024) (hnum : (Lit.int .i64 num).wf = true) (hm : (m.tmod 3 == 0) = false) (hm1 : (m.tmod 3 == 1) = false) :
    Calls Yba.prog 3 #[.int .u8 m, .int .i64 0, .int .i64 num, .slice a len cap, .int .i64 sz] w fun e w' => e = .returned (.bool true) ∧ Below w.heap.size w w' := by
  have hmm := @run_makeMap Yba.prog
  have hpe := ptr_eql
  go_enter Yba.func3, Yba.ntmps3
  go_wp2_with (first
    | (at_mapUpdate; refine wpList_mapUpdate_own _ rfl (.tmp 36) (.tmp 37) (.tmp 38) 27 rfl 3 23 law3 Yba.underlying27 ptrElem (w.heap.size + 1) 0 (.map []) rfl ((made_at (by simp)).alloc _) (by unfold maxLen; omega) _ _ _ rfl rfl (keyOf_int_mk Yba.underlying3 hnum) _ [] (ptrElem_mk w.heap.size) ?_; intro w1 hown1 hgrow1; have L := laid_of hgrow1; clear hgrow1; have hn0 := L.n0; have hn3 := L.n3; have hg0 := L.g0; have hg4 := L.g4; have hlk := ptr_look hown1 hnum map_one.1; have hle := hown1.len Yba.underlying27; rw [map_one.2] at hle)
    | (go_at_call 7; refine (edge_zero _ _ _).mono ?_; rintro e w' ⟨rfl, rfl⟩))
  go_ret
  exact ⟨rfl, L.below⟩

set_option maxRecDepth 100000 in
set_option maxHeartbeats 1600000 in
/-- mode % 3 = 2, from = num. -/
theorem one_fn (m num : Int) (a : Option Addr) (len cap : Nat) (sz : Int) (w : World) (h : (len : Int) ≤ 1024) (hnum : (Lit.int .i64 num).wf = true) (hm : (m.tmod 3 == 0) = false) (hm1 : (m.tmod 3 == 1) = false) (hz : (num == 0) = false) :
    Calls Yba.prog 3 #[.int .u8 m, .int .i64 num, .int .i64 num, .slice a len cap, .int .i64 sz] w fun e w' => e = .returned (.bool true) ∧ Below w.heap.size w w' := by
  have hz2 : (num != 0) = true := by simpa using hz
  have hmm := @run_makeMap Yba.prog
  have hpe := ptr_eql
  go_enter Yba.func3, Yba.ntmps3
  go_wp2_with (first
    | (at_mapUpdate; refine wpList_mapUpdate_own _ rfl (.tmp 36) (.tmp 37) (.tmp 38) 27 rfl 3 23 law3 Yba.underlying27 ptrElem (w.heap.size + 1) 0 (.map []) rfl ((made_at (by simp)).alloc _) (by unfold maxLen; omega) _ _ _ rfl rfl (keyOf_int_mk Yba.underlying3 hnum) _ [] (ptrElem_mk w.heap.size) ?_; intro w1 hown1 hgrow1; have L := laid_of hgrow1; clear hgrow1; have hn0 := L.n0; have hn3 := L.n3; have hg0 := L.g0; have hg4 := L.g4; have hlk := ptr_look hown1 hnum map_one.1; have hle := hown1.len Yba.underlying27; rw [map_one.2] at hle)
    | (go_at_call 7; refine (edge_self _ w.heap.size num _ hz hn0).mono ?_; rintro e w' ⟨rfl, rfl⟩))
  go_ret
  exact ⟨rfl, L.below⟩

end Go.Proofs.Ybulkbrcu
