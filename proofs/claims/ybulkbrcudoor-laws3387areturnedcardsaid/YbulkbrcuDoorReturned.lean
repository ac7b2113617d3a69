/-
  'appendReturned' (function 4): her walk.
-/
import Derived.Test.YbulkbrcuDoorElems
namespace Go.Proofs.YbulkbrcuDoor
open Go.RowKit

theorem WritesAre.less {wsB m n : Nat} {es tb : Nat → Nat} {w : World} (h : WritesAre wsB n es tb w) (hmn : m ≤ n) : WritesAre wsB m es tb w := by
  obtain ⟨cur, h1, h2⟩ := h
  exact ⟨cur, h1, fun j hj => h2 j (by omega)⟩

set_option maxRecDepth 100000 in
set_option maxHeartbeats 3200000 in
theorem returned_any (B xB itB wsB n cap : Nat) (es tb : Nat → Nat) (ab : Nat → Int) (a : Int) (v : Value) (bs : List UInt8) (w : World) (hn : n ≤ 1024) (hnc : n ≤ cap)
    (hO : ObjIs B xB v bs w) (hBx : B ≤ xB) (hit : w.cell? ⟨itB, 1, none⟩ = some (.slice (some ⟨wsB, 0, none⟩) n cap)) (hW : WritesAre wsB n es tb w) (hT : TxnsAre n tb ab w) (htab : Lib.TabBelow Ybad.prog B w tabName .u64 Lib.pow10Tab) (hbs : bs.length ≤ 2000) (hes : ∀ j, j < n → es j ≤ 100000)
    (mono : ∀ i j, i ≤ j → j < n → es i ≤ es j) :
    Calls Ybad.prog 4 #[.pointer (some ⟨xB, 0, none⟩), .agg #[.pointer (some ⟨itB, 0, none⟩), .int .i64 a, .bool false]] w fun e w' => e = .returned (.tuple #[]) ∧ ∃ (b : Nat) (v' : Value), b ≤ n ∧ (∀ i, i < b → (es i : Int) < a) ∧ (b < n → a ≤ (es b : Int)) ∧ ObjIs B xB v' (bs ++ [91] ++ (emit a es ab b).1 ++ [93]) w' ∧ Lib.OthersKept 5 (some xB) w w' ∧ Below B w w' := by
  have hlt := hO.lt
  have hbit := World.block_lt_of_cell? w _ hit
  go_enter Ybad.func4, Ybad.ntmps4
  go_wp2_with fail
  have hbw : Below w.heap.size w ((w.alloc (.cells #[.pointer (some ⟨itB, 0, none⟩), .int .i64 a, .bool false] 47)).alloc (.cells #[.slice (some ⟨wsB, 0, none⟩) n cap] 29)) := ((Below.refl _ w).alloc (Nat.le_refl _) _).alloc (by simp) _
  have hA : ((w.alloc (.cells #[.pointer (some ⟨itB, 0, none⟩), .int .i64 a, .bool false] 47)).alloc (.cells #[.slice (some ⟨wsB, 0, none⟩) n cap] 29)).heap[w.heap.size]? = some (.cells #[.pointer (some ⟨itB, 0, none⟩), .int .i64 a, .bool false] 47) := by
    rw [Below.heap_alloc _ _ _ (by simp)]
    exact heap_alloc_new w _
  have hR : ((w.alloc (.cells #[.pointer (some ⟨itB, 0, none⟩), .int .i64 a, .bool false] 47)).alloc (.cells #[.slice (some ⟨wsB, 0, none⟩) n cap] 29)).heap[w.heap.size + 1]? = some (.cells #[.slice (some ⟨wsB, 0, none⟩) n cap] 29) := by
    have := heap_alloc_new (w.alloc (.cells #[.pointer (some ⟨itB, 0, none⟩), .int .i64 a, .bool false] 47)) (.cells #[.slice (some ⟨wsB, 0, none⟩) n cap] 29)
    simpa using this
  generalize ((w.alloc (.cells #[.pointer (some ⟨itB, 0, none⟩), .int .i64 a, .bool false] 47)).alloc (.cells #[.slice (some ⟨wsB, 0, none⟩) n cap] 29)) = W at hbw hA hR ⊢
  have hO1 := hO.later hbw
  have hk1 : Lib.OthersKept 5 (some xB) w W := kept_below hbw
  have hW1 := hW.kept hO hk1
  have hT1 := hT.kept hO hk1
  have hp4 := (cell_of_heap hR (o := 0) rfl).1
  have hp3 := (cell_of_heap hA (o := 1) rfl).1
  obtain ⟨cur, hcur, hcells⟩ := hW1
  refine (search_any (w.heap.size + 1) w.heap.size wsB n cap (fun i => (es i : Int)) a W hn hp4 (fun i hi => (cell_of_heap hcur (hcells i hi).1).1) hp3 (fun i j h1 h2 => by have := mono i j h1 h2; show (es i : Int) ≤ (es j : Int); omega)).mono ?_
  rintro e w' ⟨b, rfl, hbn, hlo, hhi, q, rfl⟩
  have hb0 : (0 : Int) ≤ (b : Int) := Int.natCast_nonneg _
  have hbc : (b : Int) ≤ (cap : Int) := by omega
  have hbq : Below W.heap.size W (W.drewN q) := below_drewN (Below.refl _ _) q
  have hp4' : (W.drewN q).cell? ⟨w.heap.size + 1, 0, none⟩ = some (.slice (some ⟨wsB, 0, none⟩) n cap) := hp4
  clear hp3 hcells hcur
  have HLO : Hid (∀ i, i < b → (es i : Int) < a) := hlo
  have HHI : Hid (b < n → a ≤ (es b : Int)) := hhi
  clear hlo hhi
  go_wp2_with fail
  have hOq := hO1.later hbq
  have hkq : Lib.OthersKept 5 (some xB) w (W.drewN q) := hk1.trans (kept_below hbq)
  have hbB : Below B w (W.drewN q) := (hbw.mono (by omega)).trans (hbq.mono (by have := hbw.size; omega))
  refine (elems_any B xB wsB w.heap.size b cap es tb ab a v bs (W.drewN q) (by omega) hOq hBx ((hW.kept hO hkq).less hbn) (fun j hj => (hT.kept hO hkq) j (by omega)) ⟨_, hA, rfl⟩ (htab.on hbB) hbs (fun j hj => hes j (by omega))).mono ?_
  rintro e w' ⟨rfl, v', hO', hk', hb'⟩
  go_wp2
  go_end0
  exact ⟨rfl, b, v', hbn, HLO.out, HHI.out, hO', hkq.trans hk', hbB.trans hb'⟩

end Go.Proofs.YbulkbrcuDoor
