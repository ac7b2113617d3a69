/-
  '(*Store).Dangling' (function 11) of a store all of whose objects exist: nil.
-/
import Derived.Test.YbulkbrcuNew
import Derived.Test.YbulkbrcuSort
namespace Go.Proofs.Ybulkbrcu
open Go.RowKit Go.Maps

theorem key9_inv (key : Value) (kl : Lit) (h : keyOf Yba.prog 9 key = some kl) : ∃ x : ByteArray, key = .string x := by
  cases key <;> simp [keyOf, Yba.underlying9, mapKey] at h
  exact ⟨_, rfl⟩

theorem grow_below (w : World) (os : Array Obj) : Below w.heap.size w (Sort.grow w os) := ⟨rfl, rfl, rfl, by simp, fun k hk => Sort.heap_grow_old w os hk⟩

set_option maxRecDepth 100000 in
set_option maxHeartbeats 1600000 in
theorem storeDangling (B sB mB n : Nat) (w : World) (h : St B sB mB n w) :
    Calls Yba.prog 11 #[.pointer (some ⟨sB, 0, none⟩)] w fun e w' => e = .returned (.slice none 0 0) ∧ Below w.heap.size w w' := by
  have hb1 : Below w.heap.size w (w.alloc (.cells #[.slice none 0 0] 39)) := (Below.refl _ w).alloc (Nat.le_refl _) _
  have hld := h.load
  have hld1 : (w.alloc (.cells #[.slice none 0 0] 39)).cell? ⟨sB, 0, none⟩ = some (.map (some mB)) := (h.later hb1).load
  obtain ⟨D, hown, hD⟩ := h.map
  have hmlt := hown.lt
  have hslt := World.block_lt_of_cell? w _ hld
  go_enter Yba.func11, Yba.ntmps11
  go_wp2_with (first
    | (at_range; refine wpList_range_own _ rfl _ 59 rfl 9 73 law9 Yba.underlying59 nnElem mB n D rfl (hown.alloc _) ?_; intro w0 hrg0 hg0 hs0)
    | go_in)
  have hsz1 : (w.alloc (.cells #[.slice none 0 0] 39)).heap.size = w.heap.size + 1 := by simp
  rw [hsz1] at hrg0
  have hb0 : Below (w.heap.size + 1) (w.alloc (.cells #[.slice none 0 0] 39)) w0 := (Below.refl _ _).grown hg0 (by omega) (fun k hk => by cases hk)
  go_loopw [4] (fun _ wr => ∃ (left : Lit → Bool) (cnt : Nat), wr.ranges Yba.prog 9 nnElem mB (w.heap.size + 1) n D left cnt ∧ Below (w.heap.size + 1) (w.alloc (.cells #[.slice none 0 0] 39)) wr)
    (fun _ wr => wr.rangeLeft mB (w.heap.size + 1))
  case atStart => exact ⟨_, _, hrg0, hb0⟩
  case round =>
    obtain ⟨left, cnt, hrg, hbw⟩ := hrel
    have hbw1 : Below w.heap.size w wr := hb1.trans (hbw.mono (by omega))
    go_wp2_with (first
      | (at_next; refine wpList_next_ranges _ rfl _ rfl 9 law9 nnElem Value.string (fun b : Nat => .pointer (some ⟨b, 0, none⟩)) key9_inv (fun v y hv => (nnElem_inv hv).imp fun b hb => hb.1) mB _ n _ _ _ rfl hrg ?_ ?_)
      | go_in)
    · intro _ hl0
      have hcr : wr.cell? ⟨w.heap.size, 0, none⟩ = some (.slice none 0 0) := by
        rw [hbw.cell (p := ⟨w.heap.size, 0, none⟩) (by show w.heap.size < w.heap.size + 1; omega)]
        exact (cellOf (heap_alloc_new w (.cells #[.slice none 0 0] 39)) (o := 0) rfl).1
      go_wp2_with (first
        | (go_at_call 13; refine (sort_nil _ _ _ _).mono ?_; rintro e w2 ⟨rfl, os, rfl⟩; have hcr2 := (Sort.cell?_grow wr os ⟨w.heap.size, 0, none⟩ (World.block_lt_of_cell? wr _ hcr)).trans hcr)
        | go_in)
      go_ret
      exact ⟨rfl, hbw1.trans ((grow_below wr os).mono hbw1.size)⟩
    · intro x c kl y1 y2 w1 cnt1 hkl hlx hy hat hrg1 hlt hg1 hs1 hen
      have hbn : Below (w.heap.size + 1) (w.alloc (.cells #[.slice none 0 0] 39)) w1 := hbw.grown hg1 (by have := hrg.lt; omega) (fun k hk => by cases hk; exact Nat.le_refl _)
      have hbn1 : Below w.heap.size w w1 := hb1.trans (hbn.mono (by omega))
      have S1 := h.later hbn1
      have hl1 := S1.load
      have O1 : ObjOk w1 c := by
        simp [nnElem] at hy
        refine (hD kl c ?_).1.keep (fun cc t hc => (hbn1.block _ (Array.getElem?_eq_some_iff.1 hc).1).trans hc)
        rw [hat, ← hy.1]
      obtain ⟨⟨s, q1, q2⟩, q3, q4⟩ := O1.cell
      rcases S1.look s q2 with hlk | ⟨b, hlk, hob, hBb⟩
      · go_wp2
        all_goals
          go_roundw
          case rel => exact ⟨_, cnt1, hrg1, hbn⟩
          case measure => rw [hrg1.left_eq, hrg.left_eq]; exact hlt
      · obtain ⟨⟨so, p1, p2⟩, p3, p4⟩ := hob.cell
        go_wp2
        all_goals
          go_roundw
          case rel => exact ⟨_, cnt1, hrg1, hbn⟩
          case measure => rw [hrg1.left_eq, hrg.left_eq]; exact hlt

end Go.Proofs.Ybulkbrcu
