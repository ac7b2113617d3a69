/-
  'appendElements' (function 8): her walk.
-/
import Derived.Test.YbulkbrcuDoorParts
namespace Go.Proofs.YbulkbrcuDoor
open Go.RowKit

set_option maxRecDepth 100000 in
set_option maxHeartbeats 3200000 in
theorem elems_any (B xB wsB p3 m cap : Nat) (es tb : Nat → Nat) (ab : Nat → Int) (a : Int) (v : Value) (bs : List UInt8) (w : World) (hm : m ≤ 1024)
    (hO : ObjIs B xB v bs w) (hBx : B ≤ xB) (hW : WritesAre wsB m es tb w) (hT : TxnsAre m tb ab w) (hA : AccessIs p3 a w) (htab : Lib.TabBelow Ybad.prog B w tabName .u64 Lib.pow10Tab) (hbs : bs.length ≤ 2000) (hes : ∀ j, j < m → es j ≤ 100000) :
    Calls Ybad.prog 8 #[.pointer (some ⟨xB, 0, none⟩), .slice (some ⟨wsB, 0, none⟩) m cap, .func (Fn.func 9) #[] #[.pointer (some ⟨p3, 0, none⟩)]] w fun e w' => e = .returned (.tuple #[]) ∧ ∃ v', ObjIs B xB v' (bs ++ [91] ++ (emit a es ab m).1 ++ [93]) w' ∧ Lib.OthersKept 5 (some xB) w w' ∧ Below B w w' := by
  obtain ⟨i0, hi0, hz0, hz1, hz2⟩ := info_parts info5
  have hld := hO.load
  have ld1 := hld.1
  have hlt := hO.lt
  have hlda := fun o => (World.cell?_alloc_lt w o ⟨xB, 2, none⟩ hlt).trans ld1
  go_enter Ybad.func8, Ybad.ntmps8
  go_wp2_with (at_builtin; refine wpList_append_b _ rfl (.tmp 13) (.tmp 14) 22 rfl i0 Ybad.underlying22 hi0 hz0 hz1 hz2 B v bs.length _ rfl (hO.2.alloc _) ⟨w.heap.size, 0, none⟩ 1 1 [.int .u8 91] rfl rfl (cell_one_new _ _ _) (ints_oneCell .u8 [91]) (by omega) (by omega) (by simp; omega) ?_; intro g1 cap1 w1 hown1 hgrow1 hat1; have f1 := (obj_far hO hgrow1).1; have f2 := (obj_far hO hgrow1).2)
  have P0 := obj_push 91 (cv := 91) rfl hO hBx hgrow1 hown1
  clear hown1 hgrow1 hat1 f1 f2 hlda ld1 hld
  go_loopw [6, 20] (fun fst i wr => ∃ (j : Nat) (vj : Value), j ≤ m ∧ i = .int .i64 (j : Int) ∧ fst = .bool (emit a es ab j).2 ∧ ObjIs B xB vj (bs ++ [91] ++ (emit a es ab j).1) wr ∧ Lib.OthersKept 5 (some xB) w wr ∧ Below B w wr) (fun _ i _ => m - (intOf i).toNat)
  case atStart => exact ⟨0, _, Nat.zero_le _, rfl, rfl, by simpa [emit] using P0.1, P0.2.1, P0.2.2⟩
  case round =>
    clear P0
    obtain ⟨j, vj, hj, rfl, rfl, hOj, hkj, hbj⟩ := hrel
    have hle := emit_le a es ab m hes j hj
    have hbl : (bs ++ [91] ++ (emit a es ab j).1).length ≤ 2001 + 21 * j := by simp; omega
    obtain ⟨bj, hbe⟩ : ∃ bj, bj = bs ++ [91] ++ (emit a es ab j).1 := ⟨_, rfl⟩
    rw [← hbe] at hOj hbl
    have HB : Hid (bj = bs ++ [91] ++ (emit a es ab j).1) := hbe
    clear hbe hle
    by_cases hjm : j < m
    · have hesj := hes j hjm
      obtain ⟨cur, hcur, hcells⟩ := hW.kept hO hkj
      obtain ⟨cA, hA1, hA2⟩ := hA.kept hO hkj
      obtain ⟨cT, hT1, hT2⟩ := hT.kept hO hkj j hjm
      obtain ⟨c1, c2⟩ := hcells j hjm
      have x1 := (cell_of_heap hcur c1).1
      have x2 := (cell_of_heap hcur c2).1
      have y1 := fun o => (cell_of_heap ((Below.heap_alloc wr o p3 (Array.getElem?_eq_some_iff.1 hA1).1).trans hA1) hA2).1
      have y2 := fun o => (cell_of_heap ((Below.heap_alloc wr o (tb j) (Array.getElem?_eq_some_iff.1 hT1).1).trans hT1) hT2).1
      have hj0 : (0 : Int) ≤ (j : Int) := Int.natCast_nonneg _
      have hj1 : (j : Int) < (m : Int) := by omega
      clear hcur hcells hA1 hA2 hT1 hT2 c1 c2
      go_wp2_with fail
      refine (keep_any (tb j) p3 (ab j) a _ (y2 _) (y1 _)).mono ?_
      rintro e w' ⟨rfl, q, rfl⟩
      have hbw : Below wr.heap.size wr ((wr.alloc (.cells #[.int .i64 (es j : Int), .pointer (some ⟨tb j, 0, none⟩)] 31)).drewN q) := below_drewN ((Below.refl _ wr).alloc (Nat.le_refl _) _) q
      have hnw : ((wr.alloc (.cells #[.int .i64 (es j : Int), .pointer (some ⟨tb j, 0, none⟩)] 31)).drewN q).heap[wr.heap.size]? = some (.cells #[.int .i64 (es j : Int), .pointer (some ⟨tb j, 0, none⟩)] 31) := heap_alloc_new wr _
      generalize hW2 : (wr.alloc (.cells #[.int .i64 (es j : Int), .pointer (some ⟨tb j, 0, none⟩)] 31)).drewN q = W2 at hbw hnw ⊢
      clear hW2 x1 x2 y1 y2
      have hO2 := hOj.later hbw
      have hk2 : Lib.OthersKept 5 (some xB) w W2 := hkj.trans (kept_below hbw)
      have hlx := hO.lt
      have hb2 : Below B w W2 := hbj.trans (hbw.mono (by have := hbj.size; omega))
      have hsj := hesj
      cases hkp : keepB (ab j) a with
      | false =>
        go_wp2
        go_roundw
        case rel => exact ⟨j + 1, vj, by omega, by go_num, by rw [emit_drop hkp], by rw [emit_drop hkp, ← HB.out]; exact hO2, hk2, hb2⟩
        case measure => simp [intOf]; omega
      | true =>
        cases hfs : (emit a es ab j).2 with
        | true =>
          have z1 := (cell_of_heap hnw (o := 0) rfl).1
          have z2 := hO2.load.1
          go_wp2
          go_region_with (go_at_call 10; refine (int_any B bj.length (es j) hesj vj _ _ hO2.drew.2 (by show B ≤ W2.heap.size; have := hO2.lt; omega) (by omega) (htab.on (hb2.drew)).here).mono ?_; rintro e w3 ⟨g3, cap3, rfl, hown3, hgr3, hat3⟩; have f1 := (obj_far0 hO2.drew hgr3).1; have f2 := (obj_far0 hO2.drew hgr3).2)
          all_goals
            have P3 := obj_int hO2.drew hBx hgr3 hown3
            go_wp2
            go_roundw
            case rel => exact ⟨j + 1, _, by omega, by go_num, by rw [emit_first hkp hfs], by rw [emit_first hkp hfs, ← List.append_assoc, ← HB.out]; exact P3.1, hk2.trans P3.2.1, hb2.drew.trans P3.2.2⟩
            case measure => simp [intOf]; omega
        | false =>
          have z2 := hO2.load.1
          have z2a := fun o => (World.cell?_alloc_lt W2 o ⟨xB, 2, none⟩ hO2.lt).trans z2
          go_wp2_with (at_builtin; refine wpList_append_b _ rfl (.tmp 35) (.tmp 36) 22 rfl i0 Ybad.underlying22 hi0 hz0 hz1 hz2 B vj _ _ rfl (hO2.2.alloc _) ⟨W2.heap.size, 0, none⟩ 1 1 [.int .u8 44] rfl rfl (cell_one_new _ _ _) (ints_oneCell .u8 [44]) (by omega) (by omega) (by simp; have := hO2.lt; omega) ?_; intro g4 cap4 w4 hown4 hgrow4 hat4; have f1 := (obj_far hO2 hgrow4).1; have f2 := (obj_far hO2 hgrow4).2)
          have P4 := obj_push 44 (cv := 44) rfl hO2 hBx hgrow4 hown4
          clear hown4 hgrow4 hat4 f1 f2 z2 z2a
          obtain ⟨⟨cx, hx, _⟩, _⟩ := hO2
          have hnw5 := kept_tag hx P4.2.1 hnw (by decide) (by decide)
          generalize w4.setCell ⟨xB, 2, none⟩ (.slice (some ⟨g4, 0, none⟩) (bj.length + 1) cap4) = W5 at P4 hnw5 ⊢
          obtain ⟨hO5, hk5, hb5⟩ := P4
          have z1 := (cell_of_heap hnw5 (o := 0) rfl).1
          have z2 := hO5.load.1
          have hb25 := hb2.trans hb5
          obtain ⟨b5, hb5e⟩ : ∃ b5, b5 = bj ++ [44] := ⟨_, rfl⟩
          rw [← hb5e] at hO5
          have hbl5 : b5.length ≤ 2002 + 21 * j := by rw [hb5e]; simp; omega
          have HB5 : Hid (b5 = bj ++ [44]) := hb5e
          clear hb5e
          go_region_with (go_at_call 10; refine (int_any B b5.length (es j) hesj _ _ _ hO5.drew.2 (by show B ≤ W5.heap.size; have := hO5.lt; omega) (by omega) (htab.on (hb25.drew)).here).mono ?_; rintro e w3 ⟨g3, cap3, rfl, hown3, hgr3, hat3⟩; have f1 := (obj_far0 hO5.drew hgr3).1; have f2 := (obj_far0 hO5.drew hgr3).2)
          all_goals
            have P3 := obj_int hO5.drew hBx hgr3 hown3
            go_wp2
            go_roundw
            case rel => exact ⟨j + 1, _, by omega, by go_num, by rw [emit_next hkp hfs], by rw [emit_next hkp hfs, ← List.append_assoc, ← List.append_assoc, ← HB.out, ← HB5.out]; exact P3.1, (hk2.trans hk5).trans P3.2.1, hb25.drew.trans P3.2.2⟩
            case measure => simp [intOf]; omega
    · have z2 := hOj.load.1
      have z2a := fun o => (World.cell?_alloc_lt wr o ⟨xB, 2, none⟩ hOj.lt).trans z2
      obtain rfl : j = m := by omega
      go_wp2_with (at_builtin; refine wpList_append_b _ rfl (.tmp 55) (.tmp 56) 22 rfl i0 Ybad.underlying22 hi0 hz0 hz1 hz2 B vj _ _ rfl (hOj.2.alloc _) ⟨wr.heap.size, 0, none⟩ 1 1 [.int .u8 93] rfl rfl (cell_one_new _ _ _) (ints_oneCell .u8 [93]) (by omega) (by omega) (by simp; have := hOj.lt; omega) ?_; intro g3 cap3 w3 hown3 hgrow3 hat3; have f1 := (obj_far hOj hgrow3).1; have f2 := (obj_far hOj hgrow3).2)
      have P3 := obj_push 93 (cv := 93) rfl hOj hBx hgrow3 hown3
      go_end0
      exact ⟨rfl, _, by rw [← HB.out]; exact P3.1, hkj.trans P3.2.1, hbj.trans P3.2.2⟩

end Go.Proofs.YbulkbrcuDoor
