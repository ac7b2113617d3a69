/-
  strconv.AppendInt at base 10 (functions 10, 11, 12) onto an owned slice of bytes, its row marked or not; the inner functions by the shelf's contracts.
-/
import Derived.Test.YbulkbrcuDoorItoa
import Derived.Test.YbulkbrcuDoorShelf
import Derived.Lib.OthersKept
import Derived.Lib.AppendIntMem
import Derived.Lib.ItoaWalk
import Derived.Lib.Slices
import Derived.Lib.Hide
import Derived.BigCall
namespace Go.Proofs.YbulkbrcuDoor
open Go.RowKit Go.Sort

/-- THE TABLE's NAME, as the row lists it. -/
def tabName : String := Rows.lawS3387AReturnedRow.named.headD ""

theorem small_any (i : Nat) (h : i < 100) (w : World) : Calls Ybad.prog 13 #[.int .i64 (i : Int)] w fun e w' => e = .returned (.string ⟨(Lib.decDigits i).toArray⟩) ∧ w' = w := Any.internal_strconv_small { Ybad.laysM176 with } i h w
theorem digits_any (u : Nat) (h1 : 1 ≤ u) (h2 : u < 18446744073709551616) (w : World) (htab : Lib.TabIs Ybad.prog w tabName .u64 Lib.pow10Tab) :
    Calls Ybad.prog 14 #[.int .u64 (u : Int)] w fun e w' => e = .returned (.int .i64 (Lib.nDigits u)) ∧ w' = w := Any.internal_strconv_numDigits { Ybad.laysM176 with } u h1 h2 w htab
theorem format_any (blk off cap : Nat) (u : Nat) (d : Array UInt8) (w : World) (hH : Holds (fun (b : UInt8) => Value.int .u8 (b.toNat : Int)) w blk off d) (hu : u < 10 ^ d.size) (hu64 : u < 18446744073709551616) (hsz : d.size < 4611686018427387904) :
    Calls Ybad.prog 15 #[.slice (some ⟨blk, off, none⟩) d.size cap, .int .u64 (u : Int)] w fun e w' =>
      e = .returned (.tuple #[]) ∧ ∃ (n v' : Nat) (dk : Array UInt8), w' = (putRow (fun (b : UInt8) => Value.int .u8 (b.toNat : Int)) w blk off dk).drewN n ∧ Lib.FmtInv d.size u 0 v' dk := Any.internal_strconv_formatBase10 { Ybad.laysM176 with } blk off cap u d w hH hu hu64 hsz

/-- WHAT AN APPEND OF N's DIGITS LEAVES. -/
def Appended (B n N : Nat) (v : Value) (xs : List Value) (w : World) (e : Ending) (w' : World) : Prop :=
  ∃ g cap, e = .returned (.slice (some ⟨g, 0, none⟩) (n + (Lib.decDigits N).length) cap) ∧ OwnsB w' B (.slice (some ⟨g, 0, none⟩) (n + (Lib.decDigits N).length) cap) (n + (Lib.decDigits N).length) (xs ++ Lib.byteCells (Lib.decDigits N)) ∧ w.grownBy w' v.ownBlock ∧ (v.ownBlock = some g ∨ w.heap.size ≤ g)

set_option maxRecDepth 100000 in
set_option maxHeartbeats 1600000 in
theorem uint_small (B n N : Nat) (hN : N < 100) (v : Value) (xs : List Value) (w : World) (hown : OwnsB w B v n xs) (hB : B ≤ w.heap.size) (hn : n ≤ 1000000) :
    Calls Ybad.prog 12 #[v, .int .u64 (N : Int), .int .i64 10] w (Appended B n N v xs w) := by
  obtain ⟨i0, hi0, hz0, hz1, hz2⟩ := info_parts info5
  have hlen := dec_le N (by omega)
  obtain ⟨S, hS⟩ : ∃ S : ByteArray, S = ⟨(Lib.decDigits N).toArray⟩ := ⟨_, rfl⟩
  have HSZ : Hid (S.size = (Lib.decDigits N).length) := by rw [hS]; simp [ByteArray.size, Hid]
  have hs20 : S.size ≤ 20 := by rw [HSZ.out]; exact hlen
  have HST : Hid (Lib.strCells S = Lib.byteCells (Lib.decDigits N)) := by rw [hS]; exact Lib.strCells_toArray _
  have hsm : ∀ w, Calls Ybad.prog 13 #[.int .i64 (N : Int)] w fun e w' => e = .returned (.string S) ∧ w' = w := by rw [hS]; exact small_any N hN
  clear hS
  have hNi : (N : Int) < 100 := by omega
  go_enter Ybad.func12, Ybad.ntmps12
  go_wp2_with (first
    | (go_at_call 13; refine (hsm _).mono ?_; rintro e w' ⟨rfl, rfl⟩)
    | (at_builtin; refine wpList_append_b_string _ rfl (.tmp 13) (.tmp 16) 22 9 rfl i0 Ybad.underlying22 Ybad.underlying9 hi0 hz0 hz1 hz2 B v n xs rfl hown S rfl (by omega) hB ?_; intro g cap w1 hown1 hgrow1 hat1))
  go_ret
  rw [HST.out, HSZ.out] at hown1
  exact ⟨g, cap, by rw [HSZ.out]; rfl, hown1, hgrow1, hat1⟩

set_option maxRecDepth 100000 in
set_option maxHeartbeats 3200000 in
theorem uint_big (B n N : Nat) (hN : 100 ≤ N) (hN2 : N ≤ 100000) (v : Value) (xs : List Value) (w : World) (hown : OwnsB w B v n xs) (hB : B ≤ w.heap.size) (hn : n ≤ 1000000) (htab : Lib.TabIs Ybad.prog w tabName .u64 Lib.pow10Tab) :
    Calls Ybad.prog 12 #[v, .int .u64 (N : Int), .int .i64 10] w (Appended B n N v xs w) := by
  obtain ⟨i0, hi0, hz0, hz1, hz2⟩ := info_parts info5
  have hlen := dec_le N (by omega)
  have hnd20 : Lib.nDigits N ≤ 20 := by rw [← Lib.decDigits_length]; exact hlen
  have hnd1 := Lib.nDigits_pos N
  have hal : Ybad.prog.arrayLen 54 = 24 := by kernel_rfl
  have hel : Ybad.prog.elem 54 = 5 := by kernel_rfl
  have hsl : ∀ W, (Instr.sliceAt 54 (.pointer (some ⟨w.heap.size, 0, none⟩)) none (some (.int .i64 (Lib.nDigits N : Int))) none).run Ybad.prog W = .ok (.slice (some ⟨w.heap.size, 0, none⟩) (Lib.nDigits N) 24) W := fun W => by
    rw [run_sliceAt_array_h W 54 ⟨w.heap.size, 0, none⟩ (by rw [hal, hel]; kernel_rfl) .i64 (Lib.nDigits N : Int) (by omega) (by rw [hal]; omega)]
    go_simp
  have hH0 := Lib.holds_zero0 w 54 (Lib.nDigits N) (by omega)
  have hfmt := format_any w.heap.size 0 24 N (Array.replicate (Lib.nDigits N) 0) (w.alloc (.cells Lib.zeros24 54)) hH0 (by rw [Array.size_replicate]; exact Lib.lt_pow_nDigits N) (by omega) (by rw [Array.size_replicate]; omega)
  rw [Array.size_replicate] at hfmt
  have HH0 := Lib.hid hH0
  have iu : (100 : Int) ≤ (N : Int) := by omega
  clear hH0 hal hel
  go_enter Ybad.func12, Ybad.ntmps12
  go_wp2_with (first
    | (go_at_call 14; refine (digits_any N (by omega) (by omega) _ (Lib.tabIs_alloc htab _)).mono ?_; rintro e w' ⟨rfl, rfl⟩))
  refine hfmt.mono ?_
  rintro e w' ⟨rfl, k, v', dk, rfl, hF⟩
  have hcells : ∀ j u', (Lib.byteCells (Lib.decDigits N))[j]? = some u' → ((putRow (fun (b : UInt8) => Value.int .u8 (b.toNat : Int)) (w.alloc (.cells Lib.zeros24 54)) w.heap.size 0 dk).drewN k).cell? ((⟨w.heap.size, 0, none⟩ : Addr).add j) = some u' := by
    intro j u' hj
    have hjl : j < (Lib.decDigits N).length := by
      have h5 := (List.getElem?_eq_some_iff.1 hj).1
      rwa [Lib.byteCells_length] at h5
    have e5 : (Lib.byteCells (Lib.decDigits N))[j]? = some (Value.int .u8 ((Lib.decDigits N)[j].toNat : Int)) := by simp [Lib.byteCells, hjl]
    rw [e5] at hj
    cases hj
    rw [Lib.row_is_numeral hF j hjl, Lib.add_plain, World.cell?_drewN]
    exact cell?_putRow (fun (b : UInt8) => Value.int .u8 (b.toNat : Int)) _ w.heap.size 0 _ dk HH0.out (by rw [hF.size, Array.size_replicate]) j (by rw [hF.size]; rw [Lib.decDigits_length] at hjl; exact hjl)
  obtain ⟨os, eo⟩ := Lib.fin_at w (.cells Lib.zeros24 54) dk k 0
  have hbw : Below w.heap.size w ((putRow (fun (b : UInt8) => Value.int .u8 (b.toNat : Int)) (w.alloc (.cells Lib.zeros24 54)) w.heap.size 0 dk).drewN k) := by rw [eo]; exact Lib.below_grow w.heap.size w (Nat.le_refl _) k os
  generalize (putRow (fun (b : UInt8) => Value.int .u8 (b.toNat : Int)) (w.alloc (.cells Lib.zeros24 54)) w.heap.size 0 dk).drewN k = W2 at hcells hbw ⊢
  clear eo HH0 hfmt
  have hg2 : w.grownBy W2 v.ownBlock := ⟨hbw.os, hbw.tape, hbw.output, hbw.size, fun k hk _ => hbw.block k hk⟩
  have hown2 : OwnsB W2 B v n xs := hown.at (fun g hg => hbw.block g (hown.lt g hg).2)
  have hsz2 := hbw.size
  go_wp2_with (at_builtin; refine wpList_append_b _ rfl (.tmp 24) (.tmp 26) 22 rfl i0 Ybad.underlying22 hi0 hz0 hz1 hz2 B v n xs rfl hown2 ⟨w.heap.size, 0, none⟩ (Lib.nDigits N) 24 (Lib.byteCells (Lib.decDigits N)) rfl (by rw [Lib.byteCells_length, Lib.decDigits_length]) hcells (Lib.byteCells_one _) (by omega) (by omega) (by omega) ?_; intro g cap w1 hown1 hgrow1 hat1)
  go_ret
  rw [← Lib.decDigits_length] at hown1
  exact ⟨g, cap, by rw [Lib.decDigits_length]; rfl, hown1, hg2.trans hgrow1, hat1.imp id (fun h => by omega)⟩

set_option maxRecDepth 100000 in
theorem int_any (B n N : Nat) (hN2 : N ≤ 100000) (v : Value) (xs : List Value) (w : World) (hown : OwnsB w B v n xs) (hB : B ≤ w.heap.size) (hn : n ≤ 1000000) (htab : Lib.TabIs Ybad.prog w tabName .u64 Lib.pow10Tab) :
    Calls Ybad.prog 10 #[v, .int .i64 (N : Int), .int .i64 10] w (Appended B n N v xs w) := by
  have h12 : Calls Ybad.prog 12 #[v, .int .u64 (N : Int), .int .i64 10] w (Appended B n N v xs w) := by
    rcases Nat.lt_or_ge N 100 with h | h
    · exact uint_small B n N h v xs w hown hB hn
    · exact uint_big B n N h hN2 v xs w hown hB hn htab
  have hN0 : (0 : Int) ≤ (N : Int) := Int.natCast_nonneg _
  have hNl : (N : Int) ≤ 100000 := by omega
  have H12 : Hid (Calls Ybad.prog 12 #[v, .int .u64 (N : Int), .int .i64 10] w (Appended B n N v xs w)) := h12
  clear h12
  have h11 : Calls Ybad.prog 11 #[v, .int .i64 (N : Int), .int .i64 10] w (Appended B n N v xs w) := by
    go_enter Ybad.func11, Ybad.ntmps11
    go_wp2_with fail
    refine H12.out.mono ?_
    rintro e w' ⟨g, cap, rfl, h1, h2, h3⟩
    go_wp2
    go_ret
    exact ⟨g, cap, rfl, h1, h2, h3⟩
  have H11 : Hid (Calls Ybad.prog 11 #[v, .int .i64 (N : Int), .int .i64 10] w (Appended B n N v xs w)) := h11
  clear h11 H12
  go_enter Ybad.func10, Ybad.ntmps10
  go_wp2_with fail
  refine H11.out.mono ?_
  rintro e w' ⟨g, cap, rfl, h1, h2, h3⟩
  go_wp2
  go_ret
  exact ⟨g, cap, rfl, h1, h2, h3⟩

end Go.Proofs.YbulkbrcuDoor
