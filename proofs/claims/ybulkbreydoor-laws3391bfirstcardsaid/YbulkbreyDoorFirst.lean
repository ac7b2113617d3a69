/-
  'objects.indexBlank' (function 5) and 'objects.LawS3391BFirst' (function 3): the walks. They stand at every table of 256 bools.
-/
import Derived.Test.YbulkbreyDoorRows
import Derived.WalkKit
namespace Go.Proofs.YbulkbreyDoor
open Go.RowKit

/-- The table of blanks, whatever it says. -/
def Tab (w : World) (B : Nat → Bool) : Prop := ∀ i, i < 256 → w.cell? ⟨0, i, none⟩ = some (.bool (B i))

/-- Byte k of s is blank. -/
def bl (s : ByteArray) (B : Nat → Bool) (k : Nat) : Bool := if h : k < s.size then B (s[k]'h).toNat else false

theorem at_byte {s : ByteArray} {B : Nat → Bool} {w : World} (hB : Tab w B) {k : Nat} (h : k < s.size) : (s[k]'h).toNat < 256 ∧ w.cell? ⟨0, (s[k]'h).toNat, none⟩ = some (.bool (bl s B k)) := by
  have hx : (s[k]'h).toNat < 256 := UInt8.toNat_lt _
  refine ⟨hx, ?_⟩
  rw [hB _ hx]
  simp [bl, h]

/-- What 'indexBlank' answers. -/
def Found (s : ByteArray) (B : Nat → Bool) (r : Int) : Prop := (r = -1 ∧ ∀ i, i < s.size → bl s B i = false) ∨ ∃ k : Nat, k < s.size ∧ r = (k : Int) ∧ bl s B k = true ∧ ∀ i, i < k → bl s B i = false

set_option maxRecDepth 100000 in
theorem indexBlank_any (s : ByteArray) (B : Nat → Bool) (w : World) (hB : Tab w B) (hl : (s.size : Int) ≤ 4096) :
    Calls Ybad.prog 5 #[.string s] w fun e w' => ∃ r : Int, e = .returned (.int .i64 r) ∧ w' = w ∧ Found s B r := by
  go_enter Ybad.func5, Ybad.ntmps5
  go_wp2
  go_loopw [6] (fun i wr => ∃ k : Nat, k ≤ s.size ∧ i = .int .i64 (k : Int) ∧ wr = w ∧ ∀ j, j < k → bl s B j = false) (fun i _ => s.size - (intOf i).toNat)
  case atStart => exact ⟨0, Nat.zero_le _, rfl, rfl, fun j hj => by omega⟩
  case round =>
    obtain ⟨k, hk, rfl, rfl, hno⟩ := hrel
    have HN : Hid (∀ j, j < k → bl s B j = false) := hno
    clear hno
    by_cases hlt : k < s.size
    · have hk0 : (0 : Int) ≤ (k : Int) := Int.natCast_nonneg _
      have hk1 : (k : Int) < (s.size : Int) := by omega
      obtain ⟨hx, hc⟩ := at_byte hB hlt
      obtain ⟨b, hb⟩ : ∃ b, b = bl s B k := ⟨_, rfl⟩
      rw [← hb] at hc
      have HE : Hid (b = bl s B k) := hb
      clear hb
      cases b with
      | true =>
        go_wp2
        go_ret
        exact ⟨_, rfl, rfl, .inr ⟨k, hlt, rfl, HE.out.symm, HN.out⟩⟩
      | false =>
        go_wp2
        go_roundw
        case rel => exact ⟨k + 1, by omega, by go_num, trivial, fun j hj => by rcases Nat.lt_succ_iff_lt_or_eq.1 hj with h | rfl; exact HN.out j h; exact HE.out.symm⟩
        case measure => simp [intOf]; omega
    · go_wp2
      go_ret
      exact ⟨_, rfl, rfl, .inl ⟨rfl, fun i hi => HN.out i (by omega)⟩⟩

set_option maxRecDepth 100000 in
theorem first_long (s : ByteArray) (w : World) (hl : (4096 : Int) < (s.size : Int)) : Calls Ybad.prog 3 #[.string s] w fun e w' => e = .returned (.bool true) ∧ w' = w := by
  go_enter Ybad.func3, Ybad.ntmps3
  go_wp2
  go_ret
  exact ⟨rfl, rfl⟩

set_option maxRecDepth 100000 in
theorem first_none (s : ByteArray) (B : Nat → Bool) (w : World) (hB : Tab w B) (hl : (s.size : Int) ≤ 4096)
    (hI : Calls Ybad.prog 5 #[.string s] w fun e w' => e = .returned (.int .i64 (-1)) ∧ w' = w) (hno : ∀ i, i < s.size → bl s B i = false) :
    Calls Ybad.prog 3 #[.string s] w fun e w' => e = .returned (.bool true) ∧ w' = w := by
  have HN : Hid (∀ i, i < s.size → bl s B i = false) := hno
  clear hno
  go_enter Ybad.func3, Ybad.ntmps3
  go_wp2_with (first | (go_at_call 5; refine hI.mono ?_; rintro e w1 ⟨rfl, hw⟩; obtain rfl : w = w1 := hw.symm) | go_in)
  go_loopw [4] (fun i wr => ∃ k : Nat, k ≤ s.size ∧ i = .int .i64 (k : Int) ∧ wr = w) (fun i _ => s.size - (intOf i).toNat)
  case atStart => exact ⟨0, Nat.zero_le _, rfl, rfl⟩
  case round =>
    obtain ⟨k, hk, rfl, rfl⟩ := hrel
    by_cases hlt : k < s.size
    · have hk0 : (0 : Int) ≤ (k : Int) := Int.natCast_nonneg _
      have hk1 : (k : Int) < (s.size : Int) := by omega
      obtain ⟨hx, hc⟩ := at_byte hB hlt
      rw [HN.out k hlt] at hc
      go_wp2
      go_roundw
      case rel => exact ⟨k + 1, by omega, by go_num, trivial⟩
      case measure => simp [intOf]; omega
    · go_wp2
      go_ret
      exact ⟨rfl, rfl⟩

set_option maxRecDepth 100000 in
theorem first_some (s : ByteArray) (B : Nat → Bool) (w : World) (hB : Tab w B) (hl : (s.size : Int) ≤ 4096) (r : Nat) (hr : r < s.size)
    (hI : Calls Ybad.prog 5 #[.string s] w fun e w' => e = .returned (.int .i64 (r : Int)) ∧ w' = w) (hyes : bl s B r = true) (hno : ∀ i, i < r → bl s B i = false) :
    Calls Ybad.prog 3 #[.string s] w fun e w' => e = .returned (.bool true) ∧ w' = w := by
  have HN : Hid (∀ i, i < r → bl s B i = false) := hno
  have hr0 : (0 : Int) ≤ (r : Int) := Int.natCast_nonneg _
  have hr1 : (r : Int) < (s.size : Int) := by omega
  have hr2 : ((r : Int) == -1) = false := by simp
  obtain ⟨hy, hcy⟩ := at_byte hB hr
  rw [hyes] at hcy
  clear hno hyes
  go_enter Ybad.func3, Ybad.ntmps3
  go_wp2_with (first | (go_at_call 5; refine hI.mono ?_; rintro e w1 ⟨rfl, hw⟩; obtain rfl : w = w1 := hw.symm) | go_in)
  go_loopw [5] (fun i wr => ∃ k : Nat, k ≤ r ∧ i = .int .i64 (k : Int) ∧ wr = w) (fun i _ => r - (intOf i).toNat)
  case atStart => exact ⟨0, Nat.zero_le _, rfl, rfl⟩
  case round =>
    obtain ⟨k, hk, rfl, rfl⟩ := hrel
    by_cases hlt : k < r
    · have hk0 : (0 : Int) ≤ (k : Int) := Int.natCast_nonneg _
      have hk1 : (k : Int) < (r : Int) := by omega
      have hk2 : (k : Int) < (s.size : Int) := by omega
      have hk3 : k < s.size := by omega
      obtain ⟨hx, hc⟩ := at_byte hB hk3
      rw [HN.out k hlt] at hc
      go_wp2
      go_roundw
      case rel => exact ⟨k + 1, by omega, by go_num, trivial⟩
      case measure => simp [intOf]; omega
    · go_wp2
      go_ret
      exact ⟨rfl, rfl⟩

end Go.Proofs.YbulkbreyDoor
