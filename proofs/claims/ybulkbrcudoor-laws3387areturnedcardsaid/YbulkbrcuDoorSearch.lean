import Derived.Test.YbulkbrcuDoorItoa
import Derived.WalkSmall
import Derived.Laws.Bits64
import Derived.BigQuiet
import Derived.Deep.QuietTactic
namespace Go.Proofs.YbulkbrcuDoor
open Go.RowKit

set_option maxRecDepth 100000 in
theorem geq_any (i p4 p3 wsB n cap : Nat) (x a : Int) (w : World) (h4 : w.cell? ⟨p4, 0, none⟩ = some (.slice (some ⟨wsB, 0, none⟩) n cap)) (hi : i < n) (he : w.cell? ⟨wsB, i * 2, none⟩ = some (.int .i64 x)) (h3 : w.cell? ⟨p3, 1, none⟩ = some (.int .i64 a)) :
    Calls Ybad.prog 7 #[.int .i64 (i : Int), .pointer (some ⟨p4, 0, none⟩), .pointer (some ⟨p3, 0, none⟩)] w fun e w' => e = .returned (.bool (decide (a ≤ x))) ∧ ∃ q, w' = w.drewN q := by
  have hi0 : (0 : Int) ≤ (i : Int) := Int.natCast_nonneg _
  have hi1 : (i : Int) < (n : Int) := by omega
  go_enter Ybad.func7, Ybad.ntmps7
  go_wp2
  go_quiet (fail)
  go_wp2
  go_ret
  exact ⟨rfl, _, rfl⟩

set_option maxRecDepth 100000 in
set_option maxHeartbeats 1600000 in
theorem search_any (p4 p3 wsB n cap : Nat) (es : Nat → Int) (a : Int) (w : World) (hn : n ≤ 1024) (h4 : w.cell? ⟨p4, 0, none⟩ = some (.slice (some ⟨wsB, 0, none⟩) n cap)) (he : ∀ i, i < n → w.cell? ⟨wsB, i * 2, none⟩ = some (.int .i64 (es i))) (h3 : w.cell? ⟨p3, 1, none⟩ = some (.int .i64 a))
    (mono : ∀ i j, i ≤ j → j < n → es i ≤ es j) :
    Calls Ybad.prog 6 #[.int .i64 (n : Int), .func (Fn.func 7) #[] #[.pointer (some ⟨p4, 0, none⟩), .pointer (some ⟨p3, 0, none⟩)]] w fun e w' => ∃ b : Nat, e = .returned (.int .i64 (b : Int)) ∧ b ≤ n ∧ (∀ i, i < b → es i < a) ∧ (b < n → a ≤ es b) ∧ ∃ q, w' = w.drewN q := by
  have HE : Hid (∀ i, i < n → w.cell? ⟨wsB, i * 2, none⟩ = some (.int .i64 (es i))) := he
  have HM : Hid (∀ i j, i ≤ j → j < n → es i ≤ es j) := mono
  clear he mono
  go_enter Ybad.func6, Ybad.ntmps6
  go_wp2
  go_loopw [5, 6] (fun x y wr => ∃ i j : Nat, i ≤ j ∧ j ≤ n ∧ x = .int .i64 (i : Int) ∧ y = .int .i64 (j : Int) ∧ (∀ k, k < i → es k < a) ∧ (∀ k, j ≤ k → k < n → a ≤ es k) ∧ ∃ q, wr = w.drewN q) (fun x y _ => (intOf y - intOf x).toNat)
  case atStart => exact ⟨0, n, Nat.zero_le _, Nat.le_refl _, rfl, rfl, fun k hk => by omega, fun k h1 h2 => by omega, 0, rfl⟩
  case round =>
    obtain ⟨i, j, hij, hjn, rfl, rfl, hlo, hhi, hwr⟩ := hrel
    have HLO : Hid (∀ k, k < i → es k < a) := hlo
    have HHI : Hid (∀ k, j ≤ k → k < n → a ≤ es k) := hhi
    clear hlo hhi
    by_cases hlt : i < j
    · have hlt' : (i : Int) < (j : Int) := by omega
      go_wp2_with fail
      obtain ⟨h, hh⟩ : ∃ h, h = (i + j) / 2 := ⟨_, rfl⟩
      rw [show ((i : Int) + (j : Int)) / 2 = ((h : Nat) : Int) from by omega]
      have hih : i ≤ h := by omega
      have hhj : h < j := by omega
      clear hh
      obtain ⟨q, rfl⟩ := hwr
      refine (geq_any h p4 p3 wsB n cap (es h) a (w.drewN q) h4 (by omega) (HE.out h (by omega)) h3).mono ?_
      rintro e w' ⟨rfl, q1, rfl⟩
      by_cases hc : a ≤ es h
      · have hd : decide (a ≤ es h) = true := decide_eq_true hc
        rw [hd]
        clear hd
        go_wp2
        go_roundw
        case rel => exact ⟨i, h, hih, by omega, rfl, rfl, HLO.out, fun k h1 h2 => Int.le_trans hc (HM.out h k h1 h2), q + q1, rfl⟩
        case measure => simp [intOf]; omega
      · have hd : decide (a ≤ es h) = false := decide_eq_false hc
        rw [hd]
        clear hd
        go_wp2
        go_roundw
        case rel => exact ⟨h + 1, j, by omega, hjn, by go_num, rfl, fun k hk => by have := HM.out k h (by omega) (by omega); omega, HHI.out, q + q1, rfl⟩
        case measure => simp [intOf]; omega
    · have hge : ¬ (i : Int) < (j : Int) := by omega
      go_wp2
      go_ret
      obtain ⟨q, rfl⟩ := hwr
      exact ⟨i, rfl, by omega, HLO.out, fun h => HHI.out i (by omega) h, q, rfl⟩

/-- Is a write of a transaction that aborted at ab seen at a? -/
def keepB (ab a : Int) : Bool := ab == 0 || decide (a < ab)

set_option maxRecDepth 100000 in
theorem keep_any (tB p3 : Nat) (ab a : Int) (w : World) (ht : w.cell? ⟨tB, 3, none⟩ = some (.int .i64 ab)) (h3 : w.cell? ⟨p3, 1, none⟩ = some (.int .i64 a)) :
    Calls Ybad.prog 9 #[.pointer (some ⟨tB, 0, none⟩), .pointer (some ⟨p3, 0, none⟩)] w fun e w' => e = .returned (.bool (keepB ab a)) ∧ ∃ q, w' = w.drewN q := by
  cases hz : (ab == 0) with
  | true =>
    have hk : keepB ab a = true := by simp [keepB, hz]
    rw [hk]
    clear hk
    go_enter Ybad.func9, Ybad.ntmps9
    go_wp2
    go_quiet (fail)
    go_wp2
    go_ret
    exact ⟨rfl, _, rfl⟩
  | false =>
    have hk : keepB ab a = decide (a < ab) := by simp [keepB, hz]
    rw [hk]
    clear hk
    go_enter Ybad.func9, Ybad.ntmps9
    go_wp2
    go_quiet (fail)
    go_wp2
    go_ret
    exact ⟨rfl, _, rfl⟩
end Go.Proofs.YbulkbrcuDoor
