/-
  slices.Index at strings (function 8), 'zzs3397afirst' (function 6), strings.Join at no element (function 10).
-/
import Derived.Test.YbulkbrieFmtErr
import Derived.WideShapes
import Derived.Laws.Strings
namespace Go.Proofs.YbulkbrieFmt
open Go.RowKit

/-- A slice of strings that came in. -/
def Strs (w : World) (a : Option Addr) (len : Nat) (T : Nat → ByteArray) : Prop := ∀ j, j < len → ∃ b off, a = some ⟨b, off, none⟩ ∧ w.cell? ⟨b, off + j, none⟩ = some (.string (T j))

/-- The first index that bears s, or -1. -/
def First (len : Nat) (T : Nat → ByteArray) (s : ByteArray) (r : Int) : Prop := (r = -1 ∧ ∀ i, i < len → T i ≠ s) ∨ ∃ k : Nat, k < len ∧ r = (k : Int) ∧ T k = s ∧ ∀ i, i < k → T i ≠ s

theorem bytes_beq (a b : ByteArray) : ((a.toList == b.toList) = true → a = b) ∧ ((a.toList == b.toList) = false → a ≠ b) := by
  constructor
  · intro h
    have h2 : a.toList = b.toList := by simpa using h
    rw [ByteArray.toList_eq, ByteArray.toList_eq] at h2
    exact WideShapes.bytes_inj h2
  · intro h e
    subst e
    simp at h

theorem First.unique {len : Nat} {T : Nat → ByteArray} {s : ByteArray} {r q : Int} (h : First len T s r) (h' : First len T s q) : r = q := by
  rcases h with ⟨rfl, h1⟩ | ⟨k, hk, rfl, e, h1⟩ <;> rcases h' with ⟨rfl, h2⟩ | ⟨j, hj, rfl, e', h2⟩
  · rfl
  · exact absurd e' (h1 j hj)
  · exact absurd e (h2 k hk)
  · rcases Nat.lt_trichotomy k j with h | h | h
    · exact absurd e (h2 k h)
    · rw [h]
    · exact absurd e' (h1 j h)

set_option maxRecDepth 100000 in
theorem join_none (a : Option Addr) (cap : Nat) (s : ByteArray) (w : World) : Calls Ybaf.prog 10 #[.slice a 0 cap, .string s] w fun e w' => e = .returned (.string ⟨#[]⟩) ∧ w' = w := by
  go_enter Ybaf.func10, Ybaf.ntmps10
  go_wp2
  go_ret
  exact ⟨rfl, rfl⟩

set_option maxRecDepth 100000 in
theorem index_any (a : Option Addr) (len cap : Nat) (T : Nat → ByteArray) (s : ByteArray) (w : World) (hl : (len : Int) ≤ 1024) (hT : Strs w a len T) :
    Calls Ybaf.prog 8 #[.slice a len cap, .string s] w fun e w' => ∃ r : Int, e = .returned (.int .i64 r) ∧ w' = w ∧ First len T s r := by
  have HT : Hid (Strs w a len T) := hT
  clear hT
  go_enter Ybaf.func8, Ybaf.ntmps8
  go_wp2
  go_loopw [8] (fun i wr => ∃ k : Nat, k ≤ len ∧ i = .int .i64 (k : Int) ∧ wr = w ∧ ∀ j, j < k → T j ≠ s) (fun i _ => len - (intOf i).toNat)
  case atStart => exact ⟨0, Nat.zero_le _, rfl, rfl, fun j hj => by omega⟩
  case round =>
    obtain ⟨k, hk, rfl, rfl, hno⟩ := hrel
    have HN : Hid (∀ j, j < k → T j ≠ s) := hno
    clear hno
    by_cases hlt : k < len
    · have hk0 : (0 : Int) ≤ (k : Int) := Int.natCast_nonneg _
      have hk1 : (k : Int) < (len : Int) := by omega
      obtain ⟨b, off, hax, hc⟩ := HT.out k hlt
      subst hax
      obtain ⟨t, ht⟩ : ∃ t, t = T k := ⟨_, rfl⟩
      rw [← ht] at hc
      have HE : Hid (t = T k) := ht
      clear ht
      have hbq := bytes_beq s t
      have HQ : Hid (((s.toList == t.toList) = true → s = t) ∧ ((s.toList == t.toList) = false → s ≠ t)) := hbq
      clear hbq
      cases hb : (s.toList == t.toList) with
      | true =>
        go_wp2
        go_ret
        exact ⟨_, rfl, rfl, .inr ⟨k, hlt, rfl, HE.out.symm.trans (HQ.out.1 hb).symm, HN.out⟩⟩
      | false =>
        go_wp2
        go_roundw
        case rel => exact ⟨k + 1, by omega, by go_num, trivial, fun j hj => by rcases Nat.lt_succ_iff_lt_or_eq.1 hj with h | rfl; exact HN.out j h; rw [← HE.out]; exact (HQ.out.2 hb).symm⟩
        case measure => simp [intOf]; omega
    · go_wp2
      go_ret
      exact ⟨_, rfl, rfl, .inl ⟨rfl, fun i hi => HN.out i (by omega)⟩⟩

set_option maxRecDepth 100000 in
theorem first_any (a : Option Addr) (len cap : Nat) (T : Nat → ByteArray) (s : ByteArray) (w : World) (hl : (len : Int) ≤ 1024) (hT : Strs w a len T) :
    Calls Ybaf.prog 6 #[.slice a len cap, .string s] w fun e w' => ∃ r : Int, e = .returned (.int .i64 r) ∧ w' = w ∧ First len T s r := by
  have HT : Hid (Strs w a len T) := hT
  clear hT
  go_enter Ybaf.func6, Ybaf.ntmps6
  go_wp2
  go_loopw [5] (fun i wr => ∃ k : Nat, k ≤ len ∧ i = .int .i64 (k : Int) ∧ wr = w ∧ ∀ j, j < k → T j ≠ s) (fun i _ => len - (intOf i).toNat)
  case atStart => exact ⟨0, Nat.zero_le _, rfl, rfl, fun j hj => by omega⟩
  case round =>
    obtain ⟨k, hk, rfl, rfl, hno⟩ := hrel
    have HN : Hid (∀ j, j < k → T j ≠ s) := hno
    clear hno
    by_cases hlt : k < len
    · have hk0 : (0 : Int) ≤ (k : Int) := Int.natCast_nonneg _
      have hk1 : (k : Int) < (len : Int) := by omega
      obtain ⟨b, off, hax, hc⟩ := HT.out k hlt
      subst hax
      obtain ⟨t, ht⟩ : ∃ t, t = T k := ⟨_, rfl⟩
      rw [← ht] at hc
      have HE : Hid (t = T k) := ht
      clear ht
      have hbq := bytes_beq t s
      have HQ : Hid (((t.toList == s.toList) = true → t = s) ∧ ((t.toList == s.toList) = false → t ≠ s)) := hbq
      clear hbq
      cases hb : (t.toList == s.toList) with
      | true =>
        go_wp2
        go_ret
        exact ⟨_, rfl, rfl, .inr ⟨k, hlt, rfl, HE.out.symm.trans (HQ.out.1 hb), HN.out⟩⟩
      | false =>
        go_wp2
        go_roundw
        case rel => exact ⟨k + 1, by omega, by go_num, trivial, fun j hj => by rcases Nat.lt_succ_iff_lt_or_eq.1 hj with h | rfl; exact HN.out j h; rw [← HE.out]; exact (HQ.out.2 hb)⟩
        case measure => simp [intOf]; omega
    · go_wp2
      go_ret
      exact ⟨_, rfl, rfl, .inl ⟨rfl, fun i hi => HN.out i (by omega)⟩⟩

end Go.Proofs.YbulkbrieFmt
