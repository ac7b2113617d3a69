/-
  'zzs3387aitoa' (function 5): the decimal digits of a positive n, appended.
-/
import Derived.Test.YbulkbrcuDoorRows
import Derived.WalkKit
import Derived.WalkSpells
import Derived.Lib.ItoaLen
import Derived.Lib.UnsafeStr
import Derived.Lib.BufferWrite
import Derived.Test.YbulkbrcuDoorBytes
import Derived.Outline
namespace Go.Proofs.YbulkbrcuDoor
open Go.RowKit

theorem info5 : (Ybad.prog.info? 5).map (fun i => (i.zero, i.size, i.bytes)) = some (some (.int .u8 0), 1, 1) := by kernel_rfl

/-- What is left of the number, m, and the digits that are written, l. -/
def Split (N m : Nat) (l : List UInt8) : Prop := Lib.decDigits N = (if m = 0 then [] else Lib.decDigits m) ++ l

theorem Split.start {N : Nat} (h : 1 ≤ N) : Split N N [] := by
  unfold Split
  rw [if_neg (by omega)]
  simp

theorem Split.step {N m : Nat} {l : List UInt8} (h : Split N m l) (hm : 1 ≤ m) : Split N (m / 10) (UInt8.ofNat (48 + m % 10) :: l) := by
  unfold Split at *
  rw [h, if_neg (by omega)]
  by_cases hlt : m < 10
  · rw [Lib.decDigits_one hlt, if_pos (by omega), show m % 10 = m by omega]
    simp
  · rw [Lib.decDigits, dif_neg hlt, if_neg (by omega)]
    simp

theorem Split.stop {N : Nat} {l : List UInt8} (h : Split N 0 l) : Lib.decDigits N = l := by
  unfold Split at h
  simpa using h

theorem dec_le (N : Nat) (h : N ≤ 100000) : (Lib.decDigits N).length ≤ 20 := by
  rw [Lib.decDigits_length]
  exact Lib.nDigits_le20 N (by omega)

theorem Split.room {N m : Nat} {l : List UInt8} (h : Split N m l) (hN : N ≤ 100000) : l.length ≤ 20 ∧ (1 ≤ m → l.length ≤ 19) := by
  unfold Split at h
  have h1 := dec_le N hN
  have h2 := congrArg List.length h
  simp only [List.length_append] at h2
  refine ⟨by omega, fun hm => ?_⟩
  rw [if_neg (by omega), Lib.decDigits_length m] at h2
  have := Lib.nDigits_pos m
  omega

/-- The array's cells: behind the first 24 - l.length of them lies l. -/
def Tail (cs : Array Value) (l : List UInt8) : Prop := cs.size = 24 ∧ ∀ i u, (Lib.byteCells l)[i]? = some u → cs[24 - l.length + i]? = some u

theorem set_at {cs : Array Value} {k : Nat} (h : k < cs.size) (v : Value) : (cs.setIfInBounds k v)[k]? = some v := by
  simp [h]

theorem Tail.step {cs : Array Value} {l : List UInt8} (h : Tail cs l) (hl : l.length ≤ 19) (c : UInt8) : Tail (cs.setIfInBounds (24 - l.length - 1) (.int .u8 (c.toNat : Int))) (c :: l) := by
  obtain ⟨h1, h2⟩ := h
  refine ⟨by simp [h1], fun i u hu => ?_⟩
  cases i with
  | zero =>
    simp [Lib.byteCells] at hu
    subst hu
    simp only [List.length_cons, Nat.add_zero]
    rw [show 24 - (l.length + 1) = 24 - l.length - 1 by omega]
    exact set_at (by omega) _
  | succ i =>
    have hu' : (Lib.byteCells l)[i]? = some u := by simpa [Lib.byteCells] using hu
    have := h2 i u hu'
    simp only [List.length_cons]
    rw [show 24 - (l.length + 1) + (i + 1) = 24 - l.length + i by omega]
    rw [Array.getElem?_setIfInBounds, if_neg (by omega)]
    exact this

set_option maxRecDepth 100000 in
set_option maxHeartbeats 1600000 in
theorem itoa_any (B n : Nat) (v : Value) (xs : List Value) (N : Nat) (w : World) (hN1 : 1 ≤ N) (hN : N ≤ 100000) (hown : OwnsB w B v n xs) (hB : B ≤ w.heap.size) (hn : n ≤ 1000000) :
    Calls Ybad.prog 5 #[v, .int .i64 (N : Int)] w fun e w' => ∃ g cap, e = .returned (.slice (some ⟨g, 0, none⟩) (n + (Lib.decDigits N).length) cap) ∧ OwnsB w' B (.slice (some ⟨g, 0, none⟩) (n + (Lib.decDigits N).length) cap) (n + (Lib.decDigits N).length) (xs ++ Lib.byteCells (Lib.decDigits N)) ∧ w.grownBy w' v.ownBlock ∧ (v.ownBlock = some g ∨ w.heap.size ≤ g) := by
  obtain ⟨i0, hi0, hz0, hz1, hz2⟩ := info_parts info5
  have hN0 : (0 : Int) < (N : Int) := by omega
  go_enter Ybad.func5, Ybad.ntmps5
  go_wp2
  go_loopw [1, 6] (fun t k wr => ∃ (m : Nat) (l : List UInt8) (cs : Array Value), t = .int .i64 (m : Int) ∧ k = .int .i64 ((24 - l.length : Nat) : Int) ∧ wr = w.alloc (.cells cs 54) ∧ Split N m l ∧ Tail cs l ∧ m ≤ N) (fun t _ _ => (intOf t).toNat)
  case atStart => exact ⟨N, [], _, rfl, rfl, rfl, Split.start hN1, ⟨rfl, fun i u hu => by simp [Lib.byteCells] at hu⟩, Nat.le_refl _⟩
  case round =>
    obtain ⟨m, l, cs, rfl, rfl, rfl, hsp, htl, hmN⟩ := hrel
    have hroom := hsp.room hN
    by_cases hm : 1 ≤ m
    · have hm' : (0 : Int) < (m : Int) := by omega
      have hl := hroom.2 hm
      clear hroom
      obtain ⟨q, hq⟩ : ∃ q, q + 1 = 24 - l.length := ⟨23 - l.length, by omega⟩
      rw [← hq]
      have hq23 : q ≤ 23 := by omega
      have HQ : Hid (q + 1 = 24 - l.length) := hq
      clear hq
      have hcs := htl.1
      have htl' : Hid (Tail cs l) := htl
      clear htl
      obtain ⟨u, hu⟩ : ∃ u, cs[q]? = some u := ⟨cs[q], Array.getElem?_eq_getElem (by omega)⟩
      go_wp2
      go_roundw
      case rel =>
        have hsp' := hsp.step hm
        have htl2 := htl'.out.step hl (UInt8.ofNat (48 + m % 10))
        refine ⟨m / 10, _, _, by go_num, ?_, ?_, hsp', htl2, by omega⟩
        · have := HQ.out
          simp only [List.length_cons]
          rw [show 24 - (l.length + 1) = q by omega]
        · have := HQ.out
          rw [show 24 - l.length - 1 = q by omega]
          have : ((UInt8.ofNat (48 + m % 10)).toNat : Int) = 48 + (m : Int) % 10 := by
            rw [UInt8.toNat_ofNat_of_lt' (by simp [UInt8.size]; omega)]
            omega
          rw [this]
      case measure => simp [intOf]; omega
    · obtain rfl : m = 0 := by omega
      have hdl := hsp.stop
      have hl1 : 1 ≤ l.length := by rw [← hdl, Lib.decDigits_length]; exact Lib.nDigits_pos _
      obtain ⟨kk, hkk⟩ : ∃ kk, kk = 24 - l.length := ⟨_, rfl⟩
      rw [← hkk]
      have hk24 : kk ≤ 23 := by omega
      have h24k : 24 - kk = l.length := by omega
      have HK : Hid (kk = 24 - l.length) := hkk
      have HK2 : Hid (24 - kk = l.length) := h24k
      have HD : Hid (Lib.decDigits N = l) := hdl
      clear hkk h24k hdl
      have hki : (kk : Int) ≤ 24 := by omega
      have hcs := htl.1
      have hne : ¬ 24 = kk := by omega
      have hnews : ∀ j u, (Lib.byteCells l)[j]? = some u → (w.alloc (.cells cs 54)).cell? ((⟨w.heap.size, kk, none⟩ : Addr).add j) = some u := fun j u hu => by
        rw [Lib.add_plain, World.cell?_alloc_new, HK.out]
        exact htl.2 j u hu
      go_wp2_with (at_builtin; refine wpList_append_b _ rfl (.tmp 24) (.tmp 26) 22 rfl i0 Ybad.underlying22 hi0 hz0 hz1 hz2 B v n xs rfl (hown.alloc _) ⟨w.heap.size, kk, none⟩ (24 - kk) (24 - kk) (Lib.byteCells l) rfl (by rw [HK2.out, Lib.byteCells_length]) hnews (Lib.byteCells_one l) (by omega) (by omega) (by simp; omega) ?_; intro g cap w1 hown1 hgrow1 hat1)
      go_ret
      rw [HD.out]
      rw [HK2.out] at hown1
      exact ⟨g, cap, by rw [HK2.out]; rfl, hown1, (World.grownBy_alloc w _ _).trans hgrow1, hat1.imp id (fun h => by simp at h; omega)⟩

end Go.Proofs.YbulkbrcuDoor
