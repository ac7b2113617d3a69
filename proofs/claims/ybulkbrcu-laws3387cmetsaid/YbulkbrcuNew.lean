/-
  'store.New' (function 10), 'check.newReferences' (function 8).
-/
import Derived.Test.YbulkbrcuStore
import Derived.Deep.RegionWith
import Derived.RegionTactic
import Derived.BigRegion
namespace Go.Proofs.Ybulkbrcu
open Go.RowKit Go.Maps

theorem St.drew {B sB mB n : Nat} {w : World} (h : St B sB mB n w) : St B sB mB n w.drew := h.keep (fun _ _ => rfl)

/-- A slice of references that came in. -/
def Refs (w : World) (a : Option Addr) (len : Nat) : Prop := ∀ j, j < len → ∃ b off s t, a = some ⟨b, off, none⟩ ∧ w.cell? ⟨b, off + j * 2, none⟩ = some (.string s) ∧ w.cell? ⟨b, off + j * 2 + 1, none⟩ = some (.string t) ∧ s.size ≤ maxLen ∧ t.size ≤ maxLen

theorem madeMap_at {w : World} {b : Nat} (hb : w.heap.size = b) : (w.alloc (.map #[] 0)).ownsMap Yba.prog 9 nnElem b 0 (.map []) := by
  subst hb
  exact World.ownsMap_made _ _ _ _

theorem st_start (w : World) : St w.heap.size (w.heap.size + 1 + 1) w.heap.size 0 (((w.alloc (.map #[] 0)).alloc (.map #[] 0)).alloc (.cells #[.map (some w.heap.size), .map (some (w.heap.size + 1)), .slice none 0 0] 63)) := by
  refine ⟨⟨Nat.le_refl _, by omega⟩, ⟨#[.map (some w.heap.size), .map (some (w.heap.size + 1)), .slice none 0 0], ?_, rfl⟩, .map [], ((madeMap_at rfl).alloc _).alloc _, fun kl b he => by cases he⟩
  have := heap_alloc_new ((w.alloc (.map #[] 0)).alloc (.map #[] 0)) (.cells #[.map (some w.heap.size), .map (some (w.heap.size + 1)), .slice none 0 0] 63)
  simpa using this

theorem ObjOk.cell {w : World} {b : Nat} (h : ObjOk w b) : (∃ s, w.cell? ⟨b, 2, none⟩ = some (.string s) ∧ s.size ≤ maxLen) ∧ w.cell? ⟨b, 1, none⟩ = some (.bool true) ∧ w.frozen? ⟨b, 2, none⟩ = false := by
  obtain ⟨c, h1, h2, s, h3, h4⟩ := h
  exact ⟨⟨s, (cellOf h1 h3).1, h4⟩, (cellOf h1 h2).1, (cellOf h1 h3).2⟩

set_option maxRecDepth 100000 in
set_option maxHeartbeats 1600000 in
theorem new_any (a : Option Addr) (len cap : Nat) (w : World) (hlen : (len : Int) ≤ 1024) (hr : Refs w a len) :
    Calls Yba.prog 10 #[.slice a len cap] w fun e w' => ∃ n, e = .returned (.pointer (some ⟨w.heap.size + 1 + 1, 0, none⟩)) ∧ n ≤ 1024 ∧ St w.heap.size (w.heap.size + 1 + 1) w.heap.size n w' ∧ Below w.heap.size w w' := by
  have hmm := @run_makeMap Yba.prog
  have HR : Hid (Refs w a len) := hr
  clear hr
  go_enter Yba.func10, Yba.ntmps10
  go_wp2
  go_loopw [12] (fun i wr => ∃ k : Nat, k ≤ len ∧ i = .int .i64 (k : Int) ∧ St w.heap.size (w.heap.size + 1 + 1) w.heap.size k wr ∧ Below w.heap.size w wr) (fun i _ => len - (intOf i).toNat)
  case atStart => exact ⟨0, Nat.zero_le _, rfl, st_start w, (((Below.refl _ _).alloc (Nat.le_refl _) _).alloc (by simp) _).alloc (by simp; omega) _⟩
  case round =>
    obtain ⟨k, hk, rfl, S0, hb0⟩ := hrel
    have hs0 := hb0.size
    by_cases hlt : k < len
    · obtain ⟨b, off, s, t, hax, hc1, hc2, hs, ht⟩ := HR.out k hlt
      have hlb := World.block_lt_of_cell? w _ hc1
      have c1 := (hb0.cell (p := ⟨b, off + k * 2, none⟩) hlb).trans hc1
      have c2 := (hb0.cell (p := ⟨b, off + k * 2 + 1, none⟩) hlb).trans hc2
      clear hc1 hc2
      subst hax
      have hk0 : (0 : Int) ≤ (k : Int) := Int.natCast_nonneg _
      have hk1 : (k : Int) < (len : Int) := by omega
      have hmlt : w.heap.size < wr.heap.size := by
        obtain ⟨D, hown, _⟩ := S0.map
        exact hown.lt
      have S1 := S0.later ((Below.refl _ wr).alloc (Nat.le_refl _) (.cells #[.string s, .string t] 65))
      have hb1 := hb0.alloc hs0 (.cells #[.string s, .string t] 65)
      have htg := (cellOf (heap_alloc_new wr (.cells #[.string s, .string t] 65)) (o := 1) rfl).1
      go_wp2_with fail
      go_region_with (go_at_call 12; refine (object_any w.heap.size (w.heap.size + 1 + 1) w.heap.size k s _ S1.drew hs (by omega) (by show w.heap.size ≤ (wr.alloc _).heap.size; simp; omega)).mono ?_; rintro e w1 ⟨o, rfl, S2, O2, hBo, hg2⟩; obtain ⟨⟨so, q1, q2⟩, q3, q4⟩ := O2.cell; have htg2 := (hg2.cell_far ⟨wr.heap.size, 1, none⟩ (by show wr.heap.size < (wr.alloc _).heap.size; simp) (by simp; omega)).trans htg)
      all_goals
        have S3 := S2.setRef O2 ht
        have hb2 : Below w.heap.size w w1 := hb1.drew.grown hg2 (by show w.heap.size ≤ (wr.alloc _).heap.size; simp; omega) (fun j hj => by cases hj; exact Nat.le_refl _)
        have hb3 := hb2.setCell (p := ⟨o, 2, none⟩) hBo (.string t)
        clear q1 q2 q3 q4 htg2 O2 S2 hg2
        go_wp2
        go_roundw
        case rel => exact ⟨k + 1, by omega, by go_num, S3, hb3⟩
        case measure => simp [intOf]; omega
    · go_wp2
      go_ret
      exact ⟨k, rfl, by omega, S0, hb0⟩

end Go.Proofs.Ybulkbrcu
