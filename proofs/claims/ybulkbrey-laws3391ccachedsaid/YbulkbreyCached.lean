/-
  '(*objects.node).handOn' (function 5) where 'handed' is set, and 'objects.LawS3391CCached' (function 4): the walks.
-/
import Derived.Test.YbulkbreyRow
import Derived.RegionTactic
import Derived.BigRegion
import Derived.BigQuiet
import Derived.Laws.Cover3
import Derived.Lib.Builder
namespace Go.Proofs.Ybulkbrey
open Go.RowKit

/-- 's == nil' of a slice that is not nil. -/
theorem eql_nil (x : Addr) (l c : Nat) (w : World) : (binOp .eql 23 (.slice (some x) l c) (.slice none 0 0)).run Yba.prog w = .ok (.bool false) w := by
  simp only [binOp]
  simp [run_equal_slice_nil w 23 33 (some x) l c Yba.underlying23]

set_option maxRecDepth 100000 in
theorem handOn_set (nb : Nat) (x : Addr) (l c : Nat) (w : World) (h : w.cell? ⟨nb, 4, none⟩ = some (.slice (some x) l c)) :
    Calls Yba.prog 5 #[.pointer (some ⟨nb, 0, none⟩)] w fun e w' => e = .returned (.slice (some x) l c) ∧ w' = w := by
  have hq := eql_nil x l c
  go_enter Yba.func5, Yba.ntmps5
  go_wp2
  go_ret
  exact ⟨rfl, rfl⟩

/-- The same, of a node that has just been made: what is told of the world behind the call. -/
theorem handOn_new (wr : World) (o : Obj) (c : Array Value) (x : Addr) (l cp : Nat) (v : Value) (hc : c[4]? = some (.slice (some x) l cp)) (hv : c[2]? = some v) :
    Calls Yba.prog 5 #[.pointer (some ⟨wr.heap.size + 1, 0, none⟩)] ((wr.alloc o).alloc (.cells c 42)) fun e w' => e = .returned (.slice (some x) l cp) ∧ Below wr.heap.size wr w' ∧ w'.cell? ⟨wr.heap.size + 1, 2, none⟩ = some v := by
  have hn : ((wr.alloc o).alloc (.cells c 42)).heap[wr.heap.size + 1]? = some (.cells c 42) := by
    have := heap_alloc_new (wr.alloc o) (.cells c 42)
    simpa using this
  refine (handOn_set _ x l cp _ (cellOf hn hc).1).mono ?_
  rintro e w' ⟨rfl, rfl⟩
  exact ⟨rfl, ((Below.refl _ _).alloc (Nat.le_refl _) _).alloc (by simp) _, (cellOf hn hv).1⟩

theorem ptr_neq (a : Addr) (w : World) : (binOp .neq 45 (.pointer (some a)) (.pointer (some a))).run Yba.prog w = .ok (.bool false) w := by
  have h : Yba.prog.info? 33 = some infoD := by kernel_rfl
  exact Lib.run_neq_ptr_same w a Yba.underlying45 h

theorem below_drewN {B : Nat} {a w : World} (h : Below B a w) (q : Nat) : Below B a (w.drewN q) := ⟨h.os, h.tape, h.output, h.size, h.block⟩

set_option maxRecDepth 100000 in
theorem cached_long (nm : ByteArray) (a b : Option Addr) (la ca lb cb : Nat) (w : World) (hl : (1024 : Int) < (la : Int)) :
    Calls Yba.prog 4 #[.string nm, .slice a la ca, .slice b lb cb] w fun e w' => e = .returned (.bool true) ∧ Below w.heap.size w w' := by
  go_enter Yba.func4, Yba.ntmps4
  go_wp2
  go_ret
  exact ⟨rfl, Below.refl _ _⟩

set_option maxRecDepth 100000 in
theorem cached_long2 (nm : ByteArray) (a b : Option Addr) (la ca lb cb : Nat) (w : World) (h1 : (la : Int) ≤ 1024) (hl : (1024 : Int) < (lb : Int)) :
    Calls Yba.prog 4 #[.string nm, .slice a la ca, .slice b lb cb] w fun e w' => e = .returned (.bool true) ∧ Below w.heap.size w w' := by
  go_enter Yba.func4, Yba.ntmps4
  go_wp2
  go_ret
  exact ⟨rfl, Below.refl _ _⟩

set_option maxRecDepth 100000 in
set_option maxHeartbeats 1600000 in
theorem cached_any (nm : ByteArray) (a b : Option Addr) (la ca lb cb : Nat) (w : World) (h1 : (la : Int) ≤ 1024) (h2 : (lb : Int) ≤ 1024)
    (N V : Nat → ByteArray) (O : Nat → Int) (hA : Dirs w a la N V O) (M U : Nat → ByteArray) (Q : Nat → Int) (hB : Dirs w b lb M U Q) :
    Calls Yba.prog 4 #[.string nm, .slice a la ca, .slice b lb cb] w fun e w' => e = .returned (.bool true) ∧ Below w.heap.size w w' := by
  have HA : Hid (Dirs w a la N V O) := hA
  have HB : Hid (Dirs w b lb M U Q) := hB
  have hm1 := make_dirs la h1
  have hm2 := make_dirs lb h2
  clear hA hB
  go_enter Yba.func4, Yba.ntmps4
  go_wp2
  clear hm1
  go_loopw [32] (fun i wr => ∃ k : Nat, k ≤ la ∧ i = .int .i64 (k : Int) ∧ Row wr w.heap.size la k N V ∧ Below w.heap.size w wr) (fun i _ => la - (intOf i).toNat)
  case atStart => exact ⟨0, Nat.zero_le _, rfl, made_row la N V w, (Below.refl _ _).alloc (Nat.le_refl _) _⟩
  case round =>
    obtain ⟨k, hk, rfl, R0, hb0⟩ := hrel
    have hs0 := hb0.size
    by_cases hlt : k < la
    · obtain ⟨pb, off, hax, hc1, hc2, hc3⟩ := HA.out k hlt
      have hlb := World.block_lt_of_cell? w _ hc1
      have c1 := (hb0.cell (p := ⟨pb, off + k * 3, none⟩) hlb).trans hc1
      have c2 := (hb0.cell (p := ⟨pb, off + k * 3 + 1, none⟩) hlb).trans hc2
      have c3 := (hb0.cell (p := ⟨pb, off + k * 3 + 2, none⟩) hlb).trans hc3
      clear hc1 hc2 hc3
      subst hax
      have hk0 : (0 : Int) ≤ (k : Int) := Int.natCast_nonneg _
      have hk1 : (k : Int) < (la : Int) := by omega
      have hD := R0.lt
      obtain ⟨x, y, z, ⟨x1, x2⟩, ⟨y1, y2⟩, ⟨z1, z2⟩⟩ := R0.room hlt
      have R1 := R0.set hlt
      have hb1 := ((hb0.setCell (p := ⟨w.heap.size, k * 3, none⟩) (Nat.le_refl _) (.string (N k))).setCell (p := ⟨w.heap.size, k * 3 + 1, none⟩) (Nat.le_refl _) (.string (V k))).setCell (p := ⟨w.heap.size, k * 3 + 2, none⟩) (Nat.le_refl _) Value.nilIface
      clear hm2
      go_wp2
      go_roundw
      case rel => exact ⟨k + 1, by omega, by go_num, R1.keep (Below.heap_alloc _ _ _ (by simpa using hD)), hb1.alloc (by simpa using hs0) _⟩
      case measure => simp [intOf]; omega
    · obtain rfl : k = la := by omega
      clear hlt hk
      have hD := R0.lt
      go_wp2
      clear hm2
      have hb1 := (Below.refl _ wr).alloc (Nat.le_refl _) (.cells (madeD lb) 33)
      obtain ⟨w1, hw1⟩ : ∃ w1, w1 = wr := ⟨_, rfl⟩
      have hd1 : w.heap.size < w1.heap.size := by rw [hw1]; exact hD
      rw [← hw1] at R0 hb0 hs0 hD hb1
      subst hw1
      go_loopw [51] (fun i wx => ∃ k2 : Nat, k2 ≤ lb ∧ i = .int .i64 (k2 : Int) ∧ Row wx w1.heap.size lb k2 M U ∧ Below w1.heap.size w1 wx) (fun i _ => lb - (intOf i).toNat)
      case atStart => exact ⟨0, Nat.zero_le _, rfl, made_row lb M U w1, hb1⟩
      case round =>
        obtain ⟨k2, hk2, rfl, P0, hbx⟩ := hrel
        have hsx := hbx.size
        have hbw : Below w.heap.size w wr := hb0.trans (hbx.mono hs0)
        by_cases hlt : k2 < lb
        · obtain ⟨pb, off, hax, hc1, hc2, hc3⟩ := HB.out k2 hlt
          have hlb := World.block_lt_of_cell? w _ hc1
          have c1 := (hbw.cell (p := ⟨pb, off + k2 * 3, none⟩) hlb).trans hc1
          have c2 := (hbw.cell (p := ⟨pb, off + k2 * 3 + 1, none⟩) hlb).trans hc2
          have c3 := (hbw.cell (p := ⟨pb, off + k2 * 3 + 2, none⟩) hlb).trans hc3
          clear hc1 hc2 hc3
          subst hax
          have hk0 : (0 : Int) ≤ (k2 : Int) := Int.natCast_nonneg _
          have hk1 : (k2 : Int) < (lb : Int) := by omega
          have hE := P0.lt
          obtain ⟨x, y, z, ⟨x1, x2⟩, ⟨y1, y2⟩, ⟨z1, z2⟩⟩ := P0.room hlt
          have P1 := P0.set hlt
          have hb2 := ((hbx.setCell (p := ⟨w1.heap.size, k2 * 3, none⟩) (Nat.le_refl _) (.string (M k2))).setCell (p := ⟨w1.heap.size, k2 * 3 + 1, none⟩) (Nat.le_refl _) (.string (U k2))).setCell (p := ⟨w1.heap.size, k2 * 3 + 2, none⟩) (Nat.le_refl _) Value.nilIface
          go_wp2
          go_roundw
          case rel => exact ⟨k2 + 1, by omega, by go_num, P1.keep (Below.heap_alloc _ _ _ (by simpa using hE)), hb2.alloc (by simpa using hsx) _⟩
          case measure => simp [intOf]; omega
        · obtain rfl : k2 = lb := by omega
          clear hlt hk2
          have hE := P0.lt
          have R2 := R0.keep (hbx.block _ hd1)
          have hd2 : w.heap.size < wr.heap.size := R2.lt
          have hq := eql_nil ⟨w1.heap.size, 0, none⟩ k2 k2
          have hpn := ptr_neq ⟨w1.heap.size, 0, none⟩
          obtain ⟨w2, hw2⟩ : ∃ w2, w2 = wr := ⟨_, rfl⟩
          rw [← hw2] at P0 hbx hsx hbw hE R2 hd2
          subst hw2
          clear hbx hsx R0 hb0 hs0 hb1
          go_wp2_with (first
            | (go_at_call 5; refine (handOn_new w2 _ _ ⟨w1.heap.size, 0, none⟩ k2 k2 _ rfl rfl).mono ?_; rintro e w3 ⟨rfl, hb3, hnd⟩; have hs3 := hb3.size)
            | go_in)
          have R3 := R2.keep (hb3.block _ hd2)
          have P3 := P0.keep (hb3.block _ hE)
          have hbw3 : Below w.heap.size w w3 := hbw.trans (hb3.mono hbw.size)
          have hnl := World.block_lt_of_cell? w3 _ hnd
          clear hq P0 R2 hb3 hs3 hbw
          by_cases hz : 0 < k2
          all_goals
            have hz1 : (0 : Int) < (k2 : Int) ∨ ¬ (0 : Int) < (k2 : Int) := Classical.em _
            try (have hz2 : ¬ (0 : Int) < (k2 : Int) := by omega)
            try (have hz2 : (0 : Int) < (k2 : Int) := by omega)
            clear hz1
            go_quiet (fail)
            go_wp2
            go_loopw [105] (fun i wx => ∃ k3 : Nat, k3 ≤ k2 ∧ i = .int .i64 (k3 : Int) ∧ Below w3.heap.size w3 wx) (fun i _ => k2 - (intOf i).toNat)
            case atStart => exact ⟨0, Nat.zero_le _, rfl, below_drewN (Below.refl _ _) _⟩
            case round =>
              obtain ⟨k3, hk3, rfl, hby⟩ := hrel
              have hsy := hby.size
              have hbwy : Below w.heap.size w wr := hbw3.trans (hby.mono hbw3.size)
              by_cases hlt : k3 < k2
              · first
                | exact absurd (Nat.lt_of_le_of_lt (Nat.zero_le _) hlt) hz
                | (obtain ⟨pb, off, hax, hc1, hc2, hc3⟩ := HB.out k3 hlt
                   have hlb := World.block_lt_of_cell? w _ hc1
                   have c1 := (hbwy.cell (p := ⟨pb, off + k3 * 3, none⟩) hlb).trans hc1
                   have c2 := (hbwy.cell (p := ⟨pb, off + k3 * 3 + 1, none⟩) hlb).trans hc2
                   have c3 := (hbwy.cell (p := ⟨pb, off + k3 * 3 + 2, none⟩) hlb).trans hc3
                   clear hc1 hc2 hc3
                   subst hax
                   obtain ⟨x1, x2, x3⟩ := (P3.keep (hby.block _ P3.lt)).cells hlt
                   have hk0 : (0 : Int) ≤ (k3 : Int) := Int.natCast_nonneg _
                   have hk1 : (k3 : Int) < (k2 : Int) := by omega
                   have hz1 : w1.heap.size < wr.heap.size := Nat.lt_of_lt_of_le P3.lt hsy
                   go_wp2
                   go_quiet (fail)
                   go_wp2
                   go_roundw
                   case rel => exact ⟨k3 + 1, by omega, by go_num, below_drewN (hby.alloc hsy _) _⟩
                   case measure => simp [intOf]; omega)
              · go_wp2
                go_loopw [139] (fun i wx => ∃ k4 : Nat, k4 ≤ k ∧ i = .int .i64 (k4 : Int) ∧ Below w3.heap.size w3 wx) (fun i _ => k - (intOf i).toNat)
                case atStart => exact ⟨0, Nat.zero_le _, rfl, hby⟩
                case round =>
                  clear hby hsy hbwy
                  obtain ⟨k4, hk4, rfl, hby⟩ := hrel
                  have hsy := hby.size
                  have hbwy : Below w.heap.size w wr := hbw3.trans (hby.mono hbw3.size)
                  by_cases hlt4 : k4 < k
                  · obtain ⟨pb, off, hax, hc1, hc2, hc3⟩ := HA.out k4 hlt4
                    have hlb := World.block_lt_of_cell? w _ hc1
                    have c1 := (hbwy.cell (p := ⟨pb, off + k4 * 3, none⟩) hlb).trans hc1
                    have c2 := (hbwy.cell (p := ⟨pb, off + k4 * 3 + 1, none⟩) hlb).trans hc2
                    have c3 := (hbwy.cell (p := ⟨pb, off + k4 * 3 + 2, none⟩) hlb).trans hc3
                    clear hc1 hc2 hc3
                    subst hax
                    obtain ⟨x1, x2, x3⟩ := (R3.keep (hby.block _ R3.lt)).cells hlt4
                    have x4 := (hby.cell (p := ⟨w2.heap.size + 1, 2, none⟩) hnl).trans hnd
                    have hk0 : (0 : Int) ≤ (k4 : Int) := Int.natCast_nonneg _
                    have hk1 : (k4 : Int) < (k : Int) := by omega
                    have hz3 : w.heap.size < wr.heap.size := Nat.lt_of_lt_of_le R3.lt hsy
                    have hz4 : w2.heap.size + 1 < wr.heap.size := Nat.lt_of_lt_of_le hnl hsy
                    go_wp2
                    go_quiet (fail)
                    go_wp2
                    go_roundw
                    case rel => exact ⟨k4 + 1, by omega, by go_num, below_drewN (hby.alloc hsy _) _⟩
                    case measure => simp [intOf]; omega
                  · go_wp2
                    go_ret
                    exact ⟨rfl, hbwy⟩

end Go.Proofs.Ybulkbrey
