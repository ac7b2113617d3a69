/-
  'LawS3387BScript' (function 4): her walks.
-/
import Derived.Test.YbulkbrcuScriptNet
import Derived.RegionTactic
import Derived.BigRegion
namespace Go.Proofs.Ybulkbrcu
open Go.RowKit Go.Maps

set_option maxRecDepth 100000 in
/-- More than 1024: true at once. -/
theorem script_long (a : Option Addr) (len cap : Nat) (w : World) (h : (1024 : Int) < len) :
    Calls Yba.prog 4 #[.slice a len cap] w fun e w' => e = .returned (.bool true) ∧ Below w.heap.size w w' := by
  go_enter Yba.func4, Yba.ntmps4
  go_wp2
  go_ret
  exact ⟨rfl, Below.refl _ _⟩

set_option maxRecDepth 100000 in
set_option maxHeartbeats 3200000 in
theorem script_any (a : Option Addr) (len cap : Nat) (w : World) (hlen : (len : Int) ≤ 1024) (F To : Nat → Nat)
    (hc : ∀ j, j < len → ∃ b off, a = some ⟨b, off, none⟩ ∧ w.cell? ⟨b, off + j * 2, none⟩ = some (.int .u8 (F j)) ∧ w.cell? ⟨b, off + j * 2 + 1, none⟩ = some (.int .u8 (To j))) (hF : ∀ j, j < len → F j ≤ 255) (hTo : ∀ j, j < len → To j ≤ 255) :
    Calls Yba.prog 4 #[.slice a len cap] w fun e w' => e = .returned (.bool true) ∧ Below w.heap.size w w' := by
  have hmm := @run_makeMap Yba.prog
  obtain ⟨i0, hi0, hz0, hz1, hz2'⟩ := info_parts Yba.info3
  have HC : Hid (∀ j, j < len → ∃ b off, a = some ⟨b, off, none⟩ ∧ w.cell? ⟨b, off + j * 2, none⟩ = some (.int .u8 (F j)) ∧ w.cell? ⟨b, off + j * 2 + 1, none⟩ = some (.int .u8 (To j))) := hc
  clear hc
  go_enter Yba.func4, Yba.ntmps4
  go_wp2
  go_loopw [5] (fun i wr => ∃ k : Nat, 1 ≤ k ∧ k ≤ 5 ∧ i = .int .i64 k ∧ ∃ nb, Net1 w k nb wr) (fun i _ => 5 - (intOf i).toNat)
  case atStart => exact ⟨1, Nat.le_refl _, by omega, rfl, fun _ => 0, net1_start w _ _ rfl⟩
  case round =>
    obtain ⟨k, hk1, hk2, rfl, nb, N⟩ := hrel
    by_cases hlt : k ≤ 4
    · have hb1 : (1 : Int) ≤ (k : Int) := by omega
      have hb2 : (k : Int) ≤ 4 := by omega
      have hsz := N.size
      obtain ⟨cs, ha, hcs, _⟩ := N.arr
      obtain ⟨u, hu⟩ : ∃ u, cs[k]? = some u := ⟨cs[k], Array.getElem?_eq_getElem (by omega)⟩
      have hcell := fun o => (cell_of_heap ((Below.heap_alloc wr o (w.heap.size + 1 + 1) (by omega)).trans ha) hu).1
      have hfro := fun o => (cell_of_heap ((Below.heap_alloc wr o (w.heap.size + 1 + 1) (by omega)).trans ha) hu).2
      clear ha hu
      go_wp2
      obtain ⟨W2, hW2⟩ : ∃ W2, W2 = (wr.alloc (.cells #[.int .i64 (k : Int), .slice none 0 0, .pointer none, .slice none 0 0, .int .i64 0] 25)).setCell ⟨w.heap.size + 1 + 1, k, none⟩ (.pointer (some ⟨wr.heap.size, 0, none⟩)) := ⟨_, rfl⟩
      rw [← hW2]
      obtain ⟨m1, m2, w', hrun, N'⟩ := net1_mid N hk1 hlt W2 hW2
      clear hW2 N hcell hfro
      go_region
      all_goals
        go_wp2
        go_roundw
        case rel => exact ⟨k + 1, by omega, by omega, by go_num, _, N'⟩
        case measure => simp [intOf]; omega
    · have hb2 : ¬ (k : Int) ≤ 4 := by omega
      obtain rfl : k = 5 := by omega
      go_wp2
      obtain ⟨G, N2⟩ := net2_start N #[.slice none 0 0, .slice none 0 0, .slice none 0 0, .slice none 0 0, .slice none 0 0] (by intro j hj; match j, hj with | 0, _ => rfl | 1, _ => rfl | 2, _ => rfl | 3, _ => rfl | 4, _ => rfl)
      obtain ⟨Mo, hMo⟩ : ∃ Mo, Mo = wr.heap.size := ⟨_, rfl⟩
      obtain ⟨T, hT⟩ : ∃ T, T = wr.heap.size + 1 := ⟨_, rfl⟩
      rw [← hT, ← hMo] at G N2
      rw [← hMo]
      have HMo : Hid (Mo = wr.heap.size) := hMo
      clear hMo hT
      obtain ⟨wo, hwo⟩ : ∃ wo, wo = wr.alloc (.cells #[.slice none 0 0, .slice none 0 0, .slice none 0 0, .slice none 0 0, .slice none 0 0] 35) := ⟨_, rfl⟩
      rw [← hwo]
      rw [← hwo] at N2
      clear hwo HMo N
      go_loopw [7, 39] (fun cnt i wq => ∃ (k c : Nat) (v : Nat → Value) (l : Nat → List Int), k ≤ len ∧ i = .int .i64 k ∧ cnt = .int .i64 (c : Int) ∧ Net2 w T Mo nb v l c wq ∧ (∀ j, 1 ≤ j → j ≤ 4 → l j = l (j + 4)) ∧ (∀ s, (l s).length ≤ k) ∧ c ≤ k) (fun _ i _ => len - (intOf i).toNat)
      case atStart => exact ⟨0, 0, _, _, Nat.zero_le _, rfl, rfl, N2, fun _ _ _ => rfl, fun _ => Nat.le_refl _, Nat.le_refl _⟩
      case round =>
        clear N2
        obtain ⟨k, c, v, l, hk, rfl, rfl, N2, hsame, hll, hck⟩ := hrel
        by_cases hlt : k < len
        · obtain ⟨b, off, hax, hc1, hc2⟩ := HC.out k hlt
          have hlb := World.block_lt_of_cell? w _ hc1
          have c1 := (N2.below.cell (p := ⟨b, off + k * 2, none⟩) hlb).trans hc1
          have c2 := (N2.below.cell (p := ⟨b, off + k * 2 + 1, none⟩) hlb).trans hc2
          have hf255 := hF k hlt
          have ht255 := hTo k hlt
          clear hc1 hc2
          generalize F k = fN at c1 hf255
          generalize To k = tN at c2 ht255
          subst hax
          have hk0 : (0 : Int) ≤ (k : Int) := Int.natCast_nonneg _
          have hk1 : (k : Int) < (len : Int) := by omega
          have NA := fun o => N2.kept G ((Below.refl wr.heap.size wr).alloc (Nat.le_refl _) o)
          have n1 := fun o => (NA o).ns (tN % 4 + 1) (by omega) (by omega)
          go_wp2_with fail
          rw [show ((fN : Int) % 5) = ((fN % 5 : Nat) : Int) from by omega, show ((tN : Int) % 4 + 1) = ((tN % 4 + 1 : Nat) : Int) from by omega]
          obtain ⟨f, hf⟩ : ∃ f, f = fN % 5 := ⟨_, rfl⟩
          obtain ⟨t, ht⟩ : ∃ t, t = tN % 4 + 1 := ⟨_, rfl⟩
          rw [← hf, ← ht]
          have hf4 : f ≤ 4 := by omega
          have ht1 : 1 ≤ t := by omega
          have ht4 : t ≤ 4 := by omega
          clear hf ht c1 c2 n1 N2
          obtain ⟨W, hW⟩ : ∃ W, W = wr.alloc (.cells #[.int .u8 (fN : Int), .int .u8 (tN : Int)] 37) := ⟨_, rfl⟩
          rw [← hW]
          have NW := hW ▸ NA (.cells #[.int .u8 (fN : Int), .int .u8 (tN : Int)] 37)
          clear NA hW
          by_cases hf0 : f = 0
          · subst hf0
            refine (edge_zero _ _ _).mono ?_
            rintro e w' ⟨rfl, rfl⟩
            go_wp2
            go_roundw
            case rel => exact ⟨k + 1, c, v, l, by omega, by go_num, rfl, NW, hsame, fun s => Nat.le_succ_of_le (hll s), by omega⟩
            case measure => simp [intOf]; omega
          · by_cases hft : f = t
            · subst hft
              have hz : ((f : Int) == 0) = false := by simpa using hf0
              have hz2 : ((f : Int) != 0) = true := by simpa using hf0
              refine (edge_self _ _ _ _ hz (NW.num f ht1 ht4)).mono ?_
              rintro e w' ⟨rfl, rfl⟩
              go_wp2
              go_roundw
              case rel => exact ⟨k + 1, c, v, l, by omega, by go_num, rfl, NW, hsame, fun s => Nat.le_succ_of_le (hll s), by omega⟩
              case measure => simp [intOf]; omega
            · have hz : ((f : Int) == 0) = false := by simpa using hf0
              have hz2 : ((f : Int) != 0) = true := by simpa using hf0
              have hy : ((f : Int) == (t : Int)) = false := by simp; omega
              have hy2 : ((f : Int) != (t : Int)) = true := by simp; omega
              have hf1 : 1 ≤ f := by omega
              obtain ⟨D, hD1, hD2, hD3⟩ := NW.map
              have hrowf : rowAt nb Mo f = ⟨nb f, 3, none⟩ := by simp [rowAt, hf4]
              have hvT : ∀ q, (v f).ownBlock = some q → T ≤ q := fun q hq => ((NW.own f hf1 (by omega)).lt q hq).1
              have gf := G.node f hf1 hf4
              have gt := G.top
              have hcf := NW.cell f hf1 (by omega)
              have hff := NW.free f hf1 (by omega)
              rw [hrowf] at hcf hff
              have hllf := hll f
              refine (edge_add (w.heap.size + 1) w.heap.size (nb f) (nb t) (v f) T (l f).length ((l f).map (Value.int .i64)) (f : Int) (t : Int) (c : Int) W hz hy NW.g0 (ptr_look hD1 (wf_small (by omega)) (hD3 f hf1 hf4)) hcf hff (NW.num t ht1 ht4) NW.g4 NW.f4 (NW.own f hf1 (by omega)) NW.size (by omega) (fun e => by have := hvT _ e; omega) (fun e => by have := hvT _ e; omega)).mono ?_
              rintro e w3 ⟨rfl, E⟩
              obtain ⟨v3f, N3⟩ := NW.edged G hf1 hf4 (by omega) E
              clear E hD1 hD2 hD3 hcf hff hrowf hvT NW
              obtain ⟨l3, hl3⟩ : ∃ l3, l3 = upd l f (l f ++ [(t : Int)]) := ⟨_, rfl⟩
              rw [← hl3] at N3
              generalize upd v f v3f = v3 at N3
              have HL3 : Hid (l3 = upd l f (l f ++ [(t : Int)])) := hl3
              have hll3 : (l3 (f + 4)).length ≤ k := by rw [hl3, upd_other _ _ (by omega)]; exact hll _
              clear hl3
              have hrow4 : rowAt nb Mo (f + 4) = ⟨Mo, f, none⟩ := by simp [rowAt]; omega
              have m1 := N3.cell (f + 4) (by omega) (by omega)
              have m2 := N3.free (f + 4) (by omega) (by omega)
              rw [hrow4] at m1 m2
              clear hrow4
              have hi1 : (1 : Int) ≤ (f : Int) := by omega
              have hi4 : (f : Int) ≤ 4 := by omega
              have hs3 := N3.size
              have m1a := fun o => (World.cell?_alloc_lt w3 o ⟨Mo, f, none⟩ (show Mo < w3.heap.size by omega)).trans m1
              have m2a : ∀ o, (w3.alloc o).frozen? ⟨Mo, f, none⟩ = false := fun o => (World.frozen?_of_block (Below.heap_alloc w3 o Mo (by omega))).trans m2
              have hvT3 : ∀ q, (v3 (f + 4)).ownBlock = some q → T ≤ q := fun q hq => ((N3.own (f + 4) (by omega) (by omega)).lt q hq).1
              go_wp2_with (first
                | (at_builtin; refine wpList_append_lies _ rfl (.tmp 68) (.tmp 70) 22 rfl T 3 i0 (.int .i64 0) 1 8 Yba.underlying22 hi0 hz0 hz1 hz2' rfl (by omega) (v3 (f + 4)) (l3 (f + 4)).length _ rfl ((N3.own (f + 4) (by omega) (by omega)).alloc _) ⟨w3.heap.size, 0, none⟩ 1 1 [.int .i64 (t : Int)] rfl rfl (cell_one_new _ _ _) (ints_oneCell .i64 [(t : Int)]) (by omega) (by unfold maxLen; omega) (by omega) (by simp; omega) (w3.heap.size + 1) (by simp) ?_; intro gg cap' w4 hown4 hgrow4 hat4 hlt4; have q1 := (hgrow4.cell_far ⟨Mo, f, none⟩ (by simp; omega) (fun e => absurd (hvT3 Mo e.symm) (by omega))).trans (m1a _); have q2 := (hgrow4.frozen_far ⟨Mo, f, none⟩ (by simp; omega) (fun e => absurd (hvT3 Mo e.symm) (by omega))).trans (m2a _)))
              have N4 := (N3.kept G ((Below.refl w3.heap.size w3).alloc (Nat.le_refl _) _)).modelled G hf1 hf4 hown4 hgrow4 (hat4.imp id (fun h => by rw [h]; simp))
              have SS := same_step hf1 hf4 hsame hll (t : Int) l3 _ HL3.out rfl
              go_roundw
              case rel => exact ⟨k + 1, c + 1, _, _, by omega, by go_num, by go_num, N4, SS.1, SS.2, by omega⟩
              case measure => simp [intOf]; omega
        · obtain ⟨D, hD1, hD2, hD3⟩ := N2.map
          have hle := hD1.len Yba.underlying27
          rw [hD2] at hle
          have g0 := N2.g0
          have g4 := N2.g4
          go_wp2
          clear hD1 hD3 hle g0 g4 hck
          obtain ⟨w2, rfl⟩ : ∃ w2 : World, w2 = wr := ⟨_, rfl⟩
          go_loopw [12] (fun i wx => ∃ j : Nat, 1 ≤ j ∧ j ≤ 5 ∧ i = .int .i64 j ∧ ∃ q, wx = w2.drewN q) (fun i _ => 5 - (intOf i).toNat)
          case atStart => exact ⟨1, Nat.le_refl _, by omega, rfl, 0, rfl⟩
          case round =>
            obtain ⟨j, hj1, hj5, rfl, hwx⟩ := hrel
            by_cases hj4 : j ≤ 4
            · have hrowj : rowAt nb Mo j = ⟨nb j, 3, none⟩ := by simp [rowAt, hj4]
              have hrow4 : rowAt nb Mo (j + 4) = ⟨Mo, j, none⟩ := by simp [rowAt]; omega
              obtain ⟨ao, cp, hva, hra⟩ := row_form (N2.own j hj1 (by omega))
              obtain ⟨bo, dp, hvb, hrb⟩ := row_form (N2.own (j + 4) (by omega) (by omega))
              have x1 : wr.cell? ⟨w.heap.size + 1 + 1, j, none⟩ = some (.pointer (some ⟨nb j, 0, none⟩)) := by obtain ⟨q, rfl⟩ := hwx; exact N2.ns j hj1 hj4
              have x2 : wr.cell? ⟨nb j, 3, none⟩ = some (.slice ao (l j).length cp) := by obtain ⟨q, rfl⟩ := hwx; rw [← hva, ← hrowj]; exact N2.cell j hj1 (by omega)
              have x3 : wr.cell? ⟨Mo, j, none⟩ = some (.slice bo (l j).length dp) := by obtain ⟨q, rfl⟩ := hwx; rw [hsame j hj1 hj4, ← hvb, ← hrow4]; exact N2.cell (j + 4) (by omega) (by omega)
              rw [← hsame j hj1 hj4] at hrb
              have HW : Hid (∃ q, wr = w2.drewN q) := hwx
              have HA : Hid (∀ i, i < (l j).length → ∃ gg, ao = some ⟨gg, 0, none⟩ ∧ w2.cell? ⟨gg, i, none⟩ = some (.int .i64 ((l j).getD i 0))) := hra
              have HB : Hid (∀ i, i < (l j).length → ∃ gg, bo = some ⟨gg, 0, none⟩ ∧ w2.cell? ⟨gg, i, none⟩ = some (.int .i64 ((l j).getD i 0))) := hrb
              have hlj := hll j
              clear hwx hra hrb hva hvb hrowj hrow4
              generalize l j = lj at x2 x3 HA HB hlj
              have hi1 : (1 : Int) ≤ (j : Int) := by omega
              have hi4 : (j : Int) ≤ 4 := by omega
              go_wp2
              go_quiet (fail)
              go_wp2
              obtain ⟨q0, hq0⟩ := HW.out
              have e1 := x1
              have e2 := x2
              have e3 := x3
              rw [hq0] at e1 e2 e3
              simp only [World.cell?_drewN] at e1 e2 e3
              have HQ : Hid (wr = w2.drewN q0) := hq0
              clear hq0 x1 x2 x3 HW
              go_loopw [13] (fun i wx => ∃ m : Nat, m ≤ lj.length ∧ i = .int .i64 m ∧ ∃ q, wx = w2.drewN q) (fun i _ => lj.length - (intOf i).toNat)
              case atStart => exact ⟨0, Nat.zero_le _, rfl, q0 + nq, by rw [HQ.out, World.drewN_drewN]⟩
              case round =>
                clear HQ
                obtain ⟨m, hm, rfl, hwx⟩ := hrel
                have y1 : wr.cell? ⟨w.heap.size + 1 + 1, j, none⟩ = some (.pointer (some ⟨nb j, 0, none⟩)) := by obtain ⟨q, rfl⟩ := hwx; exact e1
                have y2 : wr.cell? ⟨nb j, 3, none⟩ = some (.slice ao lj.length cp) := by obtain ⟨q, rfl⟩ := hwx; exact e2
                have y3 : wr.cell? ⟨Mo, j, none⟩ = some (.slice bo lj.length dp) := by obtain ⟨q, rfl⟩ := hwx; exact e3
                by_cases hml : m < lj.length
                · obtain ⟨g1, h1, z1⟩ := HA.out m hml
                  obtain ⟨g2, h2, z2⟩ := HB.out m hml
                  generalize lj.getD m 0 = z at z1 z2
                  have y4 : wr.cell? ⟨g1, m, none⟩ = some (.int .i64 z) := by obtain ⟨q, rfl⟩ := hwx; exact z1
                  have y5 : wr.cell? ⟨g2, m, none⟩ = some (.int .i64 z) := by obtain ⟨q, rfl⟩ := hwx; exact z2
                  have HW : Hid (∃ q, wr = w2.drewN q) := hwx
                  clear hwx e1 e2 e3 z1 z2 HA HB
                  subst h1
                  subst h2
                  have hm0 : (0 : Int) ≤ (m : Int) := Int.natCast_nonneg _
                  have hm1 : (m : Int) < (lj.length : Int) := by omega
                  go_wp2
                  go_quiet (fail)
                  go_wp2
                  go_roundw
                  case rel => exact ⟨m + 1, by omega, by go_num, by obtain ⟨q, hq⟩ := HW.out; exact ⟨q + nq, by rw [hq, World.drewN_drewN]⟩⟩
                  case measure => simp [intOf]; omega
                · have HW : Hid (∃ q, wr = w2.drewN q) := hwx
                  clear hwx e1 e2 e3 HA HB
                  go_wp2
                  go_roundw
                  case rel => exact ⟨j + 1, by omega, by omega, by go_num, HW.out⟩
                  case measure => simp [intOf]; omega
            · have hb2 : ¬ (j : Int) ≤ 4 := by omega
              go_wp2
              go_ret
              exact ⟨rfl, by obtain ⟨q, rfl⟩ := hwx; exact below_drewN N2.below q⟩
end Go.Proofs.Ybulkbrcu
