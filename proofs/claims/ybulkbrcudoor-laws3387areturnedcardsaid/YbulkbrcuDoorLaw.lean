/-
  'LawS3387AReturned' (function 3): her walk.
-/
import Derived.Test.YbulkbrcuDoorLawParts
namespace Go.Proofs.YbulkbrcuDoor
open Go.RowKit

/-- A slice that came in, its first len cells holding f's numbers. -/
def Reads (w : World) (a : Option Addr) (len : Nat) (f : Nat → Value) : Prop := ∀ j, j < len → ∃ b off, a = some ⟨b, off, none⟩ ∧ w.cell? ⟨b, off + j, none⟩ = some (f j)

set_option maxRecDepth 100000 in
set_option maxHeartbeats 6400000 in
theorem law_any (aD aT aA : Option Addr) (lD cD lT cT lA cA : Nat) (a : Int) (s : ByteArray) (w : World) (h1 : (lD : Int) ≤ 1024) (h2 : (lT : Int) ≤ 1024) (h3 : (lA : Int) ≤ 1024) (h4 : (s.size : Int) ≤ 1024)
    (dz tz : Nat → Nat) (az : Nat → Int) (hD : Reads w aD lD (fun j => .int .u8 (dz j : Int))) (hDb : ∀ j, j < lD → dz j ≤ 255) (hT : Reads w aT lT (fun j => .int .u8 (tz j : Int))) (hTb : ∀ j, j < lT → tz j ≤ 255) (hA : Reads w aA lA (fun j => .int .i64 (az j)))
    (htab : Lib.TabIs Ybad.prog w tabName .u64 Lib.pow10Tab) :
    Calls Ybad.prog 3 #[.slice aD lD cD, .slice aT lT cT, .slice aA lA cA, .int .i64 a, .string s] w fun e w' => e = .returned (.bool true) ∧ Below w.heap.size w w' := by
  have hmk := make4
  obtain ⟨i5, hi5, hz50, hz51, hz52⟩ := info_parts info5
  obtain ⟨i31, hi31, hz310, hz311, hz312⟩ := info_parts info31
  have kc := fun (w : World) (C : Array Value) (n c : Nat) => Lib.run_convert_bytes_const (P := Ybad.prog) w 22 5 C n c Ybad.underlying22 Ybad.underlying5
  have ks := fun (w : World) => Lib.run_convert_string_bytes (P := Ybad.prog) w 9 22 5 s Ybad.underlying9 Ybad.underlying22 Ybad.underlying5
  obtain ⟨abf, habf⟩ : ∃ abf : Nat → Int, abf = fun k => if k < lA then az k else 0 := ⟨_, rfl⟩
  obtain ⟨kz, hkz⟩ : ∃ kz : Nat → Nat, kz = fun j => if j < lT then tz j % 4 else 0 := ⟨_, rfl⟩
  obtain ⟨tb, htb⟩ : ∃ tb : Nat → Nat, tb = fun j => w.heap.size + 1 + kz j := ⟨_, rfl⟩
  obtain ⟨ab, hab⟩ : ∃ ab : Nat → Int, ab = fun j => abf (kz j) := ⟨_, rfl⟩
  obtain ⟨es, hes⟩ : ∃ es : Nat → Nat, es = esOf dz := ⟨_, rfl⟩
  have HABF : Hid (abf = fun k => if k < lA then az k else 0) := habf
  have HKZ : Hid (kz = fun j => if j < lT then tz j % 4 else 0) := hkz
  have HTB : Hid (tb = fun j => w.heap.size + 1 + kz j) := htb
  have HAB : Hid (ab = fun j => abf (kz j)) := hab
  have HES : Hid (es = esOf dz) := hes
  have hes100 : ∀ j, j < lD → es j ≤ 100000 := fun j hj => by rw [hes]; have := acc_le dz (j + 1); unfold esOf; omega
  have hes1 : ∀ j, 1 ≤ es j := fun j => by rw [hes]; exact acc_pos dz j
  have hmono : ∀ i j, i ≤ j → j < lD → es i ≤ es j := fun i j hij _ => by rw [hes]; exact es_mono dz hij
  have hkz4 : ∀ j, kz j < 4 := fun j => by rw [hkz]; show (if j < lT then tz j % 4 else 0) < 4; split <;> omega
  clear habf hkz htb hab hes
  have HRD : Hid (Reads w aD lD (fun j => .int .u8 (dz j : Int))) := hD
  have HRT : Hid (Reads w aT lT (fun j => .int .u8 (tz j : Int))) := hT
  have HRA : Hid (Reads w aA lA (fun j => .int .i64 (az j))) := hA
  clear hD hT hA
  have HE : Hid (∀ j, j < lD → es j ≤ 100000) := hes100
  have HE1 : Hid (∀ j, 1 ≤ es j) := hes1
  have HM : Hid (∀ i j, i ≤ j → j < lD → es i ≤ es j) := hmono
  have HK4 : Hid (∀ j, kz j < 4) := hkz4
  clear hes100 hes1 hmono hkz4
  go_enter Ybad.func3, Ybad.ntmps3
  go_wp2
  go_loopw [12] (fun i wr => ∃ k : Nat, k ≤ 4 ∧ i = .int .i64 (k : Int) ∧ Pool w abf k wr) (fun i _ => 4 - (intOf i).toNat)
  case atStart => exact ⟨0, Nat.zero_le _, rfl, pool_start w abf⟩
  case round =>
    obtain ⟨k, hk, rfl, N⟩ := hrel
    by_cases hk4 : k < 4
    · have hk4' : (k : Int) < 4 := by omega
      obtain ⟨cs, hcs, hcz, _⟩ := N.arr
      obtain ⟨u, hu⟩ : ∃ u, cs[k]? = some u := ⟨cs[k], Array.getElem?_eq_getElem (by omega)⟩
      have c1 := (cell_of_heap hcs hu).1
      have c2 := (cell_of_heap hcs hu).2
      have hslt : w.heap.size < wr.heap.size := by have := N.size; omega
      clear hcs hu
      by_cases hkA : k < lA
      · have hkA' : (k : Int) < (lA : Int) := by omega
        obtain ⟨b, off, hax, hx⟩ := HRA.out k hkA
        have hbw := World.block_lt_of_cell? w _ hx
        have hx' : wr.cell? ⟨b, off + k, none⟩ = some (.int .i64 (az k)) := (N.below.cell (p := ⟨b, off + k, none⟩) hbw).trans hx
        have hbw' : b < wr.heap.size := by have := N.size; have : b < w.heap.size := hbw; omega
        clear hx hbw
        subst hax
        go_wp2
        go_roundw
        case rel => exact ⟨k + 1, by omega, by go_num, pool_step N hk4 (by rw [HABF.out]; show _ = if k < lA then az k else 0; rw [if_pos hkA])⟩
        case measure => simp [intOf]; omega
      · have hkA' : ¬ (k : Int) < (lA : Int) := by omega
        go_wp2
        go_roundw
        case rel => exact ⟨k + 1, by omega, by go_num, pool_step N hk4 (by rw [HABF.out]; show _ = if k < lA then az k else 0; rw [if_neg hkA])⟩
        case measure => simp [intOf]; omega
    · have hk4' : ¬ (k : Int) < 4 := by omega
      obtain rfl : k = 4 := by omega
      go_wp2_with (at_make; refine wpList_make_own _ rfl (.const (.int .i64 0)) (.tmp 68) 29 rfl wr.heap.size 31 i31 _ 2 Ybad.underlying29 hi31 hz310 hz311 .i64 .i64 _ lD rfl rfl rfl (by rw [hz312]; omega) (by unfold maxLen; omega) (Nat.le_refl _) ?_; intro wm hom hgm)
      obtain ⟨wp, rfl⟩ : ∃ wp : World, wp = wr := ⟨_, rfl⟩
      have hbm := Below.grown (Below.refl wp.heap.size wp) hgm (Nat.le_refl _) (fun k hk => by cases hk)
      clear hgm hk hk4 hk4'
      obtain ⟨wsB, hwsB⟩ : ∃ wsB, wsB = wp.heap.size := ⟨_, rfl⟩
      have hw5 : wsB = w.heap.size + 5 := by have := N.size; omega
      rw [← hwsB] at hom hbm
      rw [← hwsB]
      have HWS : Hid (wsB = wp.heap.size) := hwsB
      have HW5 : Hid (wsB = w.heap.size + 5) := hw5
      have hwlt : w.heap.size < wsB := by omega
      clear hwsB hw5
      go_loopw [14, 15, 72] (fun ws e i wr => ∃ k : Nat, k ≤ lD ∧ i = .int .i64 (k : Int) ∧ e = .int .i64 (acc dz k : Int) ∧ ws = .slice (some ⟨wsB, 0, none⟩) k lD ∧ wr.ownsRow wsB 31 2 (.slice (some ⟨wsB, 0, none⟩) k lD) k (wcells es tb k) ∧ Below wsB wp wr) (fun _ _ i _ => lD - (intOf i).toNat)
      case atStart => exact ⟨0, Nat.zero_le _, rfl, rfl, rfl, hom, hbm⟩
      case round =>
        clear hom hbm
        obtain ⟨k, hk, rfl, rfl, rfl, hown, hbr⟩ := hrel
        have hacc := acc_le dz k
        have hbw : Below w.heap.size w wr := N.below.trans (hbr.mono (by omega))
        have hszr : wsB < wr.heap.size := (hown.lt wsB rfl).2
        by_cases hkl : k < lD
        · have hkl' : (k : Int) < (lD : Int) := by omega
          have hk0 : (0 : Int) ≤ (k : Int) := Int.natCast_nonneg _
          obtain ⟨b, off, hax, hx⟩ := HRD.out k hkl
          have hx' : wr.cell? ⟨b, off + k, none⟩ = some (.int .u8 (dz k : Int)) := (hbw.cell (p := ⟨b, off + k, none⟩) (World.block_lt_of_cell? w _ hx)).trans hx
          have hd255 := hDb k hkl
          have hesk : Hid (es k = acc dz k + (1 + dz k % 2)) := by rw [HES.out]; rfl
          have hacck : Hid (acc dz (k + 1) = acc dz k + (1 + dz k % 2)) := rfl
          clear hx
          generalize dz k = dN at hx' hd255 hesk hacck
          subst hax
          obtain ⟨cs, hcs, hcz, hcj⟩ := N.arr
          have hcs' : wr.heap[w.heap.size]? = some (.cells cs 25) := (hbr.block _ hwlt).trans hcs
          have hk4 := HK4.out k
          have hpc := (cell_of_heap hcs' (hcj (kz k) hk4)).1
          clear hcs hcs' hcj
          by_cases hkt : k < lT
          · have hkt' : (k : Int) < (lT : Int) := by omega
            obtain ⟨b2, off2, hax2, hx2⟩ := HRT.out k hkt
            have hx2' : wr.cell? ⟨b2, off2 + k, none⟩ = some (.int .u8 (tz k : Int)) := (hbw.cell (p := ⟨b2, off2 + k, none⟩) (World.block_lt_of_cell? w _ hx2)).trans hx2
            have ht255 := hTb k hkt
            have hkzk : kz k = tz k % 4 := by rw [HKZ.out]; show (if k < lT then _ else _) = _; rw [if_pos hkt]
            clear hx2
            rw [hkzk] at hpc
            have HKK : Hid (kz k = tz k % 4) := hkzk
            clear hkzk hk4
            generalize tz k = tN at hx2' ht255 hpc HKK
            subst hax2
            have hnat : ((tN : Int) % 4) = ((tN % 4 : Nat) : Int) := by omega
            have HNAT : Hid (((tN : Int) % 4) = ((tN % 4 : Nat) : Int)) := hnat
            clear hnat
            have ht4 : (tN : Int) % 4 < 4 := by omega
            have ht0 : 0 ≤ (tN : Int) % 4 := by omega
            go_wp2_with (at_builtin; refine wpList_append_fits _ rfl (.tmp 93) (.tmp 100) 29 rfl wsB 31 i31 2 Ybad.underlying29 hi31 hz311 wsB k lD _ rfl (hown.alloc _) ⟨wr.heap.size, 0, none⟩ 1 1 [.int .i64 ((acc dz k : Int) + (1 + (dN : Int) % 2)), .pointer (some ⟨w.heap.size + 1 + tN % 4, 0, none⟩)] rfl rfl (World.news_of_block (cs := #[.int .i64 ((acc dz k : Int) + (1 + (dN : Int) % 2)), .pointer (some ⟨w.heap.size + 1 + tN % 4, 0, none⟩)]) (t := 31) (fr := (0, 0)) (heap_alloc_new wr _)) (by simp [Value.oneCell']) (by omega) ?_; intro w3 hown3 hgrow3)
            have R := row_step (es := es) (tb := tb) hown3 hgrow3 hbr (Nat.le_of_lt hszr) (by rw [hesk.out]; omega) (by rw [HTB.out]; show _ = w.heap.size + 1 + kz k; rw [HKK.out])
            clear hown3 hgrow3
            go_wp2
            go_roundw
            case rel => exact ⟨k + 1, by omega, by go_num, by rw [hacck.out]; go_num, by go_num, R.1, R.2⟩
            case measure => simp [intOf]; omega
          · have hkt' : ¬ (k : Int) < (lT : Int) := by omega
            have hkzk : kz k = 0 := by rw [HKZ.out]; show (if k < lT then _ else _) = _; rw [if_neg hkt]
            rw [hkzk] at hpc
            have HKK : Hid (kz k = 0) := hkzk
            clear hkzk hk4
            go_wp2_with (at_builtin; refine wpList_append_fits _ rfl (.tmp 93) (.tmp 100) 29 rfl wsB 31 i31 2 Ybad.underlying29 hi31 hz311 wsB k lD _ rfl (hown.alloc _) ⟨wr.heap.size, 0, none⟩ 1 1 [.int .i64 ((acc dz k : Int) + (1 + (dN : Int) % 2)), .pointer (some ⟨w.heap.size + 1 + 0, 0, none⟩)] rfl rfl (World.news_of_block (cs := #[.int .i64 ((acc dz k : Int) + (1 + (dN : Int) % 2)), .pointer (some ⟨w.heap.size + 1 + 0, 0, none⟩)]) (t := 31) (fr := (0, 0)) (heap_alloc_new wr _)) (by simp [Value.oneCell']) (by omega) ?_; intro w3 hown3 hgrow3)
            have R := row_step (es := es) (tb := tb) hown3 hgrow3 hbr (Nat.le_of_lt hszr) (by rw [hesk.out]; omega) (by rw [HTB.out]; show _ = w.heap.size + 1 + kz k; rw [HKK.out])
            clear hown3 hgrow3
            go_wp2
            go_roundw
            case rel => exact ⟨k + 1, by omega, by go_num, by rw [hacck.out]; go_num, by go_num, R.1, R.2⟩
            case measure => simp [intOf]; omega
        · have hkl' : ¬ (k : Int) < (lD : Int) := by omega
          obtain rfl : k = lD := by omega
          go_wp2_with fail
          have hbi : Below wr.heap.size wr ((wr.alloc (.cells #[.int .u8 34, .int .u8 107, .int .u8 34] 5 (3, 4))).alloc (.cells #[.slice (some ⟨wr.heap.size, 0, none⟩) 3 3, .slice (some ⟨wsB, 0, none⟩) k k] 34)) := ((Below.refl _ wr).alloc (Nat.le_refl _) _).alloc (by simp) _
          have hiti : ((wr.alloc (.cells #[.int .u8 34, .int .u8 107, .int .u8 34] 5 (3, 4))).alloc (.cells #[.slice (some ⟨wr.heap.size, 0, none⟩) 3 3, .slice (some ⟨wsB, 0, none⟩) k k] 34)).heap[wr.heap.size + 1]? = some (.cells #[.slice (some ⟨wr.heap.size, 0, none⟩) 3 3, .slice (some ⟨wsB, 0, none⟩) k k] 34) := by
            have := heap_alloc_new (wr.alloc (.cells #[.int .u8 34, .int .u8 107, .int .u8 34] 5 (3, 4))) (.cells #[.slice (some ⟨wr.heap.size, 0, none⟩) 3 3, .slice (some ⟨wsB, 0, none⟩) k k] 34)
            simpa using this
          have hsi : ((wr.alloc (.cells #[.int .u8 34, .int .u8 107, .int .u8 34] 5 (3, 4))).alloc (.cells #[.slice (some ⟨wr.heap.size, 0, none⟩) 3 3, .slice (some ⟨wsB, 0, none⟩) k k] 34)).heap.size = wr.heap.size + 1 + 1 := by simp
          generalize ((wr.alloc (.cells #[.int .u8 34, .int .u8 107, .int .u8 34] 5 (3, 4))).alloc (.cells #[.slice (some ⟨wr.heap.size, 0, none⟩) 3 3, .slice (some ⟨wsB, 0, none⟩) k k] 34)) = Wi at hbi hiti hsi ⊢
          have hob := owns_bytesWorld Wi s (by omega) w.heap.size (by omega)
          have hbb : Below Wi.heap.size Wi (Lib.bytesWorld Wi 5 s) := ⟨rfl, rfl, rfl, by rw [Lib.bytesWorld_size]; omega, fun q hq => Lib.bytesWorld_at_old Wi 5 s q hq⟩
          rw [hsi] at hob
          generalize Lib.bytesWorld Wi 5 s = Wb at hob hbb ⊢
          generalize grownCap Wi s.size 0 5 = gc at hob ⊢
          have hbX := hbb.alloc (hbb.size) (.cells #[.pointer none, .nilIface, .slice (some ⟨wr.heap.size + 1 + 1, 0, none⟩) s.size gc, .int .i64 0, .int .i64 0, .int .i64 0, .map none, .map none, .slice none 0 0, .slice none 0 0] 44)
          have hOX : ObjIs w.heap.size Wb.heap.size (.slice (some ⟨wr.heap.size + 1 + 1, 0, none⟩) s.size gc) s.data.toList (Wb.alloc (.cells #[.pointer none, .nilIface, .slice (some ⟨wr.heap.size + 1 + 1, 0, none⟩) s.size gc, .int .i64 0, .int .i64 0, .int .i64 0, .map none, .map none, .slice none 0 0, .slice none 0 0] 44)) := ⟨⟨_, heap_alloc_new Wb _, rfl⟩, hob.alloc _⟩
          generalize (Wb.alloc (.cells #[.pointer none, .nilIface, .slice (some ⟨wr.heap.size + 1 + 1, 0, none⟩) s.size gc, .int .i64 0, .int .i64 0, .int .i64 0, .map none, .map none, .slice none 0 0, .slice none 0 0] 44)) = X at hbX hOX ⊢
          have hbiX : Below wr.heap.size wr X := hbi.trans (hbX.mono (by omega))
          have hitX := (cell_of_heap ((hbX.block (wr.heap.size + 1) (by omega)).trans hiti) (o := 1) rfl).1
          obtain ⟨cur, hcur, hcells⟩ := writes_of_row hown
          have hWX : WritesAre wsB k es tb X := ⟨cur, (hbiX.block wsB hszr).trans hcur, hcells⟩
          have hTX : TxnsAre k tb ab X := fun j hj => by
            obtain ⟨c, hc1, hc2⟩ := N.txn (kz j) (HK4.out j)
            refine ⟨c, ?_, by rw [HAB.out]; exact hc2⟩
            rw [HTB.out]
            show X.heap[w.heap.size + 1 + kz j]? = _
            have := HK4.out j
            have := HW5.out
            rw [hbiX.block _ (by omega), hbr.block _ (by omega)]
            exact hc1
          have hbwX : Below w.heap.size w X := hbw.trans (hbiX.mono (by omega))
          have hsb := hbb.size
          refine (returned_any w.heap.size Wb.heap.size (wr.heap.size + 1) wsB k k es tb ab a _ s.data.toList X (by omega) (Nat.le_refl _) hOX (by omega) hitX hWX hTX ((Lib.tabBelow_of_tabIs htab).on hbwX) (by show s.size ≤ 2000; omega) HE.out HM.out).mono ?_
          rintro e w3 ⟨rfl, bb, v3, hbbn, hlo, hhi, hO3, hk3, hb3⟩
          have HLO : Hid (∀ i, i < bb → (es i : Int) < a) := hlo
          have HHI : Hid (bb < k → a ≤ (es bb : Int)) := hhi
          clear hlo hhi
          obtain ⟨w2r, rfl⟩ : ∃ w2r : World, w2r = wr := ⟨_, rfl⟩
          have hW3 := hWX.kept hOX hk3
          have hT3 := hTX.kept hOX hk3
          have hit3 : w3.cell? ⟨w2r.heap.size + 1, 1, none⟩ = some (.slice (some ⟨wsB, 0, none⟩) k k) := by
            obtain ⟨⟨cx, hx, _⟩, _⟩ := hOX
            exact (cell_of_heap (kept_tag hx hk3 ((hbX.block (w2r.heap.size + 1) (by omega)).trans hiti) (by decide) (by decide)) (o := 1) rfl).1
          have hb3w : Below w.heap.size w w3 := hbwX.trans hb3
          have hitlt := World.block_lt_of_cell? w3 _ hit3
          have hob3 := owns_bytesWorld w3 s (by omega) w3.heap.size (Nat.le_refl _)
          have hbb3 : Below w3.heap.size w3 (Lib.bytesWorld w3 5 s) := ⟨rfl, rfl, rfl, by rw [Lib.bytesWorld_size]; omega, fun q hq => Lib.bytesWorld_at_old w3 5 s q hq⟩
          have HSB : Hid ((Lib.bytesWorld w3 5 s).heap.size = w3.heap.size + 1) := Lib.bytesWorld_size w3 5 s
          have hxlt := hO3.lt
          have hx3 := hO3.load.1
          obtain ⟨gx, capx, hv3⟩ := hO3.2.form
          rw [hv3] at hx3
          have hOx := hO3.2
          rw [hv3] at hOx
          clear hOX hWX hTX hbX hbiX hitX hiti hsi hbi hob hbb hk3 hb3 hcells hcur hown hbr
          obtain ⟨T, hT⟩ : ∃ T, T = w3.heap.size := ⟨_, rfl⟩
          obtain ⟨B0, hB0⟩ : ∃ B0 : List UInt8, B0 = s.data.toList := ⟨_, rfl⟩
          have HT : Hid (T = w3.heap.size) := hT
          have hitT : w2r.heap.size + 1 < T := by rw [hT]; exact hitlt
          have hxT : Wb.heap.size < T := by rw [hT]; exact hxlt
          rw [← hB0] at hOx hx3 hob3
          have hsB0 : B0.length = s.size := by rw [hB0]; rfl
          have HB0 : Hid (B0.length = s.size) := hsB0
          have hB0l : B0.length ≤ 1024 := by omega
          clear hT hsB0 hB0
          go_wp2_with (at_builtin; refine wpList_append_b _ rfl (.tmp 119) (.tmp 120) 22 rfl i5 Ybad.underlying22 hi5 hz50 hz51 hz52 w3.heap.size _ s.size _ rfl (hob3.alloc _) ⟨(Lib.bytesWorld w3 5 s).heap.size, 0, none⟩ 1 1 [.int .u8 91] rfl rfl (cell_one_new _ _ _) (ints_oneCell .u8 [91]) (by omega) (by omega) (by have := HSB.out; simp; omega) ?_; intro g4 cap4 w4 hown4 hgrow4 hat4)
          have hb4 : Below T w3 w4 := by
            rw [HT.out]
            exact (hbb3.alloc (by have := HSB.out; omega) _).grown hgrow4 (by have := HSB.out; simp; omega) (fun q hq => by cases hq; exact Nat.le_refl _)
          have ho4 := owns_snoc 91 (cv := 91) rfl (by rw [HB0.out]) hown4
          rw [← HT.out] at ho4
          have e4 : (B0 ++ [91]).length = s.size + 1 := by simp; exact HB0.out
          clear hown4 hgrow4 hat4 hob3 hbb3
          go_loopw [21, 22, 124] (fun wt fs i wx => ∃ j : Nat, j ≤ k ∧ i = .int .i64 (j : Int) ∧ fs = .bool (emit a es ab j).2 ∧ OwnsB wx T wt (B0 ++ [91] ++ (emit a es ab j).1).length (Lib.byteCells (B0 ++ [91] ++ (emit a es ab j).1)) ∧ Below T w3 wx ∧ ∀ i, i < j → (es i : Int) < a) (fun _ _ i _ => k - (intOf i).toNat)
          case atStart => exact ⟨0, Nat.zero_le _, rfl, rfl, by simpa [emit] using ho4, hb4, fun i hi => by omega⟩
          case round =>
            clear ho4 hb4 e4
            obtain ⟨j, hj, rfl, rfl, hwt, hbx, hsm⟩ := hrel
            have HSM : Hid (∀ i, i < j → (es i : Int) < a) := hsm
            clear hsm
            have hle := emit_le a es ab k HE.out j hj
            obtain ⟨Bj, hBj⟩ : ∃ Bj, Bj = B0 ++ [91] ++ (emit a es ab j).1 := ⟨_, rfl⟩
            rw [← hBj] at hwt
            have hBl : Bj.length ≤ 1025 + 21 * j := by rw [hBj]; simp; omega
            have HBJ : Hid (Bj = B0 ++ [91] ++ (emit a es ab j).1) := hBj
            clear hBj hle
            have hsx := hbx.size
            have hTw : T ≤ wr.heap.size := by rw [HT.out]; exact hsx
            by_cases hjk : j < k
            · have hjk' : (j : Int) < (k : Int) := by omega
              have hj0 : (0 : Int) ≤ (j : Int) := Int.natCast_nonneg _
              obtain ⟨cur, hcur, hcells⟩ := hW3.later hbx HT.out
              obtain ⟨cT, hT1, hT2⟩ := hT3.later hbx HT.out j hjk
              obtain ⟨c1, c2⟩ := hcells j hjk
              have x1 := (cell_of_heap hcur c1).1
              have x2 := (cell_of_heap hcur c2).1
              have y2 := fun o => (cell_of_heap ((Below.heap_alloc wr o (tb j) (Array.getElem?_eq_some_iff.1 hT1).1).trans hT1) hT2).1
              clear hcur hcells hT1 hT2 c1 c2
              by_cases hst : a ≤ (es j : Int)
              · have hwt1 := hwt.alloc (.cells #[.int .i64 (es j : Int), .pointer (some ⟨tb j, 0, none⟩)] 31)
                go_wp2_with (at_builtin; refine wpList_append_b _ rfl (.tmp 154) (.tmp 155) 22 rfl i5 Ybad.underlying22 hi5 hz50 hz51 hz52 T u21 Bj.length _ rfl (hwt1.alloc _) ⟨wr.heap.size + 1, 0, none⟩ 1 1 [.int .u8 93] rfl rfl (cell_one_at (by first | rfl | simp)) (ints_oneCell .u8 [93]) (by omega) (by omega) (by first | omega | (simp; omega)) ?_; intro g5 cap5 w5 hown5 hgrow5 hat5; have hb5 : Below T w3 w5 := below_append ((hbx.alloc (by omega) _).alloc (by first | omega | (simp; omega)) _) (hwt1.alloc _) hgrow5 (by first | omega | (simp; omega)); have hit5 := (hb5.cell (p := ⟨w2r.heap.size + 1, 1, none⟩) hitT).trans hit3)
                have hjb : j = bb := stop_at hbbn HLO.out HHI.out HSM.out hj (.inr hst)
                have hOx5 := owns_later hOx hb5 HT.out
                have hx5 := (hb5.cell (p := ⟨Wb.heap.size, 2, none⟩) hxT).trans hx3
                have ho5 := owns_snoc 93 (cv := 93) rfl rfl hown5
                have eL : B0 ++ [91] ++ (emit a es ab bb).1 ++ [93] = Bj ++ [93] := by rw [HBJ.out, hjb]
                rw [eL] at hOx5 hx5
                have e5 : Bj.length + 1 = (Bj ++ [93]).length := by simp
                rw [e5] at ho5 ⊢
                clear hown5 hgrow5 hat5 hjb eL e5
                generalize Bj ++ [93] = L at hOx5 hx5 ho5 ⊢
                have hcx := owns_string hOx5
                have hcw := owns_string ho5
                clear hOx5 ho5
                generalize (⟨L.toArray⟩ : ByteArray) = S at hcx hcw
                go_quiet (fail)
                go_wp2
                go_ret
                exact ⟨by simp, below_drewN (hb3w.trans (hb5.mono (by have := hb3w.size; omega))) _⟩
              · have hst' : (es j : Int) < a := by omega
                have hwt1 := hwt.alloc (.cells #[.int .i64 (es j : Int), .pointer (some ⟨tb j, 0, none⟩)] 31)
                have hbx1 := hbx.alloc hTw (.cells #[.int .i64 (es j : Int), .pointer (some ⟨tb j, 0, none⟩)] 31)
                have hsm1 : Hid (∀ i, i < j + 1 → (es i : Int) < a) := fun i hi => by
                  by_cases e : i = j
                  · rw [e]; exact hst'
                  · exact HSM.out i (by omega)
                have hesj := HE.out j hjk
                have hes1 := HE1.out j
                cases hz : (ab j == 0) with
                | false =>
                  have hz2 : (ab j != 0) = true := by simpa using hz
                  by_cases hla : ab j ≤ a
                  · have hkp : Hid (keepB (ab j) a = false) := by
                      show keepB (ab j) a = false
                      unfold keepB
                      rw [hz]
                      simp
                      omega
                    go_wp2
                    go_roundw
                    case rel => exact ⟨j + 1, by omega, by go_num, by rw [emit_drop hkp.out], by rw [emit_drop hkp.out, ← HBJ.out]; exact hwt1, hbx1, hsm1.out⟩
                    case measure => simp [intOf]; omega
                  · have hkp : Hid (keepB (ab j) a = true) := by
                      show keepB (ab j) a = true
                      unfold keepB
                      rw [hz]
                      simp
                      omega
                    cases hfs : (emit a es ab j).2 with
                    | true =>
                      go_wp2_with fail
                      refine (itoa_any T Bj.length u21 _ (es j) _ hes1 hesj hwt1 (by simp; omega) (by omega)).mono ?_
                      rintro e w6 ⟨g6, cap6, rfl, hown6, hgrow6, hat6⟩
                      have hb6 := below_append hbx1 hwt1 hgrow6 (by simp; omega)
                      have ho6 := owns_app rfl hown6
                      clear hown6 hgrow6 hat6
                      go_wp2
                      go_roundw
                      case rel => exact ⟨j + 1, by omega, by go_num, by rw [emit_first hkp.out hfs], by rw [emit_first hkp.out hfs, ← List.append_assoc, ← HBJ.out]; exact ho6, hb6, hsm1.out⟩
                      case measure => simp [intOf]; omega
                    | false =>
                      go_wp2_with (at_builtin; refine wpList_append_b _ rfl (.tmp 146) (.tmp 147) 22 rfl i5 Ybad.underlying22 hi5 hz50 hz51 hz52 T u21 Bj.length _ rfl (hwt1.alloc _) ⟨wr.heap.size + 1, 0, none⟩ 1 1 [.int .u8 44] rfl rfl (cell_one_at (by first | rfl | simp)) (ints_oneCell .u8 [44]) (by omega) (by omega) (by first | omega | (simp; omega)) ?_; intro g5 cap5 w5 hown5 hgrow5 hat5; have hel5 := far_elem hwt hgrow5)
                      have hb5 : Below T w3 w5 := below_append (hbx1.alloc (by simp; omega) _) (hwt1.alloc _) hgrow5 (by simp; omega)
                      have ho5 := owns_snoc 44 (cv := 44) rfl rfl hown5
                      have e5 : Bj.length + 1 = (Bj ++ [44]).length := by simp
                      rw [e5] at ho5 ⊢
                      have hT5 : T ≤ w5.heap.size := by rw [HT.out]; exact hb5.size
                      clear hown5 hgrow5 hat5 e5
                      obtain ⟨Bk, hBk⟩ : ∃ Bk, Bk = Bj ++ [44] := ⟨_, rfl⟩
                      rw [← hBk] at ho5 ⊢
                      have hBkl : Bk.length ≤ 1026 + 21 * j := by rw [hBk]; simp; omega
                      have HBK : Hid (Bk = Bj ++ [44]) := hBk
                      clear hBk
                      refine (itoa_any T Bk.length _ _ (es j) _ hes1 hesj ho5 hT5 (by omega)).mono ?_
                      rintro e w6 ⟨g6, cap6, rfl, hown6, hgrow6, hat6⟩
                      have hb6 := below_append hb5 ho5 hgrow6 hT5
                      have ho6 := owns_app rfl hown6
                      clear hown6 hgrow6 hat6
                      go_wp2
                      go_roundw
                      case rel => exact ⟨j + 1, by omega, by go_num, by rw [emit_next hkp.out hfs], by rw [emit_next hkp.out hfs, ← List.append_assoc, ← List.append_assoc, ← HBJ.out, ← HBK.out]; exact ho6, hb6, hsm1.out⟩
                      case measure => simp [intOf]; omega
                | true =>
                  have hz2 : (ab j != 0) = false := by simpa using hz
                  have hkp : Hid (keepB (ab j) a = true) := by
                    show keepB (ab j) a = true
                    unfold keepB
                    rw [hz]
                    rfl
                  cases hfs : (emit a es ab j).2 with
                  | true =>
                    go_wp2_with fail
                    refine (itoa_any T Bj.length u21 _ (es j) _ hes1 hesj hwt1 (by simp; omega) (by omega)).mono ?_
                    rintro e w6 ⟨g6, cap6, rfl, hown6, hgrow6, hat6⟩
                    have hb6 := below_append hbx1 hwt1 hgrow6 (by simp; omega)
                    have ho6 := owns_app rfl hown6
                    clear hown6 hgrow6 hat6
                    go_wp2
                    go_roundw
                    case rel => exact ⟨j + 1, by omega, by go_num, by rw [emit_first hkp.out hfs], by rw [emit_first hkp.out hfs, ← List.append_assoc, ← HBJ.out]; exact ho6, hb6, hsm1.out⟩
                    case measure => simp [intOf]; omega
                  | false =>
                    go_wp2_with (at_builtin; refine wpList_append_b _ rfl (.tmp 146) (.tmp 147) 22 rfl i5 Ybad.underlying22 hi5 hz50 hz51 hz52 T u21 Bj.length _ rfl (hwt1.alloc _) ⟨wr.heap.size + 1, 0, none⟩ 1 1 [.int .u8 44] rfl rfl (cell_one_at (by first | rfl | simp)) (ints_oneCell .u8 [44]) (by omega) (by omega) (by first | omega | (simp; omega)) ?_; intro g5 cap5 w5 hown5 hgrow5 hat5; have hel5 := far_elem hwt hgrow5)
                    have hb5 : Below T w3 w5 := below_append (hbx1.alloc (by simp; omega) _) (hwt1.alloc _) hgrow5 (by simp; omega)
                    have ho5 := owns_snoc 44 (cv := 44) rfl rfl hown5
                    have e5 : Bj.length + 1 = (Bj ++ [44]).length := by simp
                    rw [e5] at ho5 ⊢
                    have hT5 : T ≤ w5.heap.size := by rw [HT.out]; exact hb5.size
                    clear hown5 hgrow5 hat5 e5
                    obtain ⟨Bk, hBk⟩ : ∃ Bk, Bk = Bj ++ [44] := ⟨_, rfl⟩
                    rw [← hBk] at ho5 ⊢
                    have hBkl : Bk.length ≤ 1026 + 21 * j := by rw [hBk]; simp; omega
                    have HBK : Hid (Bk = Bj ++ [44]) := hBk
                    clear hBk
                    refine (itoa_any T Bk.length _ _ (es j) _ hes1 hesj ho5 hT5 (by omega)).mono ?_
                    rintro e w6 ⟨g6, cap6, rfl, hown6, hgrow6, hat6⟩
                    have hb6 := below_append hb5 ho5 hgrow6 hT5
                    have ho6 := owns_app rfl hown6
                    clear hown6 hgrow6 hat6
                    go_wp2
                    go_roundw
                    case rel => exact ⟨j + 1, by omega, by go_num, by rw [emit_next hkp.out hfs], by rw [emit_next hkp.out hfs, ← List.append_assoc, ← List.append_assoc, ← HBJ.out, ← HBK.out]; exact ho6, hb6, hsm1.out⟩
                    case measure => simp [intOf]; omega
            · have hjk' : ¬ (j : Int) < (k : Int) := by omega
              go_wp2_with (at_builtin; refine wpList_append_b _ rfl (.tmp 154) (.tmp 155) 22 rfl i5 Ybad.underlying22 hi5 hz50 hz51 hz52 T u21 Bj.length _ rfl (hwt.alloc _) ⟨wr.heap.size, 0, none⟩ 1 1 [.int .u8 93] rfl rfl (cell_one_at (by first | rfl | simp)) (ints_oneCell .u8 [93]) (by omega) (by omega) (by first | omega | (simp; omega)) ?_; intro g5 cap5 w5 hown5 hgrow5 hat5; have hb5 : Below T w3 w5 := below_append ((hbx).alloc (by first | omega | (simp; omega)) _) (hwt.alloc _) hgrow5 (by first | omega | (simp; omega)); have hit5 := (hb5.cell (p := ⟨w2r.heap.size + 1, 1, none⟩) hitT).trans hit3)
              have hjb : j = bb := stop_at hbbn HLO.out HHI.out HSM.out hj (.inl (by omega))
              have hOx5 := owns_later hOx hb5 HT.out
              have hx5 := (hb5.cell (p := ⟨Wb.heap.size, 2, none⟩) hxT).trans hx3
              have ho5 := owns_snoc 93 (cv := 93) rfl rfl hown5
              have eL : B0 ++ [91] ++ (emit a es ab bb).1 ++ [93] = Bj ++ [93] := by rw [HBJ.out, hjb]
              rw [eL] at hOx5 hx5
              have e5 : Bj.length + 1 = (Bj ++ [93]).length := by simp
              rw [e5] at ho5 ⊢
              clear hown5 hgrow5 hat5 hjb eL e5
              generalize Bj ++ [93] = L at hOx5 hx5 ho5 ⊢
              have hcx := owns_string hOx5
              have hcw := owns_string ho5
              clear hOx5 ho5
              generalize (⟨L.toArray⟩ : ByteArray) = S at hcx hcw
              go_quiet (fail)
              go_wp2
              go_ret
              exact ⟨by simp, below_drewN (hb3w.trans (hb5.mono (by have := hb3w.size; omega))) _⟩

end Go.Proofs.YbulkbrcuDoor
