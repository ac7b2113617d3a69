/-
  'Rows.LawS3387AReturnedCardSaid', proved: the row over the law's walk (YbulkbrcuDoorLaw), then the tied card by the builder's one call (the tie is given). The frame after the guide's skeleton tool's and its worked texts MapyProofs, MapyCard.
-/
import Derived.Test.YbulkbrcuDoorRows
import Derived.Test.YbulkbrcuDoorTie
import Derived.Test.YbulkbrcuDoorCards
import Derived.Test.YbulkbrcuDoorLaw
import Derived.WalkKit
import Derived.ProofKit
import Derived.OpenShut
import Derived.ShutString
import Derived.ChangeOld
import Derived.Below
import Derived.LaidMore
import Derived.Stop.Joined
import Derived.SevenTiedAt
import Derived.Lib.LaidTab
namespace Go.Proofs.YbulkbrcuDoor.lawS3387AReturned
open Go.ChangeShapes Go.WideShapes Go.ChangeAt Go.RowKit
open Go.ChangeMaps (open_string shut_string)

theorem own : ownKnob Ybad.prog.godebug = none := by kernel_rfl
theorem laidOut : laidOutB Ybad.prog = true := by kernel_rfl

set_option maxRecDepth 100000 in
theorem long1 (aD aT aA : Option Addr) (lD cD lT cT lA cA : Nat) (a : Int) (s : ByteArray) (w : World)  (hl : (1024 : Int) < (lD : Int)) :
    Calls Ybad.prog 3 #[.slice aD lD cD, .slice aT lT cT, .slice aA lA cA, .int .i64 a, .string s] w fun e w' => e = .returned (.bool true) ∧ Below w.heap.size w w' := by
  go_enter Ybad.func3, Ybad.ntmps3
  go_wp2
  go_ret
  exact ⟨rfl, Below.refl _ _⟩

set_option maxRecDepth 100000 in
theorem long2 (aD aT aA : Option Addr) (lD cD lT cT lA cA : Nat) (a : Int) (s : ByteArray) (w : World) (h1 : (lD : Int) ≤ 1024) (hl : (1024 : Int) < (lT : Int)) :
    Calls Ybad.prog 3 #[.slice aD lD cD, .slice aT lT cT, .slice aA lA cA, .int .i64 a, .string s] w fun e w' => e = .returned (.bool true) ∧ Below w.heap.size w w' := by
  go_enter Ybad.func3, Ybad.ntmps3
  go_wp2
  go_ret
  exact ⟨rfl, Below.refl _ _⟩

set_option maxRecDepth 100000 in
theorem long3 (aD aT aA : Option Addr) (lD cD lT cT lA cA : Nat) (a : Int) (s : ByteArray) (w : World) (h1 : (lD : Int) ≤ 1024) (h2 : (lT : Int) ≤ 1024) (hl : (1024 : Int) < (lA : Int)) :
    Calls Ybad.prog 3 #[.slice aD lD cD, .slice aT lT cT, .slice aA lA cA, .int .i64 a, .string s] w fun e w' => e = .returned (.bool true) ∧ Below w.heap.size w w' := by
  go_enter Ybad.func3, Ybad.ntmps3
  go_wp2
  go_ret
  exact ⟨rfl, Below.refl _ _⟩

set_option maxRecDepth 100000 in
theorem long4 (aD aT aA : Option Addr) (lD cD lT cT lA cA : Nat) (a : Int) (s : ByteArray) (w : World) (h1 : (lD : Int) ≤ 1024) (h2 : (lT : Int) ≤ 1024) (h3 : (lA : Int) ≤ 1024) (hl : (1024 : Int) < (s.size : Int)) :
    Calls Ybad.prog 3 #[.slice aD lD cD, .slice aT lT cT, .slice aA lA cA, .int .i64 a, .string s] w fun e w' => e = .returned (.bool true) ∧ Below w.heap.size w w' := by
  go_enter Ybad.func3, Ybad.ntmps3
  go_wp2
  go_ret
  exact ⟨rfl, Below.refl _ _⟩

theorem walk (aD aT aA : Option Addr) (lD cD lT cT lA cA : Nat) (a : Int) (s : ByteArray) (w : World)
    (dz tz : Nat → Nat) (az : Nat → Int) (hD : Reads w aD lD (fun j => .int .u8 (dz j : Int))) (hDb : ∀ j, j < lD → dz j ≤ 255) (hT : Reads w aT lT (fun j => .int .u8 (tz j : Int))) (hTb : ∀ j, j < lT → tz j ≤ 255) (hA : Reads w aA lA (fun j => .int .i64 (az j)))
    (htab : Lib.TabIs Ybad.prog w tabName .u64 Lib.pow10Tab) :
    Calls Ybad.prog 3 #[.slice aD lD cD, .slice aT lT cT, .slice aA lA cA, .int .i64 a, .string s] w fun e w' => e = .returned (.bool true) ∧ Below w.heap.size w w' := by
  by_cases h1 : (lD : Int) ≤ 1024
  · by_cases h2 : (lT : Int) ≤ 1024
    · by_cases h3 : (lA : Int) ≤ 1024
      · by_cases h4 : (s.size : Int) ≤ 1024
        · exact law_any aD aT aA lD cD lT cT lA cA a s w h1 h2 h3 h4 dz tz az hD hDb hT hTb hA htab
        · exact long4 aD aT aA lD cD lT cT lA cA a s w h1 h2 h3 (by omega)
      · exact long3 aD aT aA lD cD lT cT lA cA a s w h1 h2 (by omega)
    · exact long2 aD aT aA lD cD lT cT lA cA a s w h1 (by omega)
  · exact long1 aD aT aA lD cD lT cT lA cA a s w (by omega)

/-! ### what the walk is told of the arguments -/
theorem reads_of {k : IntKind} {W : World} {x : Addr} {len : Nat} {zs : List Int} (hl : len ≤ zs.length) (hc : ∀ i, i < zs.length → W.cell? (x.add i) = some (.int k (zs.getD i 0))) : Reads W (some x) len (fun j => .int k (zs.getD j 0)) := by
  intro j hj
  obtain ⟨b, off, rfl, h⟩ := ints_at hc (by omega)
  exact ⟨b, off, rfl, h j (by omega)⟩

theorem told_u8 {H : Type} {enc : TypeId × Value → H} {W : World} {a : Option Addr} {len cap : Nat} {d : DataW H} {p : List MemPlace} (h : DataW.Trod enc Ybad.prog W 0 (fun _ => true) true 22 (.slice a len cap) d p) :
    ∃ f : Nat → Nat, Reads W a len (fun j => .int .u8 (f j : Int)) ∧ ∀ j, j < len → f j ≤ 255 := by
  obtain ⟨fuel, hf⟩ := h
  rcases open_ints Ybad.underlying22 Ybad.underlying5 (by kernel_rfl) hf with ⟨hcs, _⟩ | ⟨x, l, c, zs, hcs, _, hl, hm, hz, _, hcell, hwz⟩
  · simp [Value.cells] at hcs
    obtain ⟨rfl, rfl, rfl⟩ := hcs
    exact ⟨fun _ => 0, fun j hj => by omega, fun j hj => by omega⟩
  · simp [Value.cells] at hcs
    obtain ⟨rfl, rfl, rfl⟩ := hcs
    simp only [if_true] at hz
    have hb : ∀ j, j < len → 0 ≤ zs.getD j 0 ∧ zs.getD j 0 ≤ 255 := fun j hj => by
      have hjz : j < zs.length := by omega
      have e : zs.getD j 0 = zs[j] := by simp [List.getD, hjz]
      have := bounds_u8 (hwz zs[j] (List.getElem_mem hjz))
      rw [e]
      omega
    refine ⟨fun j => (zs.getD j 0).toNat, fun j hj => ?_, fun j hj => by have := hb j hj; show (zs.getD j 0).toNat ≤ 255; omega⟩
    obtain ⟨b, off, e, h⟩ := reads_of (len := len) (by omega) hcell j hj
    refine ⟨b, off, e, ?_⟩
    rw [h]
    show some (Value.int .u8 (zs.getD j 0)) = some (Value.int .u8 (((zs.getD j 0).toNat : Nat) : Int))
    rw [Int.toNat_of_nonneg (hb j hj).1]

theorem told_int {H : Type} {enc : TypeId × Value → H} {W : World} {a : Option Addr} {len cap : Nat} {d : DataW H} {p : List MemPlace} (h : DataW.Trod enc Ybad.prog W 0 (fun _ => true) true 23 (.slice a len cap) d p) :
    ∃ f : Nat → Int, Reads W a len (fun j => .int .i64 (f j)) := by
  obtain ⟨fuel, hf⟩ := h
  rcases open_ints Ybad.underlying23 Ybad.underlying3 (by kernel_rfl) hf with ⟨hcs, _⟩ | ⟨x, l, c, zs, hcs, _, hl, hm, hz, _, hcell, hwz⟩
  · simp [Value.cells] at hcs
    obtain ⟨rfl, rfl, rfl⟩ := hcs
    exact ⟨fun _ => 0, fun j hj => by omega⟩
  · simp [Value.cells] at hcs
    obtain ⟨rfl, rfl, rfl⟩ := hcs
    simp only [if_true] at hz
    exact ⟨fun j => zs.getD j 0, reads_of (by omega) hcell⟩

/-! ### the listed tables -/
theorem gTab : Ybad.prog.globalNamed tabName = some 0 := by kernel_rfl
theorem tTab : (Ybad.prog.globals[0]?).map (·.type) = some 66 := by kernel_rfl

theorem of_laid {W : World} (h : laidMetH Ybad.prog Rows.lawS3387AReturnedRow.laid W) : Lib.TabIs Ybad.prog W tabName .u64 Lib.pow10Tab := by
  rw [MakeChecks.laidMetH_plain _ _ _ (by kernel_rfl)] at h
  have h2 := laidMet.filter (fun x => x.1 == tabName) h
  exact Lib.tabIs_of_head (rest := []) gTab tTab Ybad.underlying66 Ybad.underlying57 (by kernel_rfl) (by kernel_rfl) h2

theorem door_met (os : Os) (args : Array Value) : laidMetH Ybad.prog Rows.lawS3387AReturnedRow.laid ((World.doorLaid Ybad.prog 24 os).forCall (fun _ _ => 0) ⟨#[], args, []⟩).memory :=
  laidMetH_of_parts3 (fuel := 8) (laidMet_of_run' 8 (by kernel_rfl) (by kernel_rfl)) (by kernel_rfl) (by kernel_rfl)

set_option maxRecDepth 100000 in
theorem lifted (os : Os) (started : os.Started) (H : Type) (enc : TypeId × Value → H) :
    ReturnsInHanded {} Ybad.checked os 3 .any (fun w args => (Rows.lawS3387AReturnedSpec.pre enc Ybad.prog Ybad.f3 [] false w args ∧ laidMetH Ybad.prog Rows.lawS3387AReturnedRow.laid w) ∧ sizedMet enc Ybad.prog Ybad.f3 (OpenSpec.ofChange Rows.lawS3387AReturnedSpec) false w args)
      (Rows.lawS3387AReturnedSpec.post enc Ybad.prog Ybad.f3 false true false false) := by
  refine returnsInHanded_of_change_and (C := Ybad.checked) (X := fun w _ => laidMetH Ybad.prog Rows.lawS3387AReturnedRow.laid w) (fun _ _ _ hh h => h.of_heap hh) own started (by kernel_rfl) Ybad.func3
    (ChangeSpec.witness_shaped (enc := enc) (C := Ybad.checked) (os := os) (X := fun w _ => laidMetH Ybad.prog Rows.lawS3387AReturnedRow.laid w) false (World.doorLaid Ybad.prog 24 os) #[.slice none 0 0, .slice none 0 0, .slice none 0 0, .int .i64 0, .string ByteArray.empty] 8 rfl (World.shaped_of_RefB (by kernel_rfl) (by kernel_rfl)) (by kernel_rfl) (by kernel_rfl) (by kernel_rfl) (door_met os _)) ?_
  intro W base args ds gs before hval0 hW _ _ hL _
  have hval : ∀ (j : Nat) t v, Ybad.f3.params[j]? = some t → args[j]? = some v → Value.okWide Ybad.prog W .any base t v := hval0
  have hW' := hW
  obtain ⟨p, q, hA0, hV, rfl, hfz, hnd⟩ := hW
  have hA : DataW.TrodAll enc Ybad.prog W 0 (fun _ => true) true Ybad.f3.params.toList args.toList ds p := hA0
  rw [Ybad.params3] at hA hval
  obtain ⟨v0, vs0, d0, ds0, p0, q0, hargs, rfl, rfl, h0, r0⟩ := trodAll_cons hA
  obtain ⟨v1, vs1, d1, ds1, p1, q1, rfl, rfl, rfl, h1, r1⟩ := trodAll_cons r0
  obtain ⟨v2, vs2, d2, ds2, p2, q2, rfl, rfl, rfl, h2, r2⟩ := trodAll_cons r1
  obtain ⟨v3, vs3, d3, ds3, p3, q3, rfl, rfl, rfl, h3, r3⟩ := trodAll_cons r2
  obtain ⟨v4, vs4, d4, ds4, p4, q4, rfl, rfl, rfl, h4, r4⟩ := trodAll_cons r3
  obtain ⟨rfl, rfl, rfl⟩ := trodAll_nil r4
  obtain rfl : args = #[v0, v1, v2, v3, v4] := by cases args; simp_all
  obtain ⟨rfl, rfl⟩ := trodVars_none hV
  obtain ⟨a0, len0, cap0, rfl⟩ := okWide_slice Ybad.underlying22 (hval 0 22 v0 rfl rfl)
  obtain ⟨a1, len1, cap1, rfl⟩ := okWide_slice Ybad.underlying22 (hval 1 22 v1 rfl rfl)
  obtain ⟨a2, len2, cap2, rfl⟩ := okWide_slice Ybad.underlying23 (hval 2 23 v2 rfl rfl)
  obtain ⟨a3, rfl, rfl, rfl, w3⟩ := open_int Ybad.underlying3 (hval 3 3 v3 rfl rfl) h3
  obtain ⟨s, rfl, rfl, rfl, hs⟩ := open_string Ybad.underlying9 (hval 4 9 v4 rfl rfl) h4
  have k0 := h0
  have k1 := h1
  have k2 := h2
  have lt0 : ∀ x ∈ p0, x.block < W.heap.size := by obtain ⟨m, hm⟩ := k0; exact DataW.trod_lt m _ _ _ hm
  have lt1 : ∀ x ∈ p1, x.block < W.heap.size := by obtain ⟨m, hm⟩ := k1; exact DataW.trod_lt m _ _ _ hm
  have lt2 : ∀ x ∈ p2, x.block < W.heap.size := by obtain ⟨m, hm⟩ := k2; exact DataW.trod_lt m _ _ _ hm
  obtain ⟨dz, hD, hDb⟩ := told_u8 h0
  obtain ⟨tz, hT, hTb⟩ := told_u8 h1
  obtain ⟨az, hZ⟩ := told_int h2
  have htab := of_laid hL
  clear hA0 hval0
  refine (walk a0 a1 a2 len0 cap0 len1 cap1 len2 cap2 a3 s W dz tz az hD hDb hT hTb hZ htab).mono fun e W' ⟨he, bel⟩ => ?_
  subst he
  exact ⟨_, rfl, _, _, _, [], _, [], hW', trodAll_mk1 (shut_bool Ybad.underlying4 _), (trodAll_cons_mk (Below.trod laidOut (by kernel_rfl) (of_decide_eq_true (by kernel_rfl)) k0 bel lt0) (trodAll_cons_mk (Below.trod laidOut (by kernel_rfl) (of_decide_eq_true (by kernel_rfl)) k1 bel lt1) (trodAll_cons_mk (Below.trod laidOut (by kernel_rfl) (of_decide_eq_true (by kernel_rfl)) k2 bel lt2) (trodAll_cons_mk (shut_int Ybad.underlying3 w3) (trodAll_cons_mk (shut_string Ybad.underlying9 hs) trodAll_mk0))))), rfl, bel.frame _, fun h => by cases h⟩

theorem over : Rows.LawS3387AReturnedSaid :=
  OpenClaim.holds_of_wide 3 Ybad.f3 rfl rfl rfl rfl rfl rfl rfl ⟨rfl, rfl, rfl, rfl, rfl⟩ rfl rfl rfl rfl rfl (by kernel_rfl) Ybad.func3 (by kernel_rfl)
    (of_decide_eq_true (by kernel_rfl)) (by unfold Func.isWrapper; first | (rw [if_pos (by decide +kernel)]; kernel_rfl) | (rw [if_neg (by decide +kernel)]; exact ⟨rfl, rfl⟩))
    (fun os started H enc _ => lifted os started H enc)

/-- THE STATEMENT: the tied card. -/
theorem proved : Rows.LawS3387AReturnedCardSaid :=
  Claim7.holds_tied_plain_at .later [] [.data, .data, .data] true Rows.lawS3387AReturnedCard.stood.harness false
    over (fun _ h => by cases h) (by kernel_rfl) (fun _ h => by cases h) lawS3387AReturned_row_tie rfl ⟨rfl, rfl⟩ (by kernel_rfl) rfl
    (fun f fn hf hfn => by
      obtain rfl : f = 3 := Option.some.inj ((show Ybad.prog.funcNamed Rows.lawS3387AReturnedRow.func = some 3 by kernel_rfl).symm.trans hf) |>.symm
      obtain rfl : fn = Ybad.f3 := (Option.some.inj (Ybad.func3.symm.trans hfn)).symm
      exact ⟨by kernel_rfl, fun j t ht => by
        rw [Ybad.params3] at ht
        have hm : t ∈ [22, 22, 23, 3, 9] := by simpa using Array.mem_of_getElem? ht
        have hall : ([22, 22, 23, 3, 9].all fun u => !Ybad.prog.wantsStandIn u) = true := by kernel_rfl
        exact (show Ybad.prog.wantsStandIn t = false by simpa using List.all_eq_true.1 hall t hm)⟩)
    (by kernel_rfl)
#print axioms proved
end Go.Proofs.YbulkbrcuDoor.lawS3387AReturned
