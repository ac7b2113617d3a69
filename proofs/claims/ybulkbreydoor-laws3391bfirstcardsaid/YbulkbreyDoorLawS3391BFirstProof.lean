/-
  'Rows.LawS3391BFirstCardSaid', proved: the row over the law's walk (YbulkbreyDoorFirst), then the tied card by the builder's one call (the tie is given). The frame after the guide's skeleton tool's and its worked texts MapyProofs, MapyCard.
-/
import Derived.Test.YbulkbreyDoorRows
import Derived.Test.YbulkbreyDoorTie
import Derived.Test.YbulkbreyDoorCards
import Derived.Test.YbulkbreyDoorFirst
import Derived.WalkKit
import Derived.ProofKit
import Derived.OpenShut
import Derived.OpenVars
import Derived.ShutString
import Derived.ChangeOld
import Derived.Below
import Derived.LaidMore
import Derived.Stop.Joined
import Derived.SevenTiedAt
namespace Go.Proofs.YbulkbreyDoor.lawS3391BFirst
open Go.ChangeShapes Go.WideShapes Go.ChangeAt Go.RowKit
open Go.ChangeMaps (open_string shut_string)

theorem own : ownKnob Ybad.prog.godebug = none := by kernel_rfl
theorem laidOut : laidOutB Ybad.prog = true := by kernel_rfl
theorem cells4 : Ybad.prog.cellsOf 4 = 1 := by kernel_rfl

theorem walk (s : ByteArray) (B : Nat → Bool) (w : World) (hB : Tab w B) : Calls Ybad.prog 3 #[.string s] w fun e w' => e = .returned (.bool true) ∧ w' = w := by
  by_cases hl : (s.size : Int) ≤ 4096
  · have hI := indexBlank_any s B w hB hl
    by_cases hno : ∀ i, i < s.size → bl s B i = false
    · refine first_none s B w hB hl (hI.mono ?_) hno
      rintro e w' ⟨r, rfl, rfl, ⟨rfl, _⟩ | ⟨k, hk, _, hy, _⟩⟩
      · exact ⟨rfl, rfl⟩
      · rw [hno k hk] at hy
        cases hy
    · obtain ⟨k, hk, hy, hbe⟩ : ∃ k, k < s.size ∧ bl s B k = true ∧ ∀ i, i < k → bl s B i = false := by
        have hex : ∃ k, k < s.size ∧ bl s B k = true := by
          refine Classical.byContradiction fun hn => hno fun i hi => ?_
          cases h : bl s B i with
          | false => rfl
          | true => exact (hn ⟨i, hi, h⟩).elim
        obtain ⟨n, hn⟩ := hex
        induction n using Nat.strongRecOn with
        | ind n ih =>
          by_cases he : ∃ m, m < n ∧ bl s B m = true
          · obtain ⟨m, hm, hb⟩ := he
            exact ih m hm ⟨by omega, hb⟩
          · refine ⟨n, hn.1, hn.2, fun i hi => ?_⟩
            cases h : bl s B i with
            | false => rfl
            | true => exact (he ⟨i, hi, h⟩).elim
      refine first_some s B w hB hl k hk (hI.mono ?_) hy hbe
      rintro e w' ⟨r, rfl, rfl, ⟨rfl, hn⟩ | ⟨j, hj, rfl, hjy, hjn⟩⟩
      · rw [hn k hk] at hy
        cases hy
      · have : j = k := by
          rcases Nat.lt_trichotomy j k with h | h | h
          · rw [hbe j h] at hjy
            cases hjy
          · exact h
          · rw [hjn k h] at hy
            cases hy
        subst this
        exact ⟨rfl, rfl⟩
  · exact first_long s w (by omega)

/-! ### the listed table: its 256 cells are bools -/
theorem gTab : Ybad.prog.globalNamed (Rows.lawS3391BFirstRow.named.headD "") = some 0 := by kernel_rfl
theorem tTab : (Ybad.prog.globals[0]?).map (·.type) = some 23 := by kernel_rfl

theorem tab_of {H : Type} {enc : TypeId × Value → H} {W : World} {gs : List (DataW H)} {ps : List MemPlace} {sp : Nat → Bool} (h : DataW.TrodVars enc Ybad.prog W sp Rows.lawS3391BFirstSpec.vars gs ps) : ∃ B d, gs = [d] ∧ Tab W B := by
  obtain ⟨g, t, cs, fuel, d, p, rfl, h1, h2, h3, h4, _⟩ := trodVars_one (n := Rows.lawS3391BFirstRow.named.headD "") h
  obtain rfl : 0 = g := Option.some.inj (gTab.symm.trans h1)
  obtain rfl : 23 = t := Option.some.inj (tTab.symm.trans h2)
  obtain ⟨xs, m, _, _, hl, hx, he⟩ := DataW.trod_array Ybad.underlying23 h4
  have each : ∀ i, i < 256 → ∃ b, W.cell? ⟨0, i, none⟩ = some (.bool b) := by
    intro i hi
    have hi2 := he i hi
    rw [cells4, Nat.mul_one] at hi2
    have hxi : i < xs.length := by omega
    rw [List.getElem?_eq_getElem hxi] at hi2
    obtain ⟨b, hb, _⟩ := DataW.trod_bool Ybad.underlying4 hi2
    refine ⟨b, ?_⟩
    have hci : cs.toList[i]? = some (.bool b) := by
      have := congrArg (·[0]?) hb
      simpa using this
    unfold World.var? at h3
    rw [gTab] at h3
    simp only [Option.bind_some] at h3
    cases hh : W.heap[0]? with
    | none => rw [hh] at h3; cases h3
    | some o =>
      rw [hh] at h3
      cases o with
      | cells c t f =>
        obtain rfl : c = cs := Option.some.inj h3
        simp only [World.cell?, hh]
        simpa using hci
      | _ => cases h3
  exact ⟨fun i => if h : i < 256 then (each i h).choose else false, d, rfl, fun i hi => by simp only [hi, dif_pos]; exact (each i hi).choose_spec⟩

theorem door_met (os : Os) (args : Array Value) : laidMetH Ybad.prog Rows.lawS3391BFirstRow.laid ((World.doorLaid Ybad.prog 169 os).forCall (fun _ _ => 0) ⟨#[], args, []⟩).memory :=
  laidMetH_of_parts3 (fuel := 8) (laidMet_of_run' 8 (by kernel_rfl) (by kernel_rfl)) (by kernel_rfl) (by kernel_rfl)

set_option maxRecDepth 100000 in
theorem lifted (os : Os) (started : os.Started) (H : Type) (enc : TypeId × Value → H) :
    ReturnsInHanded {} Ybad.checked os 3 .any (fun w args => (Rows.lawS3391BFirstSpec.pre enc Ybad.prog Ybad.f3 [] false w args ∧ laidMetH Ybad.prog Rows.lawS3391BFirstRow.laid w) ∧ sizedMet enc Ybad.prog Ybad.f3 (OpenSpec.ofChange Rows.lawS3391BFirstSpec) false w args)
      (Rows.lawS3391BFirstSpec.post enc Ybad.prog Ybad.f3 false true false false) := by
  refine returnsInHanded_of_change_and (C := Ybad.checked) (X := fun w _ => laidMetH Ybad.prog Rows.lawS3391BFirstRow.laid w) (fun _ _ _ hh h => h.of_heap hh) own started (by kernel_rfl) Ybad.func3
    (ChangeSpec.witness_shaped (enc := enc) (C := Ybad.checked) (os := os) (X := fun w _ => laidMetH Ybad.prog Rows.lawS3391BFirstRow.laid w) false (World.doorLaid Ybad.prog 169 os) #[.string ByteArray.empty] 8 rfl (World.shaped_of_RefB (by kernel_rfl) (by kernel_rfl)) (by kernel_rfl) (by kernel_rfl) (by kernel_rfl) (door_met os _)) ?_
  intro W base args ds gs before hval0 hW _ _ hL _
  have hval : ∀ (j : Nat) t v, Ybad.f3.params[j]? = some t → args[j]? = some v → Value.okWide Ybad.prog W .any base t v := hval0
  have hW' := hW
  obtain ⟨p, q, hA0, hV, rfl, hfz, hnd⟩ := hW
  have hA : DataW.TrodAll enc Ybad.prog W 0 (fun _ => true) true Ybad.f3.params.toList args.toList ds p := hA0
  rw [Ybad.params3] at hA hval
  obtain ⟨v0, vs0, d0, ds0, p0, q0, hargs, rfl, rfl, h0, r0⟩ := trodAll_cons hA
  obtain ⟨rfl, rfl, rfl⟩ := trodAll_nil r0
  obtain rfl : args = #[v0] := by cases args; simp_all
  obtain ⟨B, g1, rfl, hB⟩ := tab_of hV
  obtain ⟨s, rfl, rfl, rfl, hs⟩ := open_string Ybad.underlying9 (hval 0 9 v0 rfl rfl) h0
  clear hA0 hval0
  refine (walk s B W hB).mono fun e W' ⟨he, hw⟩ => ?_
  subst he
  obtain rfl : W = W' := hw.symm
  exact ⟨_, rfl, _, _, _, [], _, _, hW', trodAll_mk1 (shut_bool Ybad.underlying4 _), (trodAll_cons_mk (shut_string Ybad.underlying9 hs) trodAll_mk0), Below.trodVars laidOut (Below.refl _ _) (by kernel_rfl) hV, (Below.refl _ _).frame _, fun h => by cases h⟩

theorem over : Rows.LawS3391BFirstSaid :=
  OpenClaim.holds_of_wide 3 Ybad.f3 rfl rfl rfl rfl rfl rfl rfl ⟨rfl, rfl, rfl, rfl, rfl⟩ rfl rfl rfl rfl rfl (by kernel_rfl) Ybad.func3 (by kernel_rfl)
    (of_decide_eq_true (by kernel_rfl)) (by unfold Func.isWrapper; first | (rw [if_pos (by decide +kernel)]; kernel_rfl) | (rw [if_neg (by decide +kernel)]; exact ⟨rfl, rfl⟩))
    (fun os started H enc _ => lifted os started H enc)

/-- THE STATEMENT: the tied card. -/
theorem proved : Rows.LawS3391BFirstCardSaid :=
  Claim7.holds_tied_plain_at .later [] [.called] true Rows.lawS3391BFirstCard.stood.harness false
    over (fun _ h => by cases h) (by kernel_rfl) (fun _ h => by cases h) lawS3391BFirst_row_tie rfl ⟨rfl, rfl⟩ (by kernel_rfl) rfl
    (fun f fn hf hfn => by
      obtain rfl : f = 3 := Option.some.inj ((show Ybad.prog.funcNamed Rows.lawS3391BFirstRow.func = some 3 by kernel_rfl).symm.trans hf) |>.symm
      obtain rfl : fn = Ybad.f3 := (Option.some.inj (Ybad.func3.symm.trans hfn)).symm
      exact ⟨by kernel_rfl, fun j t ht => by
        rw [Ybad.params3] at ht
        have hm : t ∈ [9] := by simpa using Array.mem_of_getElem? ht
        have hall : ([9].all fun u => !Ybad.prog.wantsStandIn u) = true := by kernel_rfl
        exact (show Ybad.prog.wantsStandIn t = false by simpa using List.all_eq_true.1 hall t hm)⟩)
    (by kernel_rfl)
#print axioms proved
end Go.Proofs.YbulkbreyDoor.lawS3391BFirst
