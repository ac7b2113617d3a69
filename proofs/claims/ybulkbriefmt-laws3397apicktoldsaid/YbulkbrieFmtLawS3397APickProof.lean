/-
  'Rows.LawS3397APickToldSaid', proved: the row's 'ReturnsInTold' over the law's walks (YbulkbrieFmtPick), then the told and tied card by the builder's one call (the tie is given). The frame after the guide's worked texts TagTold, PortTold, PortSeven.
-/
import Derived.Test.YbulkbrieFmtRows
import Derived.Test.YbulkbrieFmtTie
import Derived.Test.YbulkbrieFmtCards
import Derived.Test.YbulkbrieFmtPick
import Derived.Deep.SlicePairs
import Derived.Deep.DeepWitnessRef
import Derived.ProofKit
import Derived.OpenShut
import Derived.ShutString
import Derived.ChangeOld
import Derived.LaidMore
import Derived.Stop.Joined
import Derived.Stop.JoinedTold
import Derived.SevenTiedAt
namespace Go.Proofs.YbulkbrieFmt.lawS3397APick
open Go.ChangeShapes Go.WideShapes Go.ChangeAt Go.RowKit Go.Deep
open Go.ChangeMaps (open_string shut_string)
open Go.Extern.Stop Go.Stop Go.Extern

theorem own : ownKnob Ybaf.prog.godebug = none := by kernel_rfl
theorem laidOut : laidOutB Ybaf.prog = true := by kernel_rfl
theorem cells9 : Ybaf.prog.cellsOf 9 = 1 := by kernel_rfl

theorem first_exists (len : Nat) (T : Nat → ByteArray) (s : ByteArray) (j : Nat) (hj : j < len) (hs : T j = s) : ∃ k : Nat, First len T s (k : Int) := by
  induction j using Nat.strongRecOn with
  | ind n ih =>
    by_cases he : ∃ m, m < n ∧ T m = s
    · obtain ⟨m, hm, hb⟩ := he
      exact ih m hm (by omega) hb
    · exact ⟨n, .inr ⟨n, hj, rfl, hs, fun i hi e => he ⟨i, hi, e⟩⟩⟩

theorem walk (F : Interp) (typ : ByteArray) (a : Option Addr) (len cap : Nat) (n st : Int) (T : Nat → ByteArray) (w : World) (hF : F.answers w.tape) (hn : (Lit.int .u64 n).wf = true) (hT : Strs w a len T) :
    Calls Ybaf.prog 4 #[.string typ, .slice a len cap, .int .u64 n, .int .i64 st] w fun e w' => e = .returned (.bool true) ∧ Below w.heap.size w w' := by
  by_cases hl : (len : Int) ≤ 1024
  · rcases Nat.eq_zero_or_pos len with rfl | h0
    · exact pick_none F typ a cap n st w hF
    · have hnb := bounds_u64 hn
      have hm0 : 0 ≤ n % (len : Int) := Int.emod_nonneg _ (by omega)
      have hm1 : n % (len : Int) < (len : Int) := Int.emod_lt_of_pos _ (by omega)
      obtain ⟨k, hk⟩ := first_exists len T (T (n % (len : Int)).toNat) (n % (len : Int)).toNat (by omega) rfl
      exact pick_some typ a len cap n st T w hl h0 hn hT (n % (len : Int)).toNat k (by omega) (by omega) hk
  · exact pick_long typ a len cap n st w (by omega)

/-- What the walk is told of the table. -/
theorem told {H : Type} {enc : TypeId × Value → H} {W : World} {a : Option Addr} {len cap : Nat} {d : DataW H} {p : List MemPlace}
    (h : DataW.Trod enc Ybaf.prog W 0 (fun _ => true) true 22 (.slice a len cap) d p) : ∃ T, Strs W a len T := by
  obtain ⟨fuel, hf⟩ := h
  rcases open_slice1 Ybaf.underlying22 cells9 hf with ⟨hcs, _⟩ | ⟨x, l, c, m, n, V, D, Pl, hcs, hb, hl, hm, hmm, _, hx⟩
  · simp [Value.cells] at hcs
    obtain ⟨rfl, rfl, rfl⟩ := hcs
    exact ⟨fun _ => ⟨#[]⟩, fun j hj => by omega⟩
  · simp [Value.cells] at hcs
    obtain ⟨rfl, rfl, rfl⟩ := hcs
    simp only [if_true] at hmm
    subst hmm
    have each : ∀ j, j < len → ∃ s : ByteArray, ∃ b off, some x = some ⟨b, off, none⟩ ∧ W.cell? ⟨b, off + j, none⟩ = some (.string s) := by
      intro j hj
      obtain ⟨h0, t0⟩ := hx j (by omega)
      obtain ⟨z0, _⟩ := hx 0 (by omega)
      obtain ⟨s, es, _, _⟩ := DataW.trod_string Ybaf.underlying9 t0
      simp at es
      rw [es] at h0
      obtain ⟨b, off, spot⟩ := x
      have hspot : spot = none := by simpa [Addr.add] using World.cell?_spot z0
      subst hspot
      rw [add_plain] at h0
      exact ⟨s, b, off, rfl, h0⟩
    obtain ⟨T, hT⟩ := choose_lt each
    exact ⟨T, hT⟩

/-! ### the listed tables -/
theorem door_met (os : Os) (args : Array Value) : laidMetH Ybaf.prog Rows.lawS3397APickRow.laid ((World.doorLaid Ybaf.prog 24 os).forCall (fun _ _ => 0) ⟨#[], args, []⟩).memory :=
  laidMetH_of_parts3 (fuel := 8) (laidMet_of_run' 8 (by kernel_rfl) (by kernel_rfl)) (by kernel_rfl) (by kernel_rfl)

theorem witness_row (os : Os) {H : Type} (enc : TypeId × Value → H) :
    (OpenSpec.ofChange Rows.lawS3397APickSpec).preRow enc Ybaf.prog Ybaf.f4 Rows.lawS3397APickRow.domain false Rows.lawS3397APickRow.laid ((World.doorLaid Ybaf.prog 24 os).forCall (fun _ _ => 0) ⟨#[], #[.string ⟨#[]⟩, .slice none 0 0, .int .u64 0, .int .i64 0], []⟩).memory #[.string ⟨#[]⟩, .slice none 0 0, .int .u64 0, .int .i64 0] := by
  have hw : (DataW.whole enc Ybaf.prog ((World.doorLaid Ybaf.prog 24 os).forCall (fun _ _ => 0) ⟨#[], #[.string ⟨#[]⟩, .slice none 0 0, .int .u64 0, .int .i64 0], []⟩).memory Ybaf.f4.params.toList (OpenSpec.ofChange Rows.lawS3397APickSpec).vars false #[Value.string ⟨#[]⟩, .slice none 0 0, .int .u64 0, .int .i64 0].toList 8).map (fun x => (x.1, x.2.1)) =
      some ([.lit (.string []), .nil, .lit (.int .u64 0), .lit (.int .i64 0)], []) := by kernel_rfl
  obtain ⟨⟨x1, x2, x3⟩, hx, hx1⟩ := Option.map_eq_some_iff.1 hw
  simp only [Prod.mk.injEq] at hx1
  obtain ⟨rfl, rfl⟩ := hx1
  exact OpenSpec.preRow_of_cond 8 hx (by kernel_rfl) (fun k hk => by cases hk) (by kernel_rfl) (door_met os _)

set_option maxRecDepth 100000 in
theorem lifted (os : Os) (started : os.Started) (H : Type) (enc : TypeId × Value → H) :
    ReturnsInTold none {} Ybaf.checked os 4 .any Input.okWide ((OpenSpec.ofChange Rows.lawS3397APickSpec).preRow enc Ybaf.prog Ybaf.f4 Rows.lawS3397APickRow.domain false Rows.lawS3397APickRow.laid) (fun F => ((OpenSpec.ofChange Rows.lawS3397APickSpec).at F).post enc Ybaf.prog Ybaf.f4 false true false false) (aloneAtReturn Ybaf.prog) nothingAlways := by
  refine returnsInTold_of_row (C := Ybaf.checked) (s := OpenSpec.ofChange Rows.lawS3397APickSpec) (by kernel_rfl) own started (by kernel_rfl) Ybaf.func4
    (OpenSpec.witness_stopped_atRef (enc := enc) (C := Ybaf.checked) false (World.doorLaid Ybaf.prog 24 os) #[.string ⟨#[]⟩, .slice none 0 0, .int .u64 0, .int .i64 0] rfl (by kernel_rfl) (by kernel_rfl) (by kernel_rfl) (witness_row os enc)) ?_
  intro F W base args ds gs before _ hF hval0 hW _ _ _ _ _
  have hval : ∀ (j : Nat) t v, Ybaf.f4.params[j]? = some t → args[j]? = some v → Value.okWide Ybaf.prog W .any base t v := hval0
  have hW' := hW
  obtain ⟨p, q, hA0, hV, rfl, hfz, hnd⟩ := hW
  have hA : DataW.TrodAll enc Ybaf.prog W 0 (fun _ => true) true Ybaf.f4.params.toList args.toList ds p := hA0
  rw [Ybaf.params4] at hA hval
  obtain ⟨v0, vs0, d0, ds0, p0, q0, hargs, rfl, rfl, h0, r0⟩ := trodAll_cons hA
  obtain ⟨v1, vs1, d1, ds1, p1, q1, rfl, rfl, rfl, h1, r1⟩ := trodAll_cons r0
  obtain ⟨v2, vs2, d2, ds2, p2, q2, rfl, rfl, rfl, h2, r2⟩ := trodAll_cons r1
  obtain ⟨v3, vs3, d3, ds3, p3, q3, rfl, rfl, rfl, h3, r3⟩ := trodAll_cons r2
  obtain ⟨rfl, rfl, rfl⟩ := trodAll_nil r3
  obtain rfl : args = #[v0, v1, v2, v3] := by cases args; simp_all
  obtain ⟨rfl, rfl⟩ := trodVars_none hV
  obtain ⟨s0, rfl, rfl, rfl, w0⟩ := open_string Ybaf.underlying9 (hval 0 9 v0 rfl rfl) h0
  obtain ⟨a1, len1, cap1, rfl⟩ := okWide_slice Ybaf.underlying22 (hval 1 22 v1 rfl rfl)
  obtain ⟨a2, rfl, rfl, rfl, w2⟩ := open_int Ybaf.underlying32 (hval 2 32 v2 rfl rfl) h2
  obtain ⟨a3, rfl, rfl, rfl, w3⟩ := open_int Ybaf.underlying3 (hval 3 3 v3 rfl rfl) h3
  have k1 := h1
  have lt1 : ∀ x ∈ p1, x.block < W.heap.size := by obtain ⟨m, hm⟩ := k1; exact DataW.trod_lt m _ _ _ hm
  obtain ⟨T, hT⟩ := told h1
  clear hA0 hval0
  refine (walk F.told s0 a1 len1 cap1 a2 a3 T W hF w2 hT).mono fun e W' ⟨he, bel⟩ => ?_
  subst he
  exact ⟨_, rfl, _, _, _, [], _, [], hW', trodAll_mk1 (shut_bool Ybaf.underlying4 _), (trodAll_cons_mk (shut_string Ybaf.underlying9 w0) (trodAll_cons_mk (Below.trod laidOut (by kernel_rfl) (of_decide_eq_true (by kernel_rfl)) k1 bel lt1) (trodAll_cons_mk (shut_int Ybaf.underlying32 w2) (trodAll_cons_mk (shut_int Ybaf.underlying3 w3) trodAll_mk0)))), rfl, bel.frame _, fun h => by cases h⟩

theorem stops : Ybaf.pinned.checked.prog.stops = Rows.lawS3397APickRow.stops := by kernel_rfl
theorem stopKnobs : Ybaf.pinned.checked.prog.stopKnobs = [] := by kernel_rfl
theorem quiet (os : Os) : Stop.quiet Ybaf.pinned.checked.prog os := by
  intro k hk
  rw [stopKnobs] at hk
  cases hk

/-- THE STATEMENT: the told and tied card. -/
theorem proved : Rows.LawS3397APickToldSaid :=
  Claim7.holds_of_told_tied_any_at .later 4 Ybaf.f4 "fmt.errorf" [] [] _ _ _ _ _ (by kernel_rfl) rfl rfl rfl laidOut (by kernel_rfl) rfl ⟨rfl, rfl, rfl, rfl, rfl, rfl, rfl⟩ rfl rfl (by kernel_rfl) (by kernel_rfl) Ybaf.func4 (by kernel_rfl)
    (of_decide_eq_true (by kernel_rfl)) (of_decide_eq_true (by kernel_rfl)) stops.symm rfl stopKnobs.symm (by kernel_rfl)
    (by kernel_rfl) (by kernel_rfl) (by kernel_rfl) (by kernel_rfl) (by kernel_rfl) (by kernel_rfl) (by kernel_rfl) (by kernel_rfl) (by kernel_rfl) rfl (by kernel_rfl) rfl rfl
    rfl rfl
    rfl (by kernel_rfl) (by kernel_rfl) (by kernel_rfl) (by decide) (by kernel_rfl) lawS3397APick_row_tie
    (OpenClaim.moreEntering_of (by kernel_rfl) (by kernel_rfl) (by kernel_rfl) (by kernel_rfl) (by kernel_rfl) (by kernel_rfl) (by kernel_rfl) (by kernel_rfl) (by kernel_rfl) (by kernel_rfl))
    ⟨_, WideRow.started_initial, quiet _⟩
    (fun os started _ H enc _ => lifted os started H enc)
#print axioms proved
end Go.Proofs.YbulkbrieFmt.lawS3397APick
