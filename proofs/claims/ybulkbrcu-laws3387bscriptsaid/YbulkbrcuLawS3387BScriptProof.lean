/-
  'Rows.LawS3387BScriptSaid', proved. The frame after the guide's skeleton tool's (a slice of structs by 'open_slice_pairs'); the walk: YbulkbrcuScriptWalk.
-/
import Derived.Test.YbulkbrcuRows
import Derived.WalkKit
import Derived.ProofKit
import Derived.OpenShut
import Derived.ShutString
import Derived.ChangeOld
import Derived.Below
import Derived.Deep.SlicePairs
import Derived.Test.YbulkbrcuScriptWalk
namespace Go.Proofs.Ybulkbrcu.lawS3387BScript
open Go.ChangeShapes Go.WideShapes Go.ChangeAt Go.RowKit Go.Deep

theorem own : ownKnob Yba.prog.godebug = none := by kernel_rfl
theorem laidOut : laidOutB Yba.prog = true := by kernel_rfl
theorem cells37 : Yba.prog.cellsOf 37 = 2 := by kernel_rfl
theorem cells5 : Yba.prog.cellsOf 5 = 1 := by kernel_rfl

theorem walk (a : Option Addr) (len cap : Nat) (w : World) (F To : Nat → Nat)
    (hc : ∀ j, j < len → ∃ b off, a = some ⟨b, off, none⟩ ∧ w.cell? ⟨b, off + j * 2, none⟩ = some (.int .u8 (F j)) ∧ w.cell? ⟨b, off + j * 2 + 1, none⟩ = some (.int .u8 (To j))) (hF : ∀ j, j < len → F j ≤ 255) (hTo : ∀ j, j < len → To j ≤ 255) :
    Calls Yba.prog 4 #[.slice a len cap] w fun e w' => e = .returned (.bool true) ∧ Below w.heap.size w w' := by
  rcases Nat.lt_or_ge 1024 len with hl | hl
  · exact script_long a len cap w (by omega)
  · exact script_any a len cap w (by omega) F To hc hF hTo

/-- A byte's value as a natural number. -/
theorem byte_of {H : Type} {enc : TypeId × Value → H} {w : World} {base : Nat} {sp : Nat → Bool} {held : Bool} {n : Nat} {v : Value} {y : DataW H × List MemPlace} (h : DataW.trod enc Yba.prog w base sp held n 5 [v] = some y) :
    ∃ q : Nat, v = .int .u8 (q : Int) ∧ q ≤ 255 := by
  obtain ⟨a, e0, _, wa⟩ := DataW.trod_int Yba.underlying5 h
  simp at e0
  subst e0
  have := bounds_u8 wa
  exact ⟨a.toNat, by congr 1; omega, by omega⟩

/-- What the walk is told of the slice. -/
theorem told {H : Type} {enc : TypeId × Value → H} {W : World} {a : Option Addr} {len cap : Nat} {d : DataW H} {p : List MemPlace}
    (h : DataW.Trod enc Yba.prog W 0 (fun _ => true) true 33 (.slice a len cap) d p) :
    ∃ F To : Nat → Nat, (∀ j, j < len → ∃ b off, a = some ⟨b, off, none⟩ ∧ W.cell? ⟨b, off + j * 2, none⟩ = some (.int .u8 (F j)) ∧ W.cell? ⟨b, off + j * 2 + 1, none⟩ = some (.int .u8 (To j))) ∧ (∀ j, j < len → F j ≤ 255) ∧ ∀ j, j < len → To j ≤ 255 := by
  obtain ⟨fuel, hf⟩ := h
  rcases open_slice_pairs Yba.underlying33 Yba.underlying37 cells37 rfl rfl cells5 cells5 hf with ⟨hcs, _⟩ | ⟨x, l, c, m, n, V0, V1, D0, D1, P0, P1, hcs, _, hl, hm, hmm, _, hx⟩
  · simp [Value.cells] at hcs
    obtain ⟨rfl, rfl, rfl⟩ := hcs
    exact ⟨fun _ => 0, fun _ => 0, fun j hj => by omega, fun j hj => by omega, fun j hj => by omega⟩
  · simp [Value.cells] at hcs
    obtain ⟨rfl, rfl, rfl⟩ := hcs
    simp only [if_true] at hmm
    subst hmm
    have each : ∀ j, j < len → ∃ q : Nat × Nat, (∃ b off, some x = some ⟨b, off, none⟩ ∧ W.cell? ⟨b, off + j * 2, none⟩ = some (.int .u8 (q.1 : Int)) ∧ W.cell? ⟨b, off + j * 2 + 1, none⟩ = some (.int .u8 (q.2 : Int))) ∧ q.1 ≤ 255 ∧ q.2 ≤ 255 := by
      intro j hj
      obtain ⟨h0, h1, t0, t1⟩ := hx j (by omega)
      obtain ⟨z0, _, _, _⟩ := hx 0 (by omega)
      obtain ⟨f, ef, hf5⟩ := byte_of t0
      obtain ⟨t, et, ht5⟩ := byte_of t1
      rw [ef] at h0
      rw [et] at h1
      obtain ⟨b, off, spot⟩ := x
      have hspot : spot = none := by simpa [Addr.add] using World.cell?_spot z0
      subst hspot
      rw [add_plain] at h0 h1
      exact ⟨(f, t), ⟨b, off, rfl, h0, h1⟩, hf5, ht5⟩
    obtain ⟨q, hq⟩ := choose_lt each
    exact ⟨fun j => (q j).1, fun j => (q j).2, fun j hj => (hq j hj).1, fun j hj => (hq j hj).2.1, fun j hj => (hq j hj).2.2⟩

set_option maxRecDepth 100000 in
theorem lifted (os : Os) (started : os.Started) (H : Type) (enc : TypeId × Value → H) :
    ReturnsInHanded {} Yba.checked os 4 .any (Rows.lawS3387BScriptSpec.pre6 enc Yba.prog Yba.f4 Rows.lawS3387BScriptRow.domain false) (Rows.lawS3387BScriptSpec.post enc Yba.prog Yba.f4 false true false false) := by
  refine returnsInHanded_of_change (C := Yba.checked) own started (by kernel_rfl) Yba.func4
    (ChangeSpec.witness6 (enc := enc) (C := Yba.checked) false ⟨#[], #[.slice none 0 0], []⟩ 8 (by kernel_rfl) (by kernel_rfl) (by kernel_rfl) (by kernel_rfl)) ?_
  intro W base args ds gs before hval0 hW hcnd _
  have hval : ∀ (j : Nat) t v, Yba.f4.params[j]? = some t → args[j]? = some v → Value.okWide Yba.prog W .any base t v := hval0
  have hW' := hW
  obtain ⟨p, q, hA0, hV, rfl, hfz, hnd⟩ := hW
  have hA : DataW.TrodAll enc Yba.prog W 0 (fun _ => true) true Yba.f4.params.toList args.toList ds p := hA0
  rw [Yba.params4] at hA hval
  obtain ⟨v0, vs0, d0, ds0, p0, q0, hargs, rfl, rfl, h0, r0⟩ := trodAll_cons hA
  obtain ⟨rfl, rfl, rfl⟩ := trodAll_nil r0
  obtain rfl : args = #[v0] := by cases args; simp_all
  obtain ⟨rfl, rfl⟩ := trodVars_none hV
  obtain ⟨a0, len0, cap0, rfl⟩ := okWide_slice Yba.underlying33 (hval 0 33 v0 rfl rfl)
  have k0 := h0
  have lt0 : ∀ x ∈ p0, x.block < W.heap.size := by obtain ⟨m, hm⟩ := k0; exact DataW.trod_lt m _ _ _ hm
  obtain ⟨F, To, hc, hF, hTo⟩ := told h0
  clear hA0 hval0
  refine (walk a0 len0 cap0 W F To hc hF hTo).mono fun e W' ⟨he, bel⟩ => ?_
  subst he
  exact ⟨_, rfl, _, _, _, [], _, [], hW', trodAll_mk1 (shut_bool Yba.underlying4 _), (trodAll_cons_mk (Below.trod laidOut (by kernel_rfl) (of_decide_eq_true (by kernel_rfl)) k0 bel lt0) trodAll_mk0), rfl, bel.frame _, fun h => by cases h⟩

theorem over : Rows.lawS3387BScriptRow.holds Yba.pinned (OpenSpec.ofChange Rows.lawS3387BScriptSpec) :=
  OpenClaim.holds_of_wide 4 Yba.f4 rfl rfl rfl rfl rfl rfl rfl ⟨rfl, rfl, rfl, rfl, rfl⟩ rfl rfl rfl rfl rfl (by kernel_rfl) Yba.func4 (by kernel_rfl)
    (of_decide_eq_true (by kernel_rfl)) (by unfold Func.isWrapper; first | (rw [if_pos (by decide +kernel)]; kernel_rfl) | (rw [if_neg (by decide +kernel)]; exact ⟨rfl, rfl⟩))
    (fun os started H enc _ => lifted os started H enc)

theorem proved : Rows.LawS3387BScriptSaid := over
#print axioms proved
end Go.Proofs.Ybulkbrcu.lawS3387BScript
