/-
  'Rows.LawS3391CCachedSaid', proved. The frame after the guide's skeleton tool's; the walk: YbulkbreyCached.
-/
import Derived.Test.YbulkbreyRows
import Derived.Test.YbulkbreyCached
import Derived.Deep.SlicePairs
import Derived.ProofKit
import Derived.OpenShut
import Derived.ShutString
import Derived.ChangeOld
namespace Go.Proofs.Ybulkbrey.lawS3391CCached
open Go.ChangeShapes Go.WideShapes Go.ChangeAt Go.RowKit Go.Deep
open Go.ChangeMaps (open_string shut_string)

theorem own : ownKnob Yba.prog.godebug = none := by kernel_rfl
theorem laidOut : laidOutB Yba.prog = true := by kernel_rfl
theorem cells31 : Yba.prog.cellsOf 31 = 3 := by kernel_rfl
theorem cells9 : Yba.prog.cellsOf 9 = 1 := by kernel_rfl
theorem cells5 : Yba.prog.cellsOf 5 = 1 := by kernel_rfl

theorem walk (nm : ByteArray) (a b : Option Addr) (la ca lb cb : Nat) (w : World) (N V : Nat → ByteArray) (O : Nat → Int) (hA : Dirs w a la N V O) (M U : Nat → ByteArray) (Q : Nat → Int) (hB : Dirs w b lb M U Q) :
    Calls Yba.prog 4 #[.string nm, .slice a la ca, .slice b lb cb] w fun e w' => e = .returned (.bool true) ∧ Below w.heap.size w w' := by
  by_cases h1 : (la : Int) ≤ 1024
  · by_cases h2 : (lb : Int) ≤ 1024
    · exact cached_any nm a b la ca lb cb w h1 h2 N V O hA M U Q hB
    · exact cached_long2 nm a b la ca lb cb w h1 (by omega)
  · exact cached_long nm a b la ca lb cb w (by omega)

/-- What the walk is told of a slice. -/
theorem told {H : Type} {enc : TypeId × Value → H} {W : World} {a : Option Addr} {len cap : Nat} {d : DataW H} {p : List MemPlace}
    (h : DataW.Trod enc Yba.prog W 0 (fun _ => true) true 22 (.slice a len cap) d p) : ∃ N V O, Dirs W a len N V O := by
  obtain ⟨fuel, hf⟩ := h
  rcases open_slice Yba.underlying22 hf with ⟨hcs, _⟩ | ⟨x, l, c, m, n, D, Pl, hcs, hb, hl, hm, hmm, _, hx⟩
  · simp [Value.cells] at hcs
    obtain ⟨rfl, rfl, rfl⟩ := hcs
    exact ⟨fun _ => ⟨#[]⟩, fun _ => ⟨#[]⟩, fun _ => 0, fun j hj => by omega⟩
  · simp [Value.cells] at hcs
    obtain ⟨rfl, rfl, rfl⟩ := hcs
    simp only [if_true] at hmm
    subst hmm
    have each : ∀ j, j < len → ∃ q : ByteArray × ByteArray × Int, ∃ b off, some x = some ⟨b, off, none⟩ ∧ W.cell? ⟨b, off + j * 3, none⟩ = some (.string q.1) ∧ W.cell? ⟨b, off + j * 3 + 1, none⟩ = some (.string q.2.1) ∧ W.cell? ⟨b, off + j * 3 + 2, none⟩ = some (.int .u8 q.2.2) := by
      intro j hj
      obtain ⟨cs', h1, h2⟩ := hx j (by omega)
      rw [cells31] at h1
      obtain ⟨_, hlen, hcell⟩ := World.cells?_some h1
      obtain ⟨xs, k, hk, hxy, _, hxl, hfl⟩ := DataW.trod_struct Yba.underlying31 h2
      match xs, hxl, cs', hlen with
      | [y0, y1, y2], _, [v0, v1, v2], _ =>
        have g0 := hfl 0 _ rfl
        have g1 := hfl 1 _ rfl
        have g2 := hfl 2 _ rfl
        simp [cells9, cells5] at g0 g1 g2
        obtain ⟨s, es, _, _⟩ := DataW.trod_string Yba.underlying9 g0
        obtain ⟨t, et, _, _⟩ := DataW.trod_string Yba.underlying9 g1
        obtain ⟨z, ez, _, _⟩ := DataW.trod_int Yba.underlying5 g2
        simp at es et ez
        subst es
        subst et
        subst ez
        have e0 := hcell 0 (by omega)
        have e1 := hcell 1 (by omega)
        have e2 := hcell 2 (by omega)
        rw [add_add] at e0 e1 e2
        obtain ⟨b, off, spot⟩ := x
        have hspot : spot = none := by
          obtain ⟨cs0, z1, _⟩ := hx 0 (by omega)
          rw [cells31] at z1
          obtain ⟨_, zl, zc⟩ := World.cells?_some z1
          cases cs0 with
          | nil => cases zl
          | cons u us =>
            have z2 : W.cell? (((⟨b, off, spot⟩ : Addr).add (0 * 3)).add 0) = some u := zc 0 (by omega)
            simpa [Addr.add] using World.cell?_spot z2
        subst hspot
        rw [add_plain] at e0 e1 e2
        exact ⟨(s, t, z), b, off, rfl, by simpa using e0, by simpa [Nat.add_assoc] using e1, by simpa [Nat.add_assoc] using e2⟩
    obtain ⟨q, hq⟩ := choose_lt each
    exact ⟨fun j => (q j).1, fun j => (q j).2.1, fun j => (q j).2.2, fun j hj => hq j hj⟩

set_option maxRecDepth 100000 in
theorem lifted (os : Os) (started : os.Started) (H : Type) (enc : TypeId × Value → H) :
    ReturnsInHanded {} Yba.checked os 4 .any (Rows.lawS3391CCachedSpec.pre6 enc Yba.prog Yba.f4 Rows.lawS3391CCachedRow.domain false) (Rows.lawS3391CCachedSpec.post enc Yba.prog Yba.f4 false true false false) := by
  refine returnsInHanded_of_change (C := Yba.checked) own started (by kernel_rfl) Yba.func4
    (ChangeSpec.witness6 (enc := enc) (C := Yba.checked) false ⟨#[], #[.string ⟨#[]⟩, .slice none 0 0, .slice none 0 0], []⟩ 8 (by kernel_rfl) (by kernel_rfl) (by kernel_rfl) (by kernel_rfl)) ?_
  intro W base args ds gs before hval0 hW hcnd _
  have hval : ∀ (j : Nat) t v, Yba.f4.params[j]? = some t → args[j]? = some v → Value.okWide Yba.prog W .any base t v := hval0
  have hW' := hW
  obtain ⟨p, q, hA0, hV, rfl, hfz, hnd⟩ := hW
  have hA : DataW.TrodAll enc Yba.prog W 0 (fun _ => true) true Yba.f4.params.toList args.toList ds p := hA0
  rw [Yba.params4] at hA hval
  obtain ⟨v0, vs0, d0, ds0, p0, q0, hargs, rfl, rfl, h0, r0⟩ := trodAll_cons hA
  obtain ⟨v1, vs1, d1, ds1, p1, q1, rfl, rfl, rfl, h1, r1⟩ := trodAll_cons r0
  obtain ⟨v2, vs2, d2, ds2, p2, q2, rfl, rfl, rfl, h2, r2⟩ := trodAll_cons r1
  obtain ⟨rfl, rfl, rfl⟩ := trodAll_nil r2
  obtain rfl : args = #[v0, v1, v2] := by cases args; simp_all
  obtain ⟨rfl, rfl⟩ := trodVars_none hV
  obtain ⟨s0, rfl, rfl, rfl, w0⟩ := open_string Yba.underlying9 (hval 0 9 v0 rfl rfl) h0
  obtain ⟨a1, len1, cap1, rfl⟩ := okWide_slice Yba.underlying22 (hval 1 22 v1 rfl rfl)
  obtain ⟨a2, len2, cap2, rfl⟩ := okWide_slice Yba.underlying22 (hval 2 22 v2 rfl rfl)
  have k1 := h1
  have k2 := h2
  have lt1 : ∀ x ∈ p1, x.block < W.heap.size := by obtain ⟨m, hm⟩ := k1; exact DataW.trod_lt m _ _ _ hm
  have lt2 : ∀ x ∈ p2, x.block < W.heap.size := by obtain ⟨m, hm⟩ := k2; exact DataW.trod_lt m _ _ _ hm
  obtain ⟨N, V, O, hD1⟩ := told h1
  obtain ⟨M, U, Q, hD2⟩ := told h2
  clear hA0 hval0
  refine (walk s0 a1 a2 len1 cap1 len2 cap2 W N V O hD1 M U Q hD2).mono fun e W' ⟨he, bel⟩ => ?_
  subst he
  exact ⟨_, rfl, _, _, _, [], _, [], hW', trodAll_mk1 (shut_bool Yba.underlying4 _), (trodAll_cons_mk (shut_string Yba.underlying9 w0) (trodAll_cons_mk (Below.trod laidOut (by kernel_rfl) (of_decide_eq_true (by kernel_rfl)) k1 bel lt1) (trodAll_cons_mk (Below.trod laidOut (by kernel_rfl) (of_decide_eq_true (by kernel_rfl)) k2 bel lt2) trodAll_mk0))), rfl, bel.frame _, fun h => by cases h⟩

theorem over : Rows.lawS3391CCachedRow.holds Yba.pinned (OpenSpec.ofChange Rows.lawS3391CCachedSpec) :=
  OpenClaim.holds_of_wide 4 Yba.f4 rfl rfl rfl rfl rfl rfl rfl ⟨rfl, rfl, rfl, rfl, rfl⟩ rfl rfl rfl rfl rfl (by kernel_rfl) Yba.func4 (by kernel_rfl)
    (of_decide_eq_true (by kernel_rfl)) (by unfold Func.isWrapper; first | (rw [if_pos (by decide +kernel)]; kernel_rfl) | (rw [if_neg (by decide +kernel)]; exact ⟨rfl, rfl⟩))
    (fun os started H enc _ => lifted os started H enc)

theorem proved : Rows.LawS3391CCachedSaid := over
#print axioms proved
end Go.Proofs.Ybulkbrey.lawS3391CCached
