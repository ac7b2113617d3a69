/-
  What the form says of a slice of references that came in.
-/
import Derived.Test.YbulkbrcuCWalk
import Derived.Deep.SlicePairs
import Derived.WalkKit
import Derived.ProofKit
import Derived.OpenShut
import Derived.ShutString
import Derived.ChangeOld
import Derived.Below
namespace Go.Proofs.Ybulkbrcu
open Go.ChangeShapes Go.WideShapes Go.ChangeAt Go.RowKit Go.Deep

theorem cells65 : Yba.prog.cellsOf 65 = 2 := by kernel_rfl
theorem cells9 : Yba.prog.cellsOf 9 = 1 := by kernel_rfl
theorem ownC : ownKnob Yba.prog.godebug = none := by kernel_rfl
theorem laidOutC : laidOutB Yba.prog = true := by kernel_rfl

/-- What the walks are told of the slice. -/
theorem told {H : Type} {enc : TypeId × Value → H} {W : World} {a : Option Addr} {len cap : Nat} {d : DataW H} {p : List MemPlace}
    (h : DataW.Trod enc Yba.prog W 0 (fun _ => true) true 39 (.slice a len cap) d p) : Refs W a len := by
  obtain ⟨fuel, hf⟩ := h
  rcases open_slice_pairs Yba.underlying39 Yba.underlying65 cells65 rfl rfl cells9 cells9 hf with ⟨hcs, _⟩ | ⟨x, l, c, m, n, V0, V1, D0, D1, P0, P1, hcs, _, hl, hm, hmm, _, hx⟩
  · simp [Value.cells] at hcs
    obtain ⟨rfl, rfl, rfl⟩ := hcs
    exact fun j hj => by omega
  · simp [Value.cells] at hcs
    obtain ⟨rfl, rfl, rfl⟩ := hcs
    simp only [if_true] at hmm
    subst hmm
    intro j hj
    obtain ⟨h0, h1, t0, t1⟩ := hx j (by omega)
    obtain ⟨z0, _, _, _⟩ := hx 0 (by omega)
    obtain ⟨s, es, _, hs⟩ := DataW.trod_string Yba.underlying9 t0
    obtain ⟨t, et, _, ht⟩ := DataW.trod_string Yba.underlying9 t1
    simp at es et
    rw [es] at h0
    rw [et] at h1
    obtain ⟨b, off, spot⟩ := x
    have hspot : spot = none := by simpa [Addr.add] using World.cell?_spot z0
    subst hspot
    rw [add_plain] at h0 h1
    exact ⟨b, off, s, t, rfl, h0, h1, hs, ht⟩

end Go.Proofs.Ybulkbrcu
