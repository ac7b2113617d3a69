/-
  No cell of these rows narrows 'for every input' (looked for: loops, veiled, ifaces, maps, wideKeys, modest, calm, conditions, laid).
  DERIVED. THE GIVEN ROWS OF THIS SEAT. 2 by the template 'for every input the law returns true; each argument reads behind the call as it read before'; 0 by the template 'total and deterministic' (their statements: YbulkbreyTotals.lean).
  GIVEN WITH THE SEED: the statements are not yours to turn. If you find one false, say at which input.
  Laid BY PROGRAM, IN A SANDBOX (cutbox-rows.mjs): the forced cells as the released guide's own fill.sh prints them over the translation c735ccdb9824217f… (all of the seat's roots in one cut). By AI agents, Wed Nov 11 2026. No macro, syntax, notation, axiom, sorry.
-/
import Derived.Test.YbulkbreyChecked
import GoSem.Claim
import GoSem.ClaimJoined
import GoSem.ClaimMapViews
import Derived.JoinedTies
import Derived.KernelRfl
namespace Go.Proofs.Ybulkbrey
/- THE CELL 'sum', in the pinned program and in every row, IS THE sha256 OF THE DUMP (.gsa) THAT YbulkbreyProg.lean LOADS. Nothing in Lean hashes anything: it is a label: what it is worth is what the hold of that sum in a sandbox is worth. -/
noncomputable def Yba.pinned : Pinned := { name := "ybulkbrey", sum := "c735ccdb9824217f3d080ae8afd8b23f008a3a5662408af44531754572548db2", checked := Yba.checked }
namespace Rows
def none {H : Type} : Left H := { results := [], args := [] }

/-- 'objects.LawS3391CHandOn': WHATEVER THE INPUT: true; the input reads as it did. -/
def lawS3391CHandOnSpec : ChangeSpec := { name := "lawS3391CHandOn", fn := fun _ => fun
  | [d1, d2] => { results := [.lit (.bool true)], args := [d1, d2] }
  | _ => none }
def lawS3391CHandOnRow : OpenClaim := { program := "ybulkbrey", sum := "c735ccdb9824217f3d080ae8afd8b23f008a3a5662408af44531754572548db2", func := "example.com/enherit/enherit/objects.LawS3391CHandOn", spec := "lawS3391CHandOn", apart := false }
def LawS3391CHandOnSaid : Prop := lawS3391CHandOnRow.holds Yba.pinned (OpenSpec.ofChange lawS3391CHandOnSpec)

/-- ITS FALSE NEIGHBOUR: 'it returns false'. Refute it at one input. -/
def lawS3391CHandOnWrong : ChangeSpec := { name := "lawS3391CHandOn", fn := fun _ => fun
  | [d1, d2] => { results := [.lit (.bool false)], args := [d1, d2] }
  | _ => none }
def LawS3391CHandOnWrongFalsely : Prop := lawS3391CHandOnRow.holds Yba.pinned (OpenSpec.ofChange lawS3391CHandOnWrong)

/-- 'objects.LawS3391CCached': WHATEVER THE INPUT: true; the input reads as it did. -/
def lawS3391CCachedSpec : ChangeSpec := { name := "lawS3391CCached", fn := fun _ => fun
  | [d1, d2, d3] => { results := [.lit (.bool true)], args := [d1, d2, d3] }
  | _ => none }
def lawS3391CCachedRow : OpenClaim := { program := "ybulkbrey", sum := "c735ccdb9824217f3d080ae8afd8b23f008a3a5662408af44531754572548db2", func := "example.com/enherit/enherit/objects.LawS3391CCached", spec := "lawS3391CCached", apart := false }
def LawS3391CCachedSaid : Prop := lawS3391CCachedRow.holds Yba.pinned (OpenSpec.ofChange lawS3391CCachedSpec)

/-- ITS FALSE NEIGHBOUR: 'it returns false'. Refute it at one input. -/
def lawS3391CCachedWrong : ChangeSpec := { name := "lawS3391CCached", fn := fun _ => fun
  | [d1, d2, d3] => { results := [.lit (.bool false)], args := [d1, d2, d3] }
  | _ => none }
def LawS3391CCachedWrongFalsely : Prop := lawS3391CCachedRow.holds Yba.pinned (OpenSpec.ofChange lawS3391CCachedWrong)

end Rows
end Go.Proofs.Ybulkbrey
