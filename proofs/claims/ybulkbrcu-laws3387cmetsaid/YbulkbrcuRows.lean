/-
  No cell of these rows narrows 'for every input' (looked for: loops, veiled, ifaces, maps, wideKeys, modest, calm, conditions, laid).
  DERIVED. THE GIVEN ROWS OF THIS SEAT. 4 by the template 'for every input the law returns true; each argument reads behind the call as it read before'; 0 by the template 'total and deterministic' (their statements: YbulkbrcuTotals.lean).
  GIVEN WITH THE SEED: the statements are not yours to turn. If you find one false, say at which input.
  Laid BY PROGRAM, IN A SANDBOX (cutbox-rows.mjs): the forced cells as the released guide's own fill.sh prints them over the translation 15f1107166c34ab7… (all of the seat's roots in one cut). By AI agents, Wed Nov 11 2026. No macro, syntax, notation, axiom, sorry.
-/
import Derived.Test.YbulkbrcuChecked
import GoSem.Claim
import GoSem.ClaimJoined
import GoSem.ClaimMapViews
import Derived.JoinedTies
import Derived.KernelRfl
namespace Go.Proofs.Ybulkbrcu
/- THE CELL 'sum', in the pinned program and in every row, IS THE sha256 OF THE DUMP (.gsa) THAT YbulkbrcuProg.lean LOADS. Nothing in Lean hashes anything: it is a label: what it is worth is what the hold of that sum in a sandbox is worth. -/
noncomputable def Yba.pinned : Pinned := { name := "ybulkbrcu", sum := "15f1107166c34ab77a6023174fad96021335bbb72e9b1402a2d16b3c83e7eb85", checked := Yba.checked }
namespace Rows
def none {H : Type} : Left H := { results := [], args := [] }

/-- 'check.LawS3387BOne': WHATEVER THE INPUT: true; the input reads as it did. -/
def lawS3387BOneSpec : ChangeSpec := { name := "lawS3387BOne", fn := fun _ => fun
  | [d1, d2, d3, d4, d5] => { results := [.lit (.bool true)], args := [d1, d2, d3, d4, d5] }
  | _ => none }
def lawS3387BOneRow : OpenClaim := { program := "ybulkbrcu", sum := "15f1107166c34ab77a6023174fad96021335bbb72e9b1402a2d16b3c83e7eb85", func := "example.com/interleave/interleave/check.LawS3387BOne", spec := "lawS3387BOne", apart := false }
def LawS3387BOneSaid : Prop := lawS3387BOneRow.holds Yba.pinned (OpenSpec.ofChange lawS3387BOneSpec)

/-- ITS FALSE NEIGHBOUR: 'it returns false'. Refute it at one input. -/
def lawS3387BOneWrong : ChangeSpec := { name := "lawS3387BOne", fn := fun _ => fun
  | [d1, d2, d3, d4, d5] => { results := [.lit (.bool false)], args := [d1, d2, d3, d4, d5] }
  | _ => none }
def LawS3387BOneWrongFalsely : Prop := lawS3387BOneRow.holds Yba.pinned (OpenSpec.ofChange lawS3387BOneWrong)

/-- 'check.LawS3387BScript': WHATEVER THE INPUT: true; the input reads as it did. -/
def lawS3387BScriptSpec : ChangeSpec := { name := "lawS3387BScript", fn := fun _ => fun
  | [d] => { results := [.lit (.bool true)], args := [d] }
  | _ => none }
def lawS3387BScriptRow : OpenClaim := { program := "ybulkbrcu", sum := "15f1107166c34ab77a6023174fad96021335bbb72e9b1402a2d16b3c83e7eb85", func := "example.com/interleave/interleave/check.LawS3387BScript", spec := "lawS3387BScript", apart := false }
def LawS3387BScriptSaid : Prop := lawS3387BScriptRow.holds Yba.pinned (OpenSpec.ofChange lawS3387BScriptSpec)

/-- ITS FALSE NEIGHBOUR: 'it returns false'. Refute it at one input. -/
def lawS3387BScriptWrong : ChangeSpec := { name := "lawS3387BScript", fn := fun _ => fun
  | [d] => { results := [.lit (.bool false)], args := [d] }
  | _ => none }
def LawS3387BScriptWrongFalsely : Prop := lawS3387BScriptRow.holds Yba.pinned (OpenSpec.ofChange lawS3387BScriptWrong)

/-- 'check.LawS3387CMet': WHATEVER THE INPUT: true; the input reads as it did. -/
def lawS3387CMetSpec : ChangeSpec := { name := "lawS3387CMet", fn := fun _ => fun
  | [d1, d2, d3, d4, d5] => { results := [.lit (.bool true)], args := [d1, d2, d3, d4, d5] }
  | _ => none }
def lawS3387CMetRow : OpenClaim := { program := "ybulkbrcu", sum := "15f1107166c34ab77a6023174fad96021335bbb72e9b1402a2d16b3c83e7eb85", func := "example.com/interleave/interleave/check.LawS3387CMet", spec := "lawS3387CMet", inPlace := ["internal/reflectlite.ValueOf", "internal/reflectlite.Swapper", "(internal/reflectlite.Value).Len"], unfollowed := true, recurses := true, apart := false }
def LawS3387CMetSaid : Prop := lawS3387CMetRow.holds Yba.pinned (OpenSpec.ofChange lawS3387CMetSpec)

/-- ITS FALSE NEIGHBOUR: 'it returns false'. Refute it at one input. -/
def lawS3387CMetWrong : ChangeSpec := { name := "lawS3387CMet", fn := fun _ => fun
  | [d1, d2, d3, d4, d5] => { results := [.lit (.bool false)], args := [d1, d2, d3, d4, d5] }
  | _ => none }
def LawS3387CMetWrongFalsely : Prop := lawS3387CMetRow.holds Yba.pinned (OpenSpec.ofChange lawS3387CMetWrong)

/-- 'check.LawS3387CNone': WHATEVER THE INPUT: true; the input reads as it did. -/
def lawS3387CNoneSpec : ChangeSpec := { name := "lawS3387CNone", fn := fun _ => fun
  | [d] => { results := [.lit (.bool true)], args := [d] }
  | _ => none }
def lawS3387CNoneRow : OpenClaim := { program := "ybulkbrcu", sum := "15f1107166c34ab77a6023174fad96021335bbb72e9b1402a2d16b3c83e7eb85", func := "example.com/interleave/interleave/check.LawS3387CNone", spec := "lawS3387CNone", inPlace := ["internal/reflectlite.ValueOf", "internal/reflectlite.Swapper", "(internal/reflectlite.Value).Len"], unfollowed := true, recurses := true, apart := false }
def LawS3387CNoneSaid : Prop := lawS3387CNoneRow.holds Yba.pinned (OpenSpec.ofChange lawS3387CNoneSpec)

/-- ITS FALSE NEIGHBOUR: 'it returns false'. Refute it at one input. -/
def lawS3387CNoneWrong : ChangeSpec := { name := "lawS3387CNone", fn := fun _ => fun
  | [d] => { results := [.lit (.bool false)], args := [d] }
  | _ => none }
def LawS3387CNoneWrongFalsely : Prop := lawS3387CNoneRow.holds Yba.pinned (OpenSpec.ofChange lawS3387CNoneWrong)

end Rows
end Go.Proofs.Ybulkbrcu
