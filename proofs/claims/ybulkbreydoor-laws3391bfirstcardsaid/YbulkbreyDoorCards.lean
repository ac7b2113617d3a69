/-
  DERIVED. GIVEN WITH THE SEED: THE CARDS: each row of YbulkbreyDoorRows.lean that lists a variable, with what it lists TIED to the program's text (the seventh form; the later family's looks); each row that meets fmt, with fmt's text TOLD by the authors' own Lean function (tested against real Go, not proved from fmt's source: count such statements apart). THE CARD IS WHAT COUNTS. Prove the row's statement (the work); the ties are given (YbulkbreyDoorTie.lean); close each card by the builder's one call (the guide's Derived/Test/ToyasCard.lean, 'card_holds'). Laid BY PROGRAM, IN A SANDBOX (cutbox-door.mjs). By AI agents, Wed Nov 11 2026. No macro, syntax, notation, axiom, sorry.
-/
import Derived.Test.YbulkbreyDoorRows
import GoSem.ClaimSeven
namespace Go.Proofs.YbulkbreyDoor
namespace Rows

/-- THE TIED CARD OF 'objects.LawS3391BFirst'. -/
def lawS3391BFirstCard : Claim7 := { stood := { row := lawS3391BFirstRow, standIns := [], harness := (true, "8b9dcfbbd37f22eca1891af776652003cdc3ee1eeec4a44e9714e4361b4f0072"), looks := false }, kinds := [], alts := [], laidByText := true, laidKinds := [.called], laidTests := true, laidLooks := .later }
def LawS3391BFirstCardSaid : Prop := Claim7.holds Ybad.pinned (.plain (OpenSpec.ofChange lawS3391BFirstSpec)) lawS3391BFirstCard

/-- THE TIED CARD OF 'objects.LawS3391BConcat'. -/
def lawS3391BConcatCard : Claim7 := { stood := { row := lawS3391BConcatRow, standIns := [], harness := (true, "8b9dcfbbd37f22eca1891af776652003cdc3ee1eeec4a44e9714e4361b4f0072"), looks := false }, kinds := [], alts := [], laidByText := true, laidKinds := [.called], laidTests := true, laidLooks := .later }
def LawS3391BConcatCardSaid : Prop := Claim7.holds Ybad.pinned (.plain (OpenSpec.ofChange lawS3391BConcatSpec)) lawS3391BConcatCard
end Rows
end Go.Proofs.YbulkbreyDoor
