/-
  DERIVED. GIVEN WITH THE SEED: THE CARDS: each row of YbulkbrcuDoorRows.lean that lists a variable, with what it lists TIED to the program's text (the seventh form; the later family's looks); each row that meets fmt, with fmt's text TOLD by the authors' own Lean function (tested against real Go, not proved from fmt's source: count such statements apart). THE CARD IS WHAT COUNTS. Prove the row's statement (the work); the ties are given (YbulkbrcuDoorTie.lean); close each card by the builder's one call (the guide's Derived/Test/ToyasCard.lean, 'card_holds'). Laid BY PROGRAM, IN A SANDBOX (cutbox-door.mjs). By AI agents, Wed Nov 11 2026. No macro, syntax, notation, axiom, sorry.
-/
import Derived.Test.YbulkbrcuDoorRows
import GoSem.ClaimSeven
namespace Go.Proofs.YbulkbrcuDoor
namespace Rows

/-- THE TIED CARD OF 'export.LawS3387AReturned'. -/
def lawS3387AReturnedCard : Claim7 := { stood := { row := lawS3387AReturnedRow, standIns := [], harness := (true, "0edcd64fd6f875a0c65ef008742395c82bee1b39cd64b0e6d21e96752efea577"), looks := false }, kinds := [], alts := [], laidByText := true, laidKinds := [.data, .data, .data], laidTests := true, laidLooks := .later }
def LawS3387AReturnedCardSaid : Prop := Claim7.holds Ybad.pinned (.plain (OpenSpec.ofChange lawS3387AReturnedSpec)) lawS3387AReturnedCard
end Rows
end Go.Proofs.YbulkbrcuDoor
