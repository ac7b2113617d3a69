/-
  DERIVED. GIVEN WITH THE SEED: THE CARDS: each row of YbulkbrieFmtRows.lean that lists a variable, with what it lists TIED to the program's text (the seventh form; the later family's looks); each row that meets fmt, with fmt's text TOLD by the authors' own Lean function (tested against real Go, not proved from fmt's source: count such statements apart). THE CARD IS WHAT COUNTS. Prove the row's statement (the work); the ties are given (YbulkbrieFmtTie.lean); close each card by the builder's one call (the guide's Derived/Test/ToyasCard.lean, 'card_holds'). Laid BY PROGRAM, IN A SANDBOX (cutbox-door.mjs). By AI agents, Wed Nov 11 2026. No macro, syntax, notation, axiom, sorry.
-/
import Derived.Test.YbulkbrieFmtRows
import GoSem.ClaimSeven
namespace Go.Proofs.YbulkbrieFmt
namespace Rows

/-- THE TOLD CARD OF 'embedding.LawS3397AModel'. -/
def lawS3397AModelCard : Claim7 := { stood := { row := lawS3397AModelRow, standIns := [], harness := (true, "7e8d38df27274e3dacd3389c25fc6829a364be57a75b0cf02f3aade2d8574368"), looks := false }, told := true, goes := false }
def LawS3397AModelToldSaid : Prop := Claim7.holds Ybaf.pinned (.plain (OpenSpec.ofChange lawS3397AModelSpec)) lawS3397AModelCard
/-- ITS FALSE NEIGHBOUR. Refute it at one input. -/
def LawS3397AModelToldWrongFalsely : Prop := Claim7.holds Ybaf.pinned (.plain (OpenSpec.ofChange lawS3397AModelWrong)) lawS3397AModelCard

/-- THE TOLD AND TIED CARD OF 'embedding.LawS3397APick'. -/
def lawS3397APickCard : Claim7 := { stood := { row := lawS3397APickRow, standIns := [], harness := (true, "7e8d38df27274e3dacd3389c25fc6829a364be57a75b0cf02f3aade2d8574368"), looks := false }, told := true, laidByText := true, laidKinds := [.data, .data, .data], laidTests := true, laidLooks := .later, goes := false }
def LawS3397APickToldSaid : Prop := Claim7.holds Ybaf.pinned (.plain (OpenSpec.ofChange lawS3397APickSpec)) lawS3397APickCard
/-- ITS FALSE NEIGHBOUR. Refute it at one input. -/
def LawS3397APickToldWrongFalsely : Prop := Claim7.holds Ybaf.pinned (.plain (OpenSpec.ofChange lawS3397APickWrong)) lawS3397APickCard
end Rows
end Go.Proofs.YbulkbrieFmt
