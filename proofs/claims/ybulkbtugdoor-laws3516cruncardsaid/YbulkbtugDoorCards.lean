/-
  DERIVED. GIVEN WITH THE SEED: THE CARDS: each row of YbulkbtugDoorRows.lean that lists a variable, with what it lists TIED to the program's text (the seventh form; the later family's looks); each row that meets fmt, with fmt's text TOLD by the authors' own Lean function (tested against real Go, not proved from fmt's source: count such statements apart). THE CARD IS WHAT COUNTS. Prove the row's statement (the work); the ties are given (YbulkbtugDoorTie.lean); close each card by the builder's one call (the guide's Derived/Test/ToyasCard.lean, 'card_holds'). Laid BY PROGRAM, IN A SANDBOX (cutbox-door.mjs). By AI agents, Wed Nov 11 2026. No macro, syntax, notation, axiom, sorry.
-/
import Derived.Test.YbulkbtugDoorRows
import GoSem.ClaimSeven
namespace Go.Proofs.YbulkbtugDoor
namespace Rows

/-- THE TIED CARD OF 'ribtrail.LawS3516CRun'. -/
def lawS3516CRunCard : Claim7 := { stood := { row := lawS3516CRunRow, standIns := [], harness := (true, "beb54c75625a5856436b9cec907fbbc260d3d2e2fb9b736a7a6cf82e97c466c4"), looks := true }, kinds := [], alts := [], laidByText := true, laidKinds := [.called], laidTests := true, laidLooks := .later }
def LawS3516CRunCardSaid : Prop := Claim7.holds Ybad.pinned (.plain (OpenSpec.ofChange lawS3516CRunSpec)) lawS3516CRunCard
end Rows
end Go.Proofs.YbulkbtugDoor
