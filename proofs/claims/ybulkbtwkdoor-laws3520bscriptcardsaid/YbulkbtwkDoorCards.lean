/-
  DERIVED. GIVEN WITH THE SEED: THE CARDS: each row of YbulkbtwkDoorRows.lean that lists a variable, with what it lists TIED to the program's text (the seventh form; the later family's looks); each row that meets fmt, with fmt's text TOLD by the authors' own Lean function (tested against real Go, not proved from fmt's source: count such statements apart). THE CARD IS WHAT COUNTS. Prove the row's statement (the work); the ties are given (YbulkbtwkDoorTie.lean); close each card by the builder's one call (the guide's Derived/Test/ToyasCard.lean, 'card_holds'). Laid BY PROGRAM, IN A SANDBOX (cutbox-door.mjs). By AI agents, Wed Nov 11 2026. No macro, syntax, notation, axiom, sorry.
-/
import Derived.Test.YbulkbtwkDoorRows
import GoSem.ClaimSeven
namespace Go.Proofs.YbulkbtwkDoor
namespace Rows

/-- THE TIED CARD OF 'lock.LawS3520BScript'. -/
def lawS3520BScriptCard : Claim7 := { stood := { row := lawS3520BScriptRow, standIns := [], harness := (true, "8e97e89856290a67df4639a4c4de934ec53d5aa99edb81e20ca2abed2eb816d3"), looks := false }, kinds := [], alts := [], laidByText := true, laidKinds := [.data], laidTests := true, laidLooks := .later }
def LawS3520BScriptCardSaid : Prop := Claim7.holds Ybad.pinned (.plain (OpenSpec.ofChange lawS3520BScriptSpec)) lawS3520BScriptCard
end Rows
end Go.Proofs.YbulkbtwkDoor
