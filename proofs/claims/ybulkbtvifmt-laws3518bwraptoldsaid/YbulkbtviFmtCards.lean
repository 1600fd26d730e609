/-
  DERIVED. GIVEN WITH THE SEED: THE CARDS: each row of YbulkbtviFmtRows.lean that lists a variable, with what it lists TIED to the program's text (the seventh form; the later family's looks); each row that meets fmt, with fmt's text TOLD by the authors' own Lean function (tested against real Go, not proved from fmt's source: count such statements apart). THE CARD IS WHAT COUNTS. Prove the row's statement (the work); the ties are given (YbulkbtviFmtTie.lean); close each card by the builder's one call (the guide's Derived/Test/ToyasCard.lean, 'card_holds'). Laid BY PROGRAM, IN A SANDBOX (cutbox-door.mjs). By AI agents, Wed Nov 11 2026. No macro, syntax, notation, axiom, sorry.
-/
import Derived.Test.YbulkbtviFmtRows
import GoSem.ClaimSeven
namespace Go.Proofs.YbulkbtviFmt
namespace Rows

/-- THE TOLD AND TIED CARD OF 'spoor.LawS3518BWrap'. -/
def lawS3518BWrapCard : Claim7 := { stood := { row := lawS3518BWrapRow, standIns := [], harness := (true, "41b72b2dc6fb24577dca5526e8f85076c67a8c791ffd6202c4c1dee95cc6f138"), looks := true }, told := true, laidByText := true, laidKinds := [.handle], laidTests := true, laidLooks := .later, goes := false }
def LawS3518BWrapToldSaid : Prop := Claim7.holds Ybaf.pinned (.plain (OpenSpec.ofChange lawS3518BWrapSpec)) lawS3518BWrapCard
/-- ITS FALSE NEIGHBOUR. Refute it at one input. -/
def LawS3518BWrapToldWrongFalsely : Prop := Claim7.holds Ybaf.pinned (.plain (OpenSpec.ofChange lawS3518BWrapWrong)) lawS3518BWrapCard
end Rows
end Go.Proofs.YbulkbtviFmt
