/-
  No cell of these rows narrows 'for every input' (looked for: loops, veiled, ifaces, maps, wideKeys, modest, calm, conditions, laid).
  DERIVED. THE GIVEN ROWS OF THIS SEAT. 2 by the template 'for every input the law returns true; each argument reads behind the call as it read before'; 0 by the template 'total and deterministic' (their statements: YbulkbtteTotals.lean).
  GIVEN WITH THE SEED: the statements are not yours to turn. If you find one false, say at which input.
  Laid BY PROGRAM, IN A SANDBOX (cutbox-rows.mjs): the forced cells as the released guide's own fill.sh prints them over the translation e02b38ff66b2a06c… (all of the seat's roots in one cut). By AI agents, Wed Nov 11 2026. No macro, syntax, notation, axiom, sorry.
-/
import Derived.Test.YbulkbtteChecked
import GoSem.Claim
import GoSem.ClaimJoined
import GoSem.ClaimMapViews
import Derived.JoinedTies
import Derived.KernelRfl
namespace Go.Proofs.Ybulkbtte
/- THE CELL 'sum', in the pinned program and in every row, IS THE sha256 OF THE DUMP (.gsa) THAT YbulkbtteProg.lean LOADS. Nothing in Lean hashes anything: it is a label: what it is worth is what the hold of that sum in a sandbox is worth. -/
noncomputable def Yba.pinned : Pinned := { name := "ybulkbtte", sum := "e02b38ff66b2a06c3a93a09059e7c1fb78924ae6bd791ae3039d1daffa9d02e7", checked := Yba.checked }
namespace Rows
def none {H : Type} : Left H := { results := [], args := [] }

/-- 'irc.LawS3514BExact': WHATEVER THE INPUT: true; the input reads as it did. -/
def lawS3514BExactSpec : ChangeSpec := { name := "lawS3514BExact", fn := fun _ => fun
  | [d1, d2, d3, d4] => { results := [.lit (.bool true)], args := [d1, d2, d3, d4] }
  | _ => none }
def lawS3514BExactRow : OpenClaim := { program := "ybulkbtte", sum := "e02b38ff66b2a06c3a93a09059e7c1fb78924ae6bd791ae3039d1daffa9d02e7", func := "example.com/lanternhub/lanternhub/internal/irc.LawS3514BExact", spec := "lawS3514BExact", apart := false }
def LawS3514BExactSaid : Prop := lawS3514BExactRow.holds Yba.pinned (OpenSpec.ofChange lawS3514BExactSpec)

/-- ITS FALSE NEIGHBOUR: 'it returns false'. Refute it at one input. -/
def lawS3514BExactWrong : ChangeSpec := { name := "lawS3514BExact", fn := fun _ => fun
  | [d1, d2, d3, d4] => { results := [.lit (.bool false)], args := [d1, d2, d3, d4] }
  | _ => none }
def LawS3514BExactWrongFalsely : Prop := lawS3514BExactRow.holds Yba.pinned (OpenSpec.ofChange lawS3514BExactWrong)

/-- 'irc.LawS3514BAppend': WHATEVER THE INPUT: true; the input reads as it did. -/
def lawS3514BAppendSpec : ChangeSpec := { name := "lawS3514BAppend", fn := fun _ => fun
  | [d1, d2, d3, d4, d5] => { results := [.lit (.bool true)], args := [d1, d2, d3, d4, d5] }
  | _ => none }
def lawS3514BAppendRow : OpenClaim := { program := "ybulkbtte", sum := "e02b38ff66b2a06c3a93a09059e7c1fb78924ae6bd791ae3039d1daffa9d02e7", func := "example.com/lanternhub/lanternhub/internal/irc.LawS3514BAppend", spec := "lawS3514BAppend", apart := false }
def LawS3514BAppendSaid : Prop := lawS3514BAppendRow.holds Yba.pinned (OpenSpec.ofChange lawS3514BAppendSpec)

/-- ITS FALSE NEIGHBOUR: 'it returns false'. Refute it at one input. -/
def lawS3514BAppendWrong : ChangeSpec := { name := "lawS3514BAppend", fn := fun _ => fun
  | [d1, d2, d3, d4, d5] => { results := [.lit (.bool false)], args := [d1, d2, d3, d4, d5] }
  | _ => none }
def LawS3514BAppendWrongFalsely : Prop := lawS3514BAppendRow.holds Yba.pinned (OpenSpec.ofChange lawS3514BAppendWrong)

end Rows
end Go.Proofs.Ybulkbtte
