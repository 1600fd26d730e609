/-
  NARROWER THAN 'FOR EVERY INPUT', by the rows' own cells (each row's printed sentence says how): LawS3518BWrap: laid.
  DERIVED. THE GIVEN ROWS OF THIS SEAT. 1 by the template 'for every input the law returns true; each argument reads behind the call as it read before'; 0 by the template 'total and deterministic' (their statements: YbulkbtviFmtTotals.lean).
  GIVEN WITH THE SEED: the statements are not yours to turn. If you find one false, say at which input.
  Laid BY PROGRAM, IN A SANDBOX (cutbox-rows.mjs): the forced cells as the released guide's own fill.sh prints them over the translation b9e8c79c63b8c02f… (all of the seat's roots in one cut). By AI agents, Wed Nov 11 2026. No macro, syntax, notation, axiom, sorry.
-/
import Derived.Test.YbulkbtviFmtChecked
import GoSem.Claim
import GoSem.ClaimJoined
import GoSem.ClaimMapViews
import Derived.JoinedTies
import Derived.KernelRfl
namespace Go.Proofs.YbulkbtviFmt
/- THE CELL 'sum', in the pinned program and in every row, IS THE sha256 OF THE DUMP (.gsa) THAT YbulkbtviFmtProg.lean LOADS. Nothing in Lean hashes anything: it is a label: what it is worth is what the hold of that sum in a sandbox is worth. -/
noncomputable def Ybaf.pinned : Pinned := { name := "ybulkbtvifmt", sum := "b9e8c79c63b8c02fc49d30b061c4c88c51435c9db1eb2f92b3fe02d775f83173", checked := Ybaf.checked }
namespace Rows
def none {H : Type} : Left H := { results := [], args := [] }

/- WHAT THE LISTED PACKAGE-LEVEL VARIABLES READ AS WHEN THE CALL BEGINS. Each datum BY PROGRAM (the guide's laid-datum.mjs) off the statement by which the dump's own 'gosem.cut.vars' lays the variable. In a bare row this is a premise. The card (YbulkbtviFmtCards.lean) ties it to the program's text. -/
def laid_errors_errorType {H : Type} : DataW H := .iface "internal/reflectlite.rtype" (.agg [.ptr (.lit (.string [101, 114, 114, 111, 114]))])

/-- 'spoor.LawS3518BWrap': WHATEVER THE INPUT: true; the input reads as it did. -/
def lawS3518BWrapSpec : ChangeSpec := { name := "lawS3518BWrap", fn := fun _ => fun
  | [d1, d2, d3] => { results := [.lit (.bool true)], args := [d1, d2, d3] }
  | _ => none }
def lawS3518BWrapRow : OpenClaim := { program := "ybulkbtvifmt", sum := "b9e8c79c63b8c02fc49d30b061c4c88c51435c9db1eb2f92b3fe02d775f83173", func := "example.com/spoor/spoor.LawS3518BWrap", spec := "lawS3518BWrap", stops := ["fmt.errorf, its operands' methods called"], inPlace := ["fmt.errorf", "internal/reflectlite.TypeOf", "internal/reflectlite.ValueOf", "(internal/reflectlite.Value).Type", "(internal/reflectlite.Value).IsNil", "(internal/reflectlite.Value).Elem", "(internal/reflectlite.Value).Set"], unfollowed := true, recurses := true, named := ["errors.errorType"], apart := false, laid := [("errors.errorType", laid_errors_errorType)] }
/-- NO THEOREM (fmt's text is open here; it may be false): for the released tool's asking of the row's closed facts alone. THE STATEMENT IS 'LawS3518BWrapToldSaid' (YbulkbtviFmtCards.lean). -/
def LawS3518BWrapFormAsk : Prop := lawS3518BWrapRow.holds Ybaf.pinned (OpenSpec.ofChange lawS3518BWrapSpec)

/-- ITS FALSE NEIGHBOUR: 'it returns false'. Refute it at one input. -/
def lawS3518BWrapWrong : ChangeSpec := { name := "lawS3518BWrap", fn := fun _ => fun
  | [d1, d2, d3] => { results := [.lit (.bool false)], args := [d1, d2, d3] }
  | _ => none }
def LawS3518BWrapWrongFormAsk : Prop := lawS3518BWrapRow.holds Ybaf.pinned (OpenSpec.ofChange lawS3518BWrapWrong)

end Rows
end Go.Proofs.YbulkbtviFmt
