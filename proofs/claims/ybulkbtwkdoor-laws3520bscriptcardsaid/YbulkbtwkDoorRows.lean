/-
  NARROWER THAN 'FOR EVERY INPUT', by the rows' own cells (each row's printed sentence says how): LawS3520BScript: laid.
  DERIVED. THE GIVEN ROWS OF THIS SEAT. 1 by the template 'for every input the law returns true; each argument reads behind the call as it read before'; 0 by the template 'total and deterministic' (their statements: YbulkbtwkDoorTotals.lean).
  GIVEN WITH THE SEED: the statements are not yours to turn. If you find one false, say at which input.
  Laid BY PROGRAM, IN A SANDBOX (cutbox-rows.mjs): the forced cells as the released guide's own fill.sh prints them over the translation 021071a2cfe503fb… (all of the seat's roots in one cut). By AI agents, Wed Nov 11 2026. No macro, syntax, notation, axiom, sorry.
-/
import Derived.Test.YbulkbtwkDoorChecked
import GoSem.Claim
import GoSem.ClaimJoined
import GoSem.ClaimMapViews
import Derived.JoinedTies
import Derived.KernelRfl
namespace Go.Proofs.YbulkbtwkDoor
/- THE CELL 'sum', in the pinned program and in every row, IS THE sha256 OF THE DUMP (.gsa) THAT YbulkbtwkDoorProg.lean LOADS. Nothing in Lean hashes anything: it is a label: what it is worth is what the hold of that sum in a sandbox is worth. -/
noncomputable def Ybad.pinned : Pinned := { name := "ybulkbtwkdoor", sum := "021071a2cfe503fbeab2ac544f8f42a3bca0b4c681cecefd4559d71ea1941ba2", checked := Ybad.checked }
namespace Rows
def none {H : Type} : Left H := { results := [], args := [] }

/- WHAT THE LISTED PACKAGE-LEVEL VARIABLES READ AS WHEN THE CALL BEGINS. Each datum BY PROGRAM (the guide's laid-datum.mjs) off the statement by which the dump's own 'gosem.cut.vars' lays the variable. In a bare row this is a premise. The card (YbulkbtwkDoorCards.lean) ties it to the program's text. -/
def laid_example_com_lockwright_lockwright_internal_lock_maxScanned {H : Type} : DataW H := .lit (.int .i64 8)

/-- 'lock.LawS3520BScript': WHATEVER THE INPUT: true; the input reads as it did. -/
def lawS3520BScriptSpec : ChangeSpec := { name := "lawS3520BScript", vars := ["example.com/lockwright/lockwright/internal/lock.maxScanned"], fn := fun _ => fun
  | [d, g1] => { results := [.lit (.bool true)], args := [d], vars := [g1] }
  | _ => none }
def lawS3520BScriptRow : OpenClaim := { program := "ybulkbtwkdoor", sum := "021071a2cfe503fbeab2ac544f8f42a3bca0b4c681cecefd4559d71ea1941ba2", func := "example.com/lockwright/lockwright/internal/lock.LawS3520BScript", spec := "lawS3520BScript", unfollowed := true, recurses := true, named := ["example.com/lockwright/lockwright/internal/lock.maxScanned"], apart := false, laid := [("example.com/lockwright/lockwright/internal/lock.maxScanned", laid_example_com_lockwright_lockwright_internal_lock_maxScanned)] }
def LawS3520BScriptSaid : Prop := lawS3520BScriptRow.holds Ybad.pinned (OpenSpec.ofChange lawS3520BScriptSpec)

/-- ITS FALSE NEIGHBOUR: 'it returns false'. Refute it at one input. -/
def lawS3520BScriptWrong : ChangeSpec := { name := "lawS3520BScript", vars := ["example.com/lockwright/lockwright/internal/lock.maxScanned"], fn := fun _ => fun
  | [d, g1] => { results := [.lit (.bool false)], args := [d], vars := [g1] }
  | _ => none }
def LawS3520BScriptWrongFalsely : Prop := lawS3520BScriptRow.holds Ybad.pinned (OpenSpec.ofChange lawS3520BScriptWrong)

end Rows
end Go.Proofs.YbulkbtwkDoor
