/-
  NARROWER THAN 'FOR EVERY INPUT', by the rows' own cells (each row's printed sentence says how): LawS3516CRun: laid.
  DERIVED. THE GIVEN ROWS OF THIS SEAT. 1 by the template 'for every input the law returns true; each argument reads behind the call as it read before'; 0 by the template 'total and deterministic' (their statements: YbulkbtugDoorTotals.lean).
  GIVEN WITH THE SEED: the statements are not yours to turn. If you find one false, say at which input.
  Laid BY PROGRAM, IN A SANDBOX (cutbox-rows.mjs): the forced cells as the released guide's own fill.sh prints them over the translation 9dc1e1b96151a1b4… (all of the seat's roots in one cut). By AI agents, Wed Nov 11 2026. No macro, syntax, notation, axiom, sorry.
-/
import Derived.Test.YbulkbtugDoorChecked
import GoSem.Claim
import GoSem.ClaimJoined
import GoSem.ClaimMapViews
import Derived.JoinedTies
import Derived.KernelRfl
namespace Go.Proofs.YbulkbtugDoor
/- THE CELL 'sum', in the pinned program and in every row, IS THE sha256 OF THE DUMP (.gsa) THAT YbulkbtugDoorProg.lean LOADS. Nothing in Lean hashes anything: it is a label: what it is worth is what the hold of that sum in a sandbox is worth. -/
noncomputable def Ybad.pinned : Pinned := { name := "ybulkbtugdoor", sum := "9dc1e1b96151a1b48c5eaeec670af60dcdb3e7d5b8f65937b60573fca7a61496", checked := Ybad.checked }
namespace Rows
def none {H : Type} : Left H := { results := [], args := [] }

/- WHAT THE LISTED PACKAGE-LEVEL VARIABLES READ AS WHEN THE CALL BEGINS. Each datum BY PROGRAM (the guide's laid-datum.mjs) off the statement by which the dump's own 'gosem.cut.vars' lays the variable. In a bare row this is a premise. The card (YbulkbtugDoorCards.lean) ties it to the program's text. -/
def laid_net_netip_z4 {H : Type} : DataW H := .agg [.ptr (.agg [.lit (.bool false), .lit (.string [])])]

/-- 'ribtrail.LawS3516CRun': WHATEVER THE INPUT: true; the input reads as it did. -/
def lawS3516CRunSpec : ChangeSpec := { name := "lawS3516CRun", fn := fun _ => fun
  | [d1, d2] => { results := [.lit (.bool true)], args := [d1, d2] }
  | _ => none }
def lawS3516CRunRow : OpenClaim := { program := "ybulkbtugdoor", sum := "9dc1e1b96151a1b48c5eaeec670af60dcdb3e7d5b8f65937b60573fca7a61496", func := "example.com/ribtrail/ribtrail.LawS3516CRun", spec := "lawS3516CRun", named := ["net/netip.z4"], apart := false, laid := [("net/netip.z4", laid_net_netip_z4)] }
def LawS3516CRunSaid : Prop := lawS3516CRunRow.holds Ybad.pinned (OpenSpec.ofChange lawS3516CRunSpec)

/-- ITS FALSE NEIGHBOUR: 'it returns false'. Refute it at one input. -/
def lawS3516CRunWrong : ChangeSpec := { name := "lawS3516CRun", fn := fun _ => fun
  | [d1, d2] => { results := [.lit (.bool false)], args := [d1, d2] }
  | _ => none }
def LawS3516CRunWrongFalsely : Prop := lawS3516CRunRow.holds Ybad.pinned (OpenSpec.ofChange lawS3516CRunWrong)

end Rows
end Go.Proofs.YbulkbtugDoor
