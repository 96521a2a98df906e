/-
  NARROWER THAN 'FOR EVERY INPUT', by the rows' own cells (each row's printed sentence says how): LawS6728BWhole: ifaces, laid.
  DERIVED. THE GIVEN ROWS OF THIS SEAT. 1 by the template 'for every input the law returns true; each argument reads behind the call as it read before'; 0 by the template 'total and deterministic' (their statements: YbulkeihuDoorTotals.lean).
  GIVEN WITH THE SEED: the statements are not yours to turn. If you find one false, say at which input.
  Laid BY PROGRAM, IN A SANDBOX (cutbox-rows.mjs): the forced cells as the released guide's own fill.sh prints them over the translation f37b1214a6f076a7… (all of the seat's roots in one cut). By AI agents, Wed Nov 11 2026. No macro, syntax, notation, axiom, sorry.
-/
import Derived.Test.YbulkeihuDoorChecked
import GoSem.Claim
import GoSem.ClaimJoined
import GoSem.ClaimMapViews
import Derived.JoinedTies
import Derived.KernelRfl
namespace Go.Proofs.YbulkeihuDoor
/- THE CELL 'sum', in the pinned program and in every row, IS THE sha256 OF THE DUMP (.gsa) THAT YbulkeihuDoorProg.lean LOADS. Nothing in Lean hashes anything: it is a label: what it is worth is what the hold of that sum in a sandbox is worth. -/
noncomputable def Ybad.pinned : Pinned := { name := "ybulkeihudoor", sum := "f37b1214a6f076a7d9297fa544623e9616e8e285bb83e4d434474ffc8e1f795d", checked := Ybad.checked }
namespace Rows
def none {H : Type} : Left H := { results := [], args := [] }

/- WHAT THE LISTED PACKAGE-LEVEL VARIABLES READ AS WHEN THE CALL BEGINS. Each datum BY PROGRAM (the guide's laid-datum.mjs) off the statement by which the dump's own 'gosem.cut.vars' lays the variable. In a bare row this is a premise. The card (YbulkeihuDoorCards.lean) ties it to the program's text. -/
def laid_example_com_unfussy_lifecycle_unfussy_lifecycle_errStopAsked {H : Type} : DataW H := .iface "*errors.errorString" (.ptr (.agg [.lit (.string [108, 105, 102, 101, 99, 121, 99, 108, 101, 58, 32, 115, 116, 111, 112, 32, 97, 115, 107, 101, 100])]))

/-- 'unfussy-lifecycle.LawS6728BWhole': WHATEVER THE INPUT: true; the input reads as it did. -/
def lawS6728BWholeSpec : ChangeSpec := { name := "lawS6728BWhole", vars := ["example.com/unfussy-lifecycle/unfussy-lifecycle.errStopAsked"], fn := fun _ => fun
  | [d1, d2, d3, g1] => { results := [.lit (.bool true)], args := [d1, d2, d3], vars := [g1] }
  | _ => none }
def lawS6728BWholeRow : OpenClaim := { program := "ybulkeihudoor", sum := "f37b1214a6f076a7d9297fa544623e9616e8e285bb83e4d434474ffc8e1f795d", func := "example.com/unfussy-lifecycle/unfussy-lifecycle.LawS6728BWhole", spec := "lawS6728BWhole", named := ["example.com/unfussy-lifecycle/unfussy-lifecycle.errStopAsked"], ifaces := true, apart := false, laid := [("example.com/unfussy-lifecycle/unfussy-lifecycle.errStopAsked", laid_example_com_unfussy_lifecycle_unfussy_lifecycle_errStopAsked)] }
def LawS6728BWholeSaid : Prop := lawS6728BWholeRow.holds Ybad.pinned (OpenSpec.ofChange lawS6728BWholeSpec)

/-- ITS FALSE NEIGHBOUR: 'it returns false'. Refute it at one input. -/
def lawS6728BWholeWrong : ChangeSpec := { name := "lawS6728BWhole", vars := ["example.com/unfussy-lifecycle/unfussy-lifecycle.errStopAsked"], fn := fun _ => fun
  | [d1, d2, d3, g1] => { results := [.lit (.bool false)], args := [d1, d2, d3], vars := [g1] }
  | _ => none }
def LawS6728BWholeWrongFalsely : Prop := lawS6728BWholeRow.holds Ybad.pinned (OpenSpec.ofChange lawS6728BWholeWrong)

end Rows
end Go.Proofs.YbulkeihuDoor
