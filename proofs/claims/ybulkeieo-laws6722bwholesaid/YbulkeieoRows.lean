/-
  No cell of these rows narrows 'for every input' (looked for: loops, veiled, ifaces, maps, wideKeys, modest, calm, conditions, laid).
  DERIVED. THE GIVEN ROWS OF THIS SEAT. 1 by the template 'for every input the law returns true; each argument reads behind the call as it read before'; 0 by the template 'total and deterministic' (their statements: YbulkeieoTotals.lean).
  GIVEN WITH THE SEED: the statements are not yours to turn. If you find one false, say at which input.
  Laid BY PROGRAM, IN A SANDBOX (cutbox-rows.mjs): the forced cells as the released guide's own fill.sh prints them over the translation d6ff0a8df53956df… (all of the seat's roots in one cut). By AI agents, Wed Nov 11 2026. No macro, syntax, notation, axiom, sorry.
-/
import Derived.Test.YbulkeieoChecked
import GoSem.Claim
import GoSem.ClaimJoined
import GoSem.ClaimMapViews
import Derived.JoinedTies
import Derived.KernelRfl
namespace Go.Proofs.Ybulkeieo
/- THE CELL 'sum', in the pinned program and in every row, IS THE sha256 OF THE DUMP (.gsa) THAT YbulkeieoProg.lean LOADS. Nothing in Lean hashes anything: it is a label: what it is worth is what the hold of that sum in a sandbox is worth. -/
noncomputable def Yba.pinned : Pinned := { name := "ybulkeieo", sum := "d6ff0a8df53956dff9462896dbd21eed683bf7edac457bea0ab9539dc9228d4e", checked := Yba.checked }
namespace Rows
def none {H : Type} : Left H := { results := [], args := [] }

/-- 'gopher.LawS6722BWhole': WHATEVER THE INPUT: true; the input reads as it did. -/
def lawS6722BWholeSpec : ChangeSpec := { name := "lawS6722BWhole", fn := fun _ => fun
  | [d1, d2] => { results := [.lit (.bool true)], args := [d1, d2] }
  | _ => none }
def lawS6722BWholeRow : OpenClaim := { program := "ybulkeieo", sum := "d6ff0a8df53956dff9462896dbd21eed683bf7edac457bea0ab9539dc9228d4e", func := "example.com/geomys/geomys/internal/gopher.LawS6722BWhole", spec := "lawS6722BWhole", apart := false }
def LawS6722BWholeSaid : Prop := lawS6722BWholeRow.holds Yba.pinned (OpenSpec.ofChange lawS6722BWholeSpec)

/-- ITS FALSE NEIGHBOUR: 'it returns false'. Refute it at one input. -/
def lawS6722BWholeWrong : ChangeSpec := { name := "lawS6722BWhole", fn := fun _ => fun
  | [d1, d2] => { results := [.lit (.bool false)], args := [d1, d2] }
  | _ => none }
def LawS6722BWholeWrongFalsely : Prop := lawS6722BWholeRow.holds Yba.pinned (OpenSpec.ofChange lawS6722BWholeWrong)

end Rows
end Go.Proofs.Ybulkeieo
