/-
  No cell of these rows narrows 'for every input' (looked for: loops, veiled, ifaces, maps, wideKeys, modest, calm, conditions, laid).
  DERIVED. THE GIVEN ROWS OF THIS SEAT. 2 by the template 'for every input the law returns true; each argument reads behind the call as it read before'; 0 by the template 'total and deterministic' (their statements: YbulkeigeTotals.lean).
  GIVEN WITH THE SEED: the statements are not yours to turn. If you find one false, say at which input.
  Laid BY PROGRAM, IN A SANDBOX (cutbox-rows.mjs): the forced cells as the released guide's own fill.sh prints them over the translation 9c3d31a1956f81c0… (all of the seat's roots in one cut). By AI agents, Wed Nov 11 2026. No macro, syntax, notation, axiom, sorry.
-/
import Derived.Test.YbulkeigeChecked
import GoSem.Claim
import GoSem.ClaimJoined
import GoSem.ClaimMapViews
import Derived.JoinedTies
import Derived.KernelRfl
namespace Go.Proofs.Ybulkeige
/- THE CELL 'sum', in the pinned program and in every row, IS THE sha256 OF THE DUMP (.gsa) THAT YbulkeigeProg.lean LOADS. Nothing in Lean hashes anything: it is a label: what it is worth is what the hold of that sum in a sandbox is worth. -/
noncomputable def Yba.pinned : Pinned := { name := "ybulkeige", sum := "9c3d31a1956f81c0efc171650f11639d9ec98701371291555bc094dbb07b4e82", checked := Yba.checked }
namespace Rows
def none {H : Type} : Left H := { results := [], args := [] }

/-- 'packet.LawS6725BWhole': WHATEVER THE INPUT: true; the input reads as it did. -/
def lawS6725BWholeSpec : ChangeSpec := { name := "lawS6725BWhole", fn := fun _ => fun
  | [d1, d2] => { results := [.lit (.bool true)], args := [d1, d2] }
  | _ => none }
def lawS6725BWholeRow : OpenClaim := { program := "ybulkeige", sum := "9c3d31a1956f81c0efc171650f11639d9ec98701371291555bc094dbb07b4e82", func := "example.com/sealwright/sealwright/packet.LawS6725BWhole", spec := "lawS6725BWhole", named := ["encoding/binary.BigEndian"], apart := false }
def LawS6725BWholeSaid : Prop := lawS6725BWholeRow.holds Yba.pinned (OpenSpec.ofChange lawS6725BWholeSpec)

/-- ITS FALSE NEIGHBOUR: 'it returns false'. Refute it at one input. -/
def lawS6725BWholeWrong : ChangeSpec := { name := "lawS6725BWhole", fn := fun _ => fun
  | [d1, d2] => { results := [.lit (.bool false)], args := [d1, d2] }
  | _ => none }
def LawS6725BWholeWrongFalsely : Prop := lawS6725BWholeRow.holds Yba.pinned (OpenSpec.ofChange lawS6725BWholeWrong)

/-- 'packet.LawS6725BAppend': WHATEVER THE INPUT: true; the input reads as it did. -/
def lawS6725BAppendSpec : ChangeSpec := { name := "lawS6725BAppend", fn := fun _ => fun
  | [d1, d2, d3] => { results := [.lit (.bool true)], args := [d1, d2, d3] }
  | _ => none }
def lawS6725BAppendRow : OpenClaim := { program := "ybulkeige", sum := "9c3d31a1956f81c0efc171650f11639d9ec98701371291555bc094dbb07b4e82", func := "example.com/sealwright/sealwright/packet.LawS6725BAppend", spec := "lawS6725BAppend", named := ["encoding/binary.BigEndian"], apart := false }
def LawS6725BAppendSaid : Prop := lawS6725BAppendRow.holds Yba.pinned (OpenSpec.ofChange lawS6725BAppendSpec)

/-- ITS FALSE NEIGHBOUR: 'it returns false'. Refute it at one input. -/
def lawS6725BAppendWrong : ChangeSpec := { name := "lawS6725BAppend", fn := fun _ => fun
  | [d1, d2, d3] => { results := [.lit (.bool false)], args := [d1, d2, d3] }
  | _ => none }
def LawS6725BAppendWrongFalsely : Prop := lawS6725BAppendRow.holds Yba.pinned (OpenSpec.ofChange lawS6725BAppendWrong)

end Rows
end Go.Proofs.Ybulkeige
