/-
  No cell of these rows narrows 'for every input' (looked for: loops, veiled, ifaces, maps, wideKeys, modest, calm, conditions, laid).
  DERIVED. THE GIVEN ROWS OF THIS SEAT. 1 by the template 'for every input the law returns true; each argument reads behind the call as it read before'; 0 by the template 'total and deterministic' (their statements: YbulkeifqGreatTotals.lean).
  GIVEN WITH THE SEED: the statements are not yours to turn. If you find one false, say at which input.
  Laid BY PROGRAM, IN A SANDBOX (cutbox-rows.mjs): the forced cells as the released guide's own fill.sh prints them over the translation ed061f65ae9961eb… (all of the seat's roots in one cut). By AI agents, Wed Nov 11 2026. No macro, syntax, notation, axiom, sorry.
-/
import Derived.Test.YbulkeifqGreatChecked
import GoSem.Claim
import GoSem.ClaimJoined
import GoSem.ClaimMapViews
import Derived.JoinedTies
import Derived.KernelRfl
namespace Go.Proofs.YbulkeifqGreat
/- THE CELL 'sum', in the pinned program and in every row, IS THE sha256 OF THE DUMP (.gsa) THAT YbulkeifqGreatProg.lean LOADS. Nothing in Lean hashes anything: it is a label: what it is worth is what the hold of that sum in a sandbox is worth. -/
noncomputable def Ybaz.pinned : Pinned := { name := "ybulkeifqgreat", sum := "ed061f65ae9961eb749b1e316974f1ecaf02f9a35372bee04536b334805d96a1", checked := Ybaz.checked }
namespace Rows
def none {H : Type} : Left H := { results := [], args := [] }

/-- 'engine.LawS6724AWhole': WHATEVER THE INPUT: true; the input reads as it did. -/
def lawS6724AWholeSpec : ChangeSpec := { name := "lawS6724AWhole", fn := fun _ => fun
  | [d1, d2, d3] => { results := [.lit (.bool true)], args := [d1, d2, d3] }
  | _ => none }
def lawS6724AWholeRow : OpenClaim := { program := "ybulkeifqgreat", sum := "ed061f65ae9961eb749b1e316974f1ecaf02f9a35372bee04536b334805d96a1", func := "example.com/overlace/overlace/engine.LawS6724AWhole", spec := "lawS6724AWhole", inPlace := ["internal/bytealg.abigen_runtime_cmpstring"], unfollowed := true, recurses := true, named := ["encoding/binary.LittleEndian", "encoding/binary.BigEndian"], plainKeys := false, apart := false }
def LawS6724AWholeSaid : Prop := lawS6724AWholeRow.holds Ybaz.pinned (OpenSpec.ofChange lawS6724AWholeSpec)

/-- ITS FALSE NEIGHBOUR: 'it returns false'. Refute it at one input. -/
def lawS6724AWholeWrong : ChangeSpec := { name := "lawS6724AWhole", fn := fun _ => fun
  | [d1, d2, d3] => { results := [.lit (.bool false)], args := [d1, d2, d3] }
  | _ => none }
def LawS6724AWholeWrongFalsely : Prop := lawS6724AWholeRow.holds Ybaz.pinned (OpenSpec.ofChange lawS6724AWholeWrong)

end Rows
end Go.Proofs.YbulkeifqGreat
