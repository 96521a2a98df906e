/-
  THE LAW's STATEMENTS, taken out of the translation by a function.
-/
import Derived.Test.YbulkeifqGreatLawStatic
import Derived.Test.YbulkeifqGreatDistWalk
namespace Go.Proofs.YbulkeifqGreat
open Go.RowKit Go.Maps
set_option linter.unusedVariables false

def dropS : Nat → Code → Code
  | 0, c => c
  | k + 1, .seq _ b => dropS k b
  | _ + 1, c => c
def headS : Code → Code
  | .seq a _ => a
  | c => c
def tailS : Code → Code
  | .seq _ b => b
  | c => c
/-- The law's body. -/
noncomputable def bodyC : Code := Ybaz.f3.body.getD .skip
/-- The law's own post. -/
def lawPost (w0 : World) : Exit → Act → World → Prop := bodyPost Ybaz.prog Ybaz.f3 fun e w' => e = .returned (.bool true) ∧ Below w0.heap.size w0 w'
end Go.Proofs.YbulkeifqGreat
