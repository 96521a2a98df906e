/-
  DERIVED. GIVEN WITH THE SEED: THE CARDS: each row of YbulkeihuDoorRows.lean that lists a variable, with what it lists TIED to the program's text (the seventh form; the later family's looks); each row that meets fmt, with fmt's text TOLD by the authors' own Lean function (tested against real Go, not proved from fmt's source: count such statements apart). THE CARD IS WHAT COUNTS. Prove the row's statement (the work); the ties are given (YbulkeihuDoorTie.lean); close each card by the builder's one call (the guide's Derived/Test/ToyasCard.lean, 'card_holds'). Laid BY PROGRAM, IN A SANDBOX (cutbox-door.mjs). By AI agents, Wed Nov 11 2026. No macro, syntax, notation, axiom, sorry.
-/
import Derived.Test.YbulkeihuDoorRows
import GoSem.ClaimSeven
namespace Go.Proofs.YbulkeihuDoor
namespace Rows

/-- THE TIED CARD OF 'unfussy-lifecycle.LawS6728BWhole'. -/
def lawS6728BWholeCard : Claim7 := { stood := { row := lawS6728BWholeRow, standIns := [], harness := (true, "6a79fcabfc7d59d9a01cdc4222399531af5c2d1ef4084cfa2e94c150f02cc898"), looks := true }, kinds := [], alts := [], laidByText := true, laidKinds := [.called], laidTests := true, laidLooks := .later }
def LawS6728BWholeCardSaid : Prop := Claim7.holds Ybad.pinned (.plain (OpenSpec.ofChange lawS6728BWholeSpec)) lawS6728BWholeCard
end Rows
end Go.Proofs.YbulkeihuDoor
