/-
  DERIVED. GIVEN WITH THE SEED: THE CARDS: each row of YbulkdufqDoorRows.lean that lists a variable, with what it lists TIED to the program's text (the seventh form; the later family's looks); each row that meets fmt, with fmt's text TOLD by the authors' own Lean function (tested against real Go, not proved from fmt's source: count such statements apart). THE CARD IS WHAT COUNTS. Prove the row's statement (the work); the ties are given (YbulkdufqDoorTie.lean); close each card by the builder's one call (the guide's Derived/Test/ToyasCard.lean, 'card_holds'). Laid BY PROGRAM, IN A SANDBOX (cutbox-door.mjs). By AI agents, Wed Nov 11 2026. No macro, syntax, notation, axiom, sorry.
-/
import Derived.Test.YbulkdufqDoorRows
import GoSem.ClaimSeven
namespace Go.Proofs.YbulkdufqDoor
namespace Rows

/-- THE TIED CARD OF 'fix.LawS6048BWhole'. -/
def lawS6048BWholeCard : Claim7 := { stood := { row := lawS6048BWholeRow, standIns := [], harness := (true, "de3aef2642911eadc2cadf20a3b59f8d57e968fa033f4d84e41c2fad07feadc8"), looks := false }, kinds := [], alts := [], laidByText := true, laidKinds := [.data, .data, .data], laidTests := true, laidLooks := .later }
def LawS6048BWholeCardSaid : Prop := Claim7.holds Ybad.pinned (.plain (OpenSpec.ofChange lawS6048BWholeSpec)) lawS6048BWholeCard
end Rows
end Go.Proofs.YbulkdufqDoor
