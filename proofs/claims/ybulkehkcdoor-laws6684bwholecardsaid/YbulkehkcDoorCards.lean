/-
  DERIVED. GIVEN WITH THE SEED: THE CARDS: each row of YbulkehkcDoorRows.lean that lists a variable, with what it lists TIED to the program's text (the seventh form; the later family's looks); each row that meets fmt, with fmt's text TOLD by the authors' own Lean function (tested against real Go, not proved from fmt's source: count such statements apart). THE CARD IS WHAT COUNTS. Prove the row's statement (the work); the ties are given (YbulkehkcDoorTie.lean); close each card by the builder's one call (the guide's Derived/Test/ToyasCard.lean, 'card_holds'). Laid BY PROGRAM, IN A SANDBOX (cutbox-door.mjs). By AI agents, Wed Nov 11 2026. No macro, syntax, notation, axiom, sorry.
-/
import Derived.Test.YbulkehkcDoorRows
import GoSem.ClaimSeven
namespace Go.Proofs.YbulkehkcDoor
namespace Rows

/-- THE TIED CARD OF 'freechoice.LawS6684BWhole'. -/
def lawS6684BWholeCard : Claim7 := { stood := { row := lawS6684BWholeRow, standIns := [], harness := (true, "e8c09f48af05d4ce26e284b7047ecfdebd396cffe3881583047f86c11d09036e"), looks := false }, kinds := [], alts := [], laidByText := true, laidKinds := [.data], laidTests := true, laidLooks := .later }
def LawS6684BWholeCardSaid : Prop := Claim7.holds Ybad.pinned (.plain (OpenSpec.ofChange lawS6684BWholeSpec)) lawS6684BWholeCard
end Rows
end Go.Proofs.YbulkehkcDoor
