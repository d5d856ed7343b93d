/-
  DERIVED. GIVEN WITH THE SEED: THE CARDS: each row of YbulkdqeqDoorRows.lean that lists a variable, with what it lists TIED to the program's text (the seventh form; the later family's looks); each row that meets fmt, with fmt's text TOLD by the authors' own Lean function (tested against real Go, not proved from fmt's source: count such statements apart). THE CARD IS WHAT COUNTS. Prove the row's statement (the work); the ties are given (YbulkdqeqDoorTie.lean); close each card by the builder's one call (the guide's Derived/Test/ToyasCard.lean, 'card_holds'). Laid BY PROGRAM, IN A SANDBOX (cutbox-door.mjs). By AI agents, Wed Nov 11 2026. No macro, syntax, notation, axiom, sorry.
-/
import Derived.Test.YbulkdqeqDoorRows
import GoSem.ClaimSeven
namespace Go.Proofs.YbulkdqeqDoor
namespace Rows

/-- THE TIED CARD OF 'tideway.LawS5853AWhole'. -/
def lawS5853AWholeCard : Claim7 := { stood := { row := lawS5853AWholeRow, standIns := [], harness := (true, "2ffb3fc496eb829a122126775c54a046b8eab264d9746a19e68c88d084817e0f"), looks := false }, kinds := [], alts := [], laidByText := true, laidKinds := [.data, .data, .data, .called, .called, .zero], laidTests := true, laidLooks := .later }
def LawS5853AWholeCardSaid : Prop := Claim7.holds Ybad.pinned (.plain (OpenSpec.ofChange lawS5853AWholeSpec)) lawS5853AWholeCard
end Rows
end Go.Proofs.YbulkdqeqDoor
