/-
  DERIVED. GIVEN WITH THE SEED: THE CARDS: each row of YbulkdqecDoorRows.lean that lists a variable, with what it lists TIED to the program's text (the seventh form; the later family's looks); each row that meets fmt, with fmt's text TOLD by the authors' own Lean function (tested against real Go, not proved from fmt's source: count such statements apart). THE CARD IS WHAT COUNTS. Prove the row's statement (the work); the ties are given (YbulkdqecDoorTie.lean); close each card by the builder's one call (the guide's Derived/Test/ToyasCard.lean, 'card_holds'). Laid BY PROGRAM, IN A SANDBOX (cutbox-door.mjs). By AI agents, Wed Nov 11 2026. No macro, syntax, notation, axiom, sorry.
-/
import Derived.Test.YbulkdqecDoorRows
import GoSem.ClaimSeven
namespace Go.Proofs.YbulkdqecDoor
namespace Rows

/-- THE TIED CARD OF 'spanwright.LawS5852AWhole'. -/
def lawS5852AWholeCard : Claim7 := { stood := { row := lawS5852AWholeRow, standIns := [], harness := (true, "283b913a84cc5f14a195fe31f2cd4247137d05a9d7426fee6e114bfc1f35ea5e"), looks := false }, kinds := [], alts := [], laidByText := true, laidKinds := [.widerDeep], laidTests := true, laidLooks := .later }
def LawS5852AWholeCardSaid : Prop := Claim7.holds Ybad.pinned (.plain (OpenSpec.ofChange lawS5852AWholeSpec)) lawS5852AWholeCard

/-- THE TIED CARD OF 'spanwright.LawS5852ABoundary'. -/
def lawS5852ABoundaryCard : Claim7 := { stood := { row := lawS5852ABoundaryRow, standIns := [], harness := (true, "283b913a84cc5f14a195fe31f2cd4247137d05a9d7426fee6e114bfc1f35ea5e"), looks := false }, kinds := [], alts := [], laidByText := true, laidKinds := [.widerDeep], laidTests := true, laidLooks := .later }
def LawS5852ABoundaryCardSaid : Prop := Claim7.holds Ybad.pinned (.plain (OpenSpec.ofChange lawS5852ABoundarySpec)) lawS5852ABoundaryCard
end Rows
end Go.Proofs.YbulkdqecDoor
