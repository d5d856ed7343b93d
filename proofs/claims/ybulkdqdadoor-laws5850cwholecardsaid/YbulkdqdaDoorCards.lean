/-
  DERIVED. GIVEN WITH THE SEED: THE CARDS: each row of YbulkdqdaDoorRows.lean that lists a variable, with what it lists TIED to the program's text (the seventh form; the later family's looks); each row that meets fmt, with fmt's text TOLD by the authors' own Lean function (tested against real Go, not proved from fmt's source: count such statements apart). THE CARD IS WHAT COUNTS. Prove the row's statement (the work); the ties are given (YbulkdqdaDoorTie.lean); close each card by the builder's one call (the guide's Derived/Test/ToyasCard.lean, 'card_holds'). Laid BY PROGRAM, IN A SANDBOX (cutbox-door.mjs). By AI agents, Wed Nov 11 2026. No macro, syntax, notation, axiom, sorry.
-/
import Derived.Test.YbulkdqdaDoorRows
import GoSem.ClaimSeven
namespace Go.Proofs.YbulkdqdaDoor
namespace Rows

/-- THE TIED CARD OF 'columnfit.LawS5850AWhole'. -/
def lawS5850AWholeCard : Claim7 := { stood := { row := lawS5850AWholeRow, standIns := [], harness := (true, "edf34a95d2e94c985d198e8f96797fe854845dd16f9a61ccd7ad7ccdafab36b4"), looks := true }, kinds := [], alts := [], laidByText := true, laidKinds := [.data, .pinned], laidTests := true, laidLooks := .later }
def LawS5850AWholeCardSaid : Prop := Claim7.holds Ybad.pinned (.plain (OpenSpec.ofChange lawS5850AWholeSpec)) lawS5850AWholeCard

/-- THE TIED CARD OF 'columnfit.LawS5850CWhole'. -/
def lawS5850CWholeCard : Claim7 := { stood := { row := lawS5850CWholeRow, standIns := [], harness := (true, "edf34a95d2e94c985d198e8f96797fe854845dd16f9a61ccd7ad7ccdafab36b4"), looks := true }, kinds := [], alts := [], laidByText := true, laidKinds := [.mapped, .mapped, .mapped, .mapped], laidTests := true, laidLooks := .later }
def LawS5850CWholeCardSaid : Prop := Claim7.holds Ybad.pinned (.plain (OpenSpec.ofChange lawS5850CWholeSpec)) lawS5850CWholeCard
end Rows
end Go.Proofs.YbulkdqdaDoor
