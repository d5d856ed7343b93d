/-
  NARROWER THAN 'FOR EVERY INPUT', by the rows' own cells (each row's printed sentence says how): LawS5852AWhole: laid · LawS5852ABoundary: laid.
  DERIVED. THE GIVEN ROWS OF THIS SEAT. 2 by the template 'for every input the law returns true; each argument reads behind the call as it read before'; 0 by the template 'total and deterministic' (their statements: YbulkdqecDoorTotals.lean).
  GIVEN WITH THE SEED: the statements are not yours to turn. If you find one false, say at which input.
  Laid BY PROGRAM, IN A SANDBOX (cutbox-rows.mjs): the forced cells as the released guide's own fill.sh prints them over the translation ebdf4b95ca5eb7f8… (all of the seat's roots in one cut). By AI agents, Wed Nov 11 2026. No macro, syntax, notation, axiom, sorry.
-/
import Derived.Test.YbulkdqecDoorChecked
import GoSem.Claim
import GoSem.ClaimJoined
import GoSem.ClaimMapViews
import Derived.JoinedTies
import Derived.KernelRfl
namespace Go.Proofs.YbulkdqecDoor
/- THE CELL 'sum', in the pinned program and in every row, IS THE sha256 OF THE DUMP (.gsa) THAT YbulkdqecDoorProg.lean LOADS. Nothing in Lean hashes anything: it is a label: what it is worth is what the hold of that sum in a sandbox is worth. -/
noncomputable def Ybad.pinned : Pinned := { name := "ybulkdqecdoor", sum := "ebdf4b95ca5eb7f8bb262ce6d343f3afcfd158a441eb4a0ada71288c9dcf0412", checked := Ybad.checked }
namespace Rows
def none {H : Type} : Left H := { results := [], args := [] }

/- WHAT THE LISTED PACKAGE-LEVEL VARIABLES READ AS WHEN THE CALL BEGINS. Each datum BY PROGRAM (the guide's laid-datum.mjs) off the statement by which the dump's own 'gosem.cut.vars' lays the variable. In a bare row this is a premise. The card (YbulkdqecDoorCards.lean) ties it to the program's text. -/
def laid_example_com_spanwright_spanwright_units {H : Type} : DataW H := .agg [.agg [.slice [.lit (.string [115, 101, 99, 111, 110, 100]), .lit (.string [115, 101, 99, 111, 110, 100, 115]), .lit (.string [115, 101, 99]), .lit (.string [115, 101, 99, 115]), .lit (.string [115])] [], .lit (.int .i64 1)], .agg [.slice [.lit (.string [109, 105, 110, 117, 116, 101]), .lit (.string [109, 105, 110, 117, 116, 101, 115]), .lit (.string [109, 105, 110]), .lit (.string [109, 105, 110, 115])] [], .lit (.int .i64 60)], .agg [.slice [.lit (.string [104, 111, 117, 114]), .lit (.string [104, 111, 117, 114, 115]), .lit (.string [104, 114]), .lit (.string [104, 114, 115])] [], .lit (.int .i64 3600)], .agg [.slice [.lit (.string [100, 97, 121]), .lit (.string [100, 97, 121, 115]), .lit (.string [100])] [], .lit (.int .i64 86400)], .agg [.slice [.lit (.string [119, 101, 101, 107]), .lit (.string [119, 101, 101, 107, 115]), .lit (.string [119])] [], .lit (.int .i64 604800)], .agg [.slice [.lit (.string [109, 111, 110, 116, 104]), .lit (.string [109, 111, 110, 116, 104, 115])] [], .lit (.int .i64 2419200)], .agg [.slice [.lit (.string [121, 101, 97, 114]), .lit (.string [121, 101, 97, 114, 115]), .lit (.string [121, 114]), .lit (.string [121, 114, 115])] [], .lit (.int .i64 31536000)]]

/-- 'spanwright.LawS5852AWhole': WHATEVER THE INPUT: true; the input reads as it did. -/
def lawS5852AWholeSpec : ChangeSpec := { name := "lawS5852AWhole", vars := ["example.com/spanwright/spanwright.units"], fn := fun _ => fun
  | [d1, d2, d3, d4, d5, g1] => { results := [.lit (.bool true)], args := [d1, d2, d3, d4, d5], vars := [g1] }
  | _ => none }
def lawS5852AWholeRow : OpenClaim := { program := "ybulkdqecdoor", sum := "ebdf4b95ca5eb7f8bb262ce6d343f3afcfd158a441eb4a0ada71288c9dcf0412", func := "example.com/spanwright/spanwright.LawS5852AWhole", spec := "lawS5852AWhole", named := ["example.com/spanwright/spanwright.units"], apart := false, laid := [("example.com/spanwright/spanwright.units", laid_example_com_spanwright_spanwright_units)] }
def LawS5852AWholeSaid : Prop := lawS5852AWholeRow.holds Ybad.pinned (OpenSpec.ofChange lawS5852AWholeSpec)

/-- ITS FALSE NEIGHBOUR: 'it returns false'. Refute it at one input. -/
def lawS5852AWholeWrong : ChangeSpec := { name := "lawS5852AWhole", vars := ["example.com/spanwright/spanwright.units"], fn := fun _ => fun
  | [d1, d2, d3, d4, d5, g1] => { results := [.lit (.bool false)], args := [d1, d2, d3, d4, d5], vars := [g1] }
  | _ => none }
def LawS5852AWholeWrongFalsely : Prop := lawS5852AWholeRow.holds Ybad.pinned (OpenSpec.ofChange lawS5852AWholeWrong)

/-- 'spanwright.LawS5852ABoundary': WHATEVER THE INPUT: true; the input reads as it did. -/
def lawS5852ABoundarySpec : ChangeSpec := { name := "lawS5852ABoundary", vars := ["example.com/spanwright/spanwright.units"], fn := fun _ => fun
  | [d1, d2, d3, d4, g1] => { results := [.lit (.bool true)], args := [d1, d2, d3, d4], vars := [g1] }
  | _ => none }
def lawS5852ABoundaryRow : OpenClaim := { program := "ybulkdqecdoor", sum := "ebdf4b95ca5eb7f8bb262ce6d343f3afcfd158a441eb4a0ada71288c9dcf0412", func := "example.com/spanwright/spanwright.LawS5852ABoundary", spec := "lawS5852ABoundary", named := ["example.com/spanwright/spanwright.units"], apart := false, laid := [("example.com/spanwright/spanwright.units", laid_example_com_spanwright_spanwright_units)] }
def LawS5852ABoundarySaid : Prop := lawS5852ABoundaryRow.holds Ybad.pinned (OpenSpec.ofChange lawS5852ABoundarySpec)

/-- ITS FALSE NEIGHBOUR: 'it returns false'. Refute it at one input. -/
def lawS5852ABoundaryWrong : ChangeSpec := { name := "lawS5852ABoundary", vars := ["example.com/spanwright/spanwright.units"], fn := fun _ => fun
  | [d1, d2, d3, d4, g1] => { results := [.lit (.bool false)], args := [d1, d2, d3, d4], vars := [g1] }
  | _ => none }
def LawS5852ABoundaryWrongFalsely : Prop := lawS5852ABoundaryRow.holds Ybad.pinned (OpenSpec.ofChange lawS5852ABoundaryWrong)

end Rows
end Go.Proofs.YbulkdqecDoor
