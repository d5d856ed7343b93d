/-
  No cell of these rows narrows 'for every input' (looked for: loops, veiled, ifaces, maps, wideKeys, modest, calm, conditions, laid).
  DERIVED. THE GIVEN ROWS OF THIS SEAT. 1 by the template 'for every input the law returns true; each argument reads behind the call as it read before'; 0 by the template 'total and deterministic' (their statements: YbulkdqecTotals.lean).
  GIVEN WITH THE SEED: the statements are not yours to turn. If you find one false, say at which input.
  Laid BY PROGRAM, IN A SANDBOX (cutbox-rows.mjs): the forced cells as the released guide's own fill.sh prints them over the translation 1b71d6a74a543b86… (all of the seat's roots in one cut). By AI agents, Wed Nov 11 2026. No macro, syntax, notation, axiom, sorry.
-/
import Derived.Test.YbulkdqecChecked
import GoSem.Claim
import GoSem.ClaimJoined
import GoSem.ClaimMapViews
import Derived.JoinedTies
import Derived.KernelRfl
namespace Go.Proofs.Ybulkdqec
/- THE CELL 'sum', in the pinned program and in every row, IS THE sha256 OF THE DUMP (.gsa) THAT YbulkdqecProg.lean LOADS. Nothing in Lean hashes anything: it is a label: what it is worth is what the hold of that sum in a sandbox is worth. -/
noncomputable def Yba.pinned : Pinned := { name := "ybulkdqec", sum := "1b71d6a74a543b8650dbddd79621bf3deff7496b997681b8c9322d3c9f4aed76", checked := Yba.checked }
namespace Rows
def none {H : Type} : Left H := { results := [], args := [] }

/-- 'spanwright.LawS5852CWhole': WHATEVER THE INPUT: true; the input reads as it did. -/
def lawS5852CWholeSpec : ChangeSpec := { name := "lawS5852CWhole", fn := fun _ => fun
  | [d1, d2, d3, d4, d5, d6, d7, d8, d9, d10, d11] => { results := [.lit (.bool true)], args := [d1, d2, d3, d4, d5, d6, d7, d8, d9, d10, d11] }
  | _ => none }
def lawS5852CWholeRow : OpenClaim := { program := "ybulkdqec", sum := "1b71d6a74a543b8650dbddd79621bf3deff7496b997681b8c9322d3c9f4aed76", func := "example.com/spanwright/spanwright.LawS5852CWhole", spec := "lawS5852CWhole", apart := false }
def LawS5852CWholeSaid : Prop := lawS5852CWholeRow.holds Yba.pinned (OpenSpec.ofChange lawS5852CWholeSpec)

/-- ITS FALSE NEIGHBOUR: 'it returns false'. Refute it at one input. -/
def lawS5852CWholeWrong : ChangeSpec := { name := "lawS5852CWhole", fn := fun _ => fun
  | [d1, d2, d3, d4, d5, d6, d7, d8, d9, d10, d11] => { results := [.lit (.bool false)], args := [d1, d2, d3, d4, d5, d6, d7, d8, d9, d10, d11] }
  | _ => none }
def LawS5852CWholeWrongFalsely : Prop := lawS5852CWholeRow.holds Yba.pinned (OpenSpec.ofChange lawS5852CWholeWrong)

end Rows
end Go.Proofs.Ybulkdqec
