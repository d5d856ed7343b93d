/-
  NARROWER THAN 'FOR EVERY INPUT', by the rows' own cells (each row's printed sentence says how): LawS5850AWhole: laid · LawS5850CWhole: maps, laid.
  DERIVED. THE GIVEN ROWS OF THIS SEAT. 2 by the template 'for every input the law returns true; each argument reads behind the call as it read before'; 0 by the template 'total and deterministic' (their statements: YbulkdqdaDoorTotals.lean).
  GIVEN WITH THE SEED: the statements are not yours to turn. If you find one false, say at which input.
  Laid BY PROGRAM, IN A SANDBOX (cutbox-rows.mjs): the forced cells as the released guide's own fill.sh prints them over the translation ed30feff37f3febd… (all of the seat's roots in one cut). By AI agents, Wed Nov 11 2026. No macro, syntax, notation, axiom, sorry.
-/
import Derived.Test.YbulkdqdaDoorChecked
import GoSem.PinnedTables
import GoSem.Claim
import GoSem.ClaimJoined
import GoSem.ClaimMapViews
import Derived.JoinedTies
import Derived.KernelRfl
namespace Go.Proofs.YbulkdqdaDoor
/- THE CELL 'sum', in the pinned program and in every row, IS THE sha256 OF THE DUMP (.gsa) THAT YbulkdqdaDoorProg.lean LOADS. Nothing in Lean hashes anything: it is a label: what it is worth is what the hold of that sum in a sandbox is worth. -/
noncomputable def Ybad.pinned : Pinned := { name := "ybulkdqdadoor", sum := "ed30feff37f3febd01db7a162aa50adb12b09d4cdbed310a75f13303fc9325db", checked := Ybad.checked }
namespace Rows
def none {H : Type} : Left H := { results := [], args := [] }

/- WHAT THE LISTED PACKAGE-LEVEL VARIABLES READ AS WHEN THE CALL BEGINS. Each datum BY PROGRAM (the guide's laid-datum.mjs) off the statement by which the dump's own 'gosem.cut.vars' lays the variable. In a bare row this is a premise. The card (YbulkdqdaDoorCards.lean) ties it to the program's text. -/
def laid_unicode_utf8_acceptRanges {H : Type} : DataW H := .agg [.agg [.lit (.int .u8 128), .lit (.int .u8 191)], .agg [.lit (.int .u8 160), .lit (.int .u8 191)], .agg [.lit (.int .u8 128), .lit (.int .u8 159)], .agg [.lit (.int .u8 144), .lit (.int .u8 191)], .agg [.lit (.int .u8 128), .lit (.int .u8 143)], .agg [.lit (.int .u8 0), .lit (.int .u8 0)], .agg [.lit (.int .u8 0), .lit (.int .u8 0)], .agg [.lit (.int .u8 0), .lit (.int .u8 0)], .agg [.lit (.int .u8 0), .lit (.int .u8 0)], .agg [.lit (.int .u8 0), .lit (.int .u8 0)], .agg [.lit (.int .u8 0), .lit (.int .u8 0)], .agg [.lit (.int .u8 0), .lit (.int .u8 0)], .agg [.lit (.int .u8 0), .lit (.int .u8 0)], .agg [.lit (.int .u8 0), .lit (.int .u8 0)], .agg [.lit (.int .u8 0), .lit (.int .u8 0)], .agg [.lit (.int .u8 0), .lit (.int .u8 0)]]
/-- One of Go's own tables, pinned by name: the form's constant. -/
def laid_unicode_utf8_first : DataW Unit := Go.Pinned.utf8First
def laid_example_com_columnfit_columnfit_characterWords {H : Type} : DataW H := .map [(.int .i64 0, .lit (.string [116, 114, 105, 109, 45, 98, 108, 97, 110, 107, 115])), (.int .i64 1, .lit (.string [114, 101, 102, 117, 115, 101])), (.int .i64 2, .lit (.string [99, 117, 116]))]
def laid_example_com_columnfit_columnfit_digitWords {H : Type} : DataW H := .map [(.int .i64 0, .lit (.string [114, 111, 117, 110, 100])), (.int .i64 1, .lit (.string [116, 114, 117, 110, 99, 97, 116, 101]))]
def laid_example_com_columnfit_columnfit_datetimeWords {H : Type} : DataW H := .map [(.int .i64 0, .lit (.string [114, 101, 102, 117, 115, 101])), (.int .i64 1, .lit (.string [99, 97, 115, 116]))]
def laid_example_com_columnfit_columnfit_dialectWords {H : Type} : DataW H := .map [(.int .i64 0, .lit (.string [115, 116, 97, 110, 100, 97, 114, 100])), (.int .i64 1, .lit (.string [112, 111, 115, 116, 103, 114, 101, 115, 113, 108]))]

/-- 'columnfit.LawS5850AWhole': WHATEVER THE INPUT: true; the input reads as it did. -/
def lawS5850AWholeSpec : ChangeSpec := { name := "lawS5850AWhole", fn := fun _ => fun
  | [d1, d2, d3, d4] => { results := [.lit (.bool true)], args := [d1, d2, d3, d4] }
  | _ => none }
def lawS5850AWholeRow : OpenClaim := { program := "ybulkdqdadoor", sum := "ed30feff37f3febd01db7a162aa50adb12b09d4cdbed310a75f13303fc9325db", func := "example.com/columnfit/columnfit.LawS5850AWhole", spec := "lawS5850AWhole", inPlace := ["internal/bytealg.IndexByteString", "internal/bytealg.IndexString", "internal/abi.NoEscape", "internal/bytealg.MakeNoZero"], unfollowed := true, recurses := true, named := ["internal/bytealg.MaxLen", "unicode/utf8.first", "unicode/utf8.acceptRanges"], apart := false, laid := [("unicode/utf8.acceptRanges", laid_unicode_utf8_acceptRanges), ("unicode/utf8.first", laid_unicode_utf8_first)] }
def LawS5850AWholeSaid : Prop := lawS5850AWholeRow.holds Ybad.pinned (OpenSpec.ofChange lawS5850AWholeSpec)

/-- ITS FALSE NEIGHBOUR: 'it returns false'. Refute it at one input. -/
def lawS5850AWholeWrong : ChangeSpec := { name := "lawS5850AWhole", fn := fun _ => fun
  | [d1, d2, d3, d4] => { results := [.lit (.bool false)], args := [d1, d2, d3, d4] }
  | _ => none }
def LawS5850AWholeWrongFalsely : Prop := lawS5850AWholeRow.holds Ybad.pinned (OpenSpec.ofChange lawS5850AWholeWrong)

/-- 'columnfit.LawS5850CWhole': WHATEVER THE INPUT: true; the input reads as it did. -/
def lawS5850CWholeSpec : ChangeSpec := { name := "lawS5850CWhole", vars := ["example.com/columnfit/columnfit.characterWords", "example.com/columnfit/columnfit.digitWords", "example.com/columnfit/columnfit.datetimeWords", "example.com/columnfit/columnfit.dialectWords"], fn := fun _ => fun
  | [d1, d2, d3, d4, d5, d6, d7, d8, d9, g1, g2, g3, g4] => { results := [.lit (.bool true)], args := [d1, d2, d3, d4, d5, d6, d7, d8, d9], vars := [g1, g2, g3, g4] }
  | _ => none }
def lawS5850CWholeRow : OpenClaim := { program := "ybulkdqdadoor", sum := "ed30feff37f3febd01db7a162aa50adb12b09d4cdbed310a75f13303fc9325db", func := "example.com/columnfit/columnfit.LawS5850CWhole", spec := "lawS5850CWhole", named := ["example.com/columnfit/columnfit.characterWords", "example.com/columnfit/columnfit.digitWords", "example.com/columnfit/columnfit.datetimeWords", "example.com/columnfit/columnfit.dialectWords"], maps := true, apart := false, laid := [("example.com/columnfit/columnfit.characterWords", laid_example_com_columnfit_columnfit_characterWords), ("example.com/columnfit/columnfit.digitWords", laid_example_com_columnfit_columnfit_digitWords), ("example.com/columnfit/columnfit.datetimeWords", laid_example_com_columnfit_columnfit_datetimeWords), ("example.com/columnfit/columnfit.dialectWords", laid_example_com_columnfit_columnfit_dialectWords)] }
def LawS5850CWholeSaid : Prop := lawS5850CWholeRow.holds Ybad.pinned (OpenSpec.ofChange lawS5850CWholeSpec)

/-- ITS FALSE NEIGHBOUR: 'it returns false'. Refute it at one input. -/
def lawS5850CWholeWrong : ChangeSpec := { name := "lawS5850CWhole", vars := ["example.com/columnfit/columnfit.characterWords", "example.com/columnfit/columnfit.digitWords", "example.com/columnfit/columnfit.datetimeWords", "example.com/columnfit/columnfit.dialectWords"], fn := fun _ => fun
  | [d1, d2, d3, d4, d5, d6, d7, d8, d9, g1, g2, g3, g4] => { results := [.lit (.bool false)], args := [d1, d2, d3, d4, d5, d6, d7, d8, d9], vars := [g1, g2, g3, g4] }
  | _ => none }
def LawS5850CWholeWrongFalsely : Prop := lawS5850CWholeRow.holds Ybad.pinned (OpenSpec.ofChange lawS5850CWholeWrong)

end Rows
end Go.Proofs.YbulkdqdaDoor
