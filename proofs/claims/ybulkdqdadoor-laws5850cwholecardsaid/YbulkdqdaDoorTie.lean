/-
  DERIVED. GIVEN WITH THE SEED: THE PROGRAM's TIES (one call each: nine closed facts by the kernel) AND EACH ROW's TIE, after the 31st guide's Derived/Test/Toyas{Tie, Card}.lean. No idea stands in it: it is a product of the set-up. Laid BY PROGRAM, IN A SANDBOX (cutbox-door.mjs). By AI agents, Wed Nov 11 2026. No macro, syntax, notation, axiom, sorry.
-/
import Derived.Test.YbulkdqdaDoorRows
import Derived.LaidByTextLater
import Derived.SevenTiedAt
import Derived.LaidSub
import Derived.LaidOnce
namespace Go.Proofs.YbulkdqdaDoor
open Go
set_option maxRecDepth 100000
theorem seatTie1 : Ybad.prog.laidByTextLater [("unicode/utf8.acceptRanges", Rows.laid_unicode_utf8_acceptRanges), ("example.com/columnfit/columnfit.characterWords", Rows.laid_example_com_columnfit_columnfit_characterWords), ("example.com/columnfit/columnfit.digitWords", Rows.laid_example_com_columnfit_columnfit_digitWords), ("example.com/columnfit/columnfit.datetimeWords", Rows.laid_example_com_columnfit_columnfit_datetimeWords), ("example.com/columnfit/columnfit.dialectWords", Rows.laid_example_com_columnfit_columnfit_dialectWords)] [.data, .mapped, .mapped, .mapped, .mapped] true :=
  Program.laidByTextLater_by_one 84 8 33 (by kernel_rfl) (by kernel_rfl) (by kernel_rfl) (by kernel_rfl) (by kernel_rfl) (by kernel_rfl) (fun _ _ => by kernel_rfl)
theorem pin_laid_unicode_utf8_first : Ybad.pinned.checked.prog.pinnedFits "unicode/utf8.first" = true := by kernel_rfl
theorem noOwnUnsafe : Ybad.pinned.checked.prog.headLifts.contains "ownunsafe" = false := by kernel_rfl
theorem fits1 : Ybad.pinned.checked.prog.listedFits [("unicode/utf8.acceptRanges", Rows.laid_unicode_utf8_acceptRanges), ("unicode/utf8.first", Rows.laid_unicode_utf8_first)] = true := by
  unfold Program.listedFits
  rw [noOwnUnsafe]
  kernel_rfl
theorem tie : Ybad.prog.laidByTextLater [("unicode/utf8.acceptRanges", Rows.laid_unicode_utf8_acceptRanges)] [.data] true :=
  Program.laidByTextLater.sub seatTie1 ["unicode/utf8.acceptRanges"] (by kernel_rfl) (by kernel_rfl)
theorem lawS5850AWhole_row_tie : Rows.lawS5850AWholeRow.laidByTextAt .later Ybad.pinned [.data, .pinned] true :=
  OpenClaim.laidByTextAt_pinned rfl rfl tie rfl rfl rfl rfl (fun y hy _e => by
    simp only [Rows.lawS5850AWholeRow, List.zip_cons_cons, List.zip_nil_right, List.mem_cons, List.mem_nil_iff, or_false] at hy
    rcases hy with rfl | rfl
    · cases _e
    · exact ⟨pin_laid_unicode_utf8_first, by kernel_rfl⟩) fits1
theorem tie2 : Ybad.prog.laidByTextLater [("example.com/columnfit/columnfit.characterWords", Rows.laid_example_com_columnfit_columnfit_characterWords), ("example.com/columnfit/columnfit.digitWords", Rows.laid_example_com_columnfit_columnfit_digitWords), ("example.com/columnfit/columnfit.datetimeWords", Rows.laid_example_com_columnfit_columnfit_datetimeWords), ("example.com/columnfit/columnfit.dialectWords", Rows.laid_example_com_columnfit_columnfit_dialectWords)] [.mapped, .mapped, .mapped, .mapped] true :=
  Program.laidByTextLater.sub seatTie1 ["example.com/columnfit/columnfit.characterWords", "example.com/columnfit/columnfit.digitWords", "example.com/columnfit/columnfit.datetimeWords", "example.com/columnfit/columnfit.dialectWords"] (by kernel_rfl) (by kernel_rfl)
theorem lawS5850CWhole_row_tie : Rows.lawS5850CWholeRow.laidByTextAt .later Ybad.pinned [.mapped, .mapped, .mapped, .mapped] true :=
  OpenClaim.laidByTextAt_later rfl rfl tie2 noOwnUnsafe
end Go.Proofs.YbulkdqdaDoor
