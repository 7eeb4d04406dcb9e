/-
  DERIVED. GIVEN WITH THE SEED: THE PROGRAM's TIES (one call each: nine closed facts by the kernel) AND EACH ROW's TIE, after the 31st guide's Derived/Test/Toyas{Tie, Card}.lean. No idea stands in it: it is a product of the set-up. Laid BY PROGRAM, IN A SANDBOX (cutbox-door.mjs). By AI agents, Wed Nov 11 2026. No macro, syntax, notation, axiom, sorry.
-/
import Derived.Test.YbulkckqaDoorRows
import Derived.LaidByTextLater
import Derived.SevenTiedAt
import Derived.LaidSub
import Derived.LaidOnce
namespace Go.Proofs.YbulkckqaDoor
open Go
set_option maxRecDepth 100000
theorem seatTie1 : Ybad.prog.laidByTextLater [("unicode/utf8.acceptRanges", Rows.laid_unicode_utf8_acceptRanges), ("example.com/cycleport/cycleport/internal/jsonread.errSyntax", Rows.laid_example_com_cycleport_cycleport_internal_jsonread_errSyntax), ("example.com/cycleport/cycleport/internal/jsonread.ErrLoneSurrogate", Rows.laid_example_com_cycleport_cycleport_internal_jsonread_ErrLoneSurrogate), ("example.com/cycleport/cycleport/internal/decimal.ErrSyntax", Rows.laid_example_com_cycleport_cycleport_internal_decimal_ErrSyntax)] [.data, .sentinel, .sentinel, .sentinel] true :=
  Program.laidByTextLater_by_one 76 8 33 (by kernel_rfl) (by kernel_rfl) (by kernel_rfl) (by kernel_rfl) (by kernel_rfl) (by kernel_rfl) (fun _ _ => by kernel_rfl)
theorem pin_laid_unicode_utf8_first : Ybad.pinned.checked.prog.pinnedFits "unicode/utf8.first" = true := by kernel_rfl
theorem noOwnUnsafe : Ybad.pinned.checked.prog.headLifts.contains "ownunsafe" = false := by kernel_rfl
theorem tie : Ybad.prog.laidByTextLater [("example.com/cycleport/cycleport/internal/jsonread.errSyntax", Rows.laid_example_com_cycleport_cycleport_internal_jsonread_errSyntax), ("example.com/cycleport/cycleport/internal/jsonread.ErrLoneSurrogate", Rows.laid_example_com_cycleport_cycleport_internal_jsonread_ErrLoneSurrogate)] [.sentinel, .sentinel] true :=
  Program.laidByTextLater.sub seatTie1 ["example.com/cycleport/cycleport/internal/jsonread.errSyntax", "example.com/cycleport/cycleport/internal/jsonread.ErrLoneSurrogate"] (by kernel_rfl) (by kernel_rfl)
theorem lawS4329AChecked_row_tie : Rows.lawS4329ACheckedRow.laidByTextAt .later Ybad.pinned [.sentinel, .sentinel] true :=
  OpenClaim.laidByTextAt_later rfl rfl tie noOwnUnsafe
theorem tie2 : Ybad.prog.laidByTextLater [("example.com/cycleport/cycleport/internal/jsonread.errSyntax", Rows.laid_example_com_cycleport_cycleport_internal_jsonread_errSyntax)] [.sentinel] true :=
  Program.laidByTextLater.sub seatTie1 ["example.com/cycleport/cycleport/internal/jsonread.errSyntax"] (by kernel_rfl) (by kernel_rfl)
theorem lawS4329BModel_row_tie : Rows.lawS4329BModelRow.laidByTextAt .later Ybad.pinned [.sentinel] true :=
  OpenClaim.laidByTextAt_later rfl rfl tie2 noOwnUnsafe
theorem lawS4329BSpacey_row_tie : Rows.lawS4329BSpaceyRow.laidByTextAt .later Ybad.pinned [.sentinel] true :=
  OpenClaim.laidByTextAt_later rfl rfl tie2 noOwnUnsafe
theorem fits3 : Ybad.pinned.checked.prog.listedFits [("unicode/utf8.acceptRanges", Rows.laid_unicode_utf8_acceptRanges), ("example.com/cycleport/cycleport/internal/decimal.ErrSyntax", Rows.laid_example_com_cycleport_cycleport_internal_decimal_ErrSyntax), ("unicode/utf8.first", Rows.laid_unicode_utf8_first)] = true := by
  unfold Program.listedFits
  rw [noOwnUnsafe]
  kernel_rfl
theorem tie3 : Ybad.prog.laidByTextLater [("unicode/utf8.acceptRanges", Rows.laid_unicode_utf8_acceptRanges), ("example.com/cycleport/cycleport/internal/decimal.ErrSyntax", Rows.laid_example_com_cycleport_cycleport_internal_decimal_ErrSyntax)] [.data, .sentinel] true :=
  Program.laidByTextLater.sub seatTie1 ["unicode/utf8.acceptRanges", "example.com/cycleport/cycleport/internal/decimal.ErrSyntax"] (by kernel_rfl) (by kernel_rfl)
theorem lawS4329CPlain_row_tie : Rows.lawS4329CPlainRow.laidByTextAt .later Ybad.pinned [.data, .sentinel, .pinned] true :=
  OpenClaim.laidByTextAt_pinned rfl rfl tie3 rfl rfl rfl rfl (fun y hy _e => by
    simp only [Rows.lawS4329CPlainRow, List.zip_cons_cons, List.zip_nil_right, List.mem_cons, List.mem_nil_iff, or_false] at hy
    rcases hy with rfl | rfl | rfl
    · cases _e
    · cases _e
    · exact ⟨pin_laid_unicode_utf8_first, by kernel_rfl⟩) fits3
theorem lawS4329CExp_row_tie : Rows.lawS4329CExpRow.laidByTextAt .later Ybad.pinned [.data, .sentinel, .pinned] true :=
  OpenClaim.laidByTextAt_pinned rfl rfl tie3 rfl rfl rfl rfl (fun y hy _e => by
    simp only [Rows.lawS4329CExpRow, List.zip_cons_cons, List.zip_nil_right, List.mem_cons, List.mem_nil_iff, or_false] at hy
    rcases hy with rfl | rfl | rfl
    · cases _e
    · cases _e
    · exact ⟨pin_laid_unicode_utf8_first, by kernel_rfl⟩) fits3
theorem lawS4329CSyntax_row_tie : Rows.lawS4329CSyntaxRow.laidByTextAt .later Ybad.pinned [.data, .sentinel, .pinned] true :=
  OpenClaim.laidByTextAt_pinned rfl rfl tie3 rfl rfl rfl rfl (fun y hy _e => by
    simp only [Rows.lawS4329CSyntaxRow, List.zip_cons_cons, List.zip_nil_right, List.mem_cons, List.mem_nil_iff, or_false] at hy
    rcases hy with rfl | rfl | rfl
    · cases _e
    · cases _e
    · exact ⟨pin_laid_unicode_utf8_first, by kernel_rfl⟩) fits3
end Go.Proofs.YbulkckqaDoor
