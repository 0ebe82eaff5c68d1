/-
  DERIVED. GIVEN WITH THE SEED: THE PROGRAM's TIES (one call each: nine closed facts by the kernel) AND EACH ROW's TIE, after the 31st guide's Derived/Test/Toyas{Tie, Card}.lean. No idea stands in it: it is a product of the set-up. Laid BY PROGRAM, IN A SANDBOX (cutbox-door.mjs). By AI agents, Wed Nov 11 2026. No macro, syntax, notation, axiom, sorry.
-/
import Derived.Test.YbulkabzkFmtRows
import Derived.LaidByTextLater
import Derived.SevenTiedAt
import Derived.LaidSub
import Derived.LaidOnce
namespace Go.Proofs.YbulkabzkFmt
open Go
set_option maxRecDepth 100000
theorem seatTie1 : Ybaf.prog.laidByTextLater [("unicode/utf8.acceptRanges", Rows.laid_unicode_utf8_acceptRanges), ("io.EOF", Rows.laid_io_EOF), ("io.ErrNoProgress", Rows.laid_io_ErrNoProgress), ("unicode.White_Space", Rows.laid_unicode_White_Space), ("strings.asciiSpace", Rows.laid_strings_asciiSpace), ("bufio.ErrTooLong", Rows.laid_bufio_ErrTooLong), ("bufio.ErrNegativeAdvance", Rows.laid_bufio_ErrNegativeAdvance), ("bufio.ErrAdvanceTooFar", Rows.laid_bufio_ErrAdvanceTooFar), ("bufio.ErrBadReadCount", Rows.laid_bufio_ErrBadReadCount), ("bufio.ErrFinalToken", Rows.laid_bufio_ErrFinalToken)] [.data, .sentinel, .sentinel, .listed, .data, .sentinel, .sentinel, .sentinel, .sentinel, .sentinel] true :=
  Program.laidByTextLater_by_one 229 8 257 (by kernel_rfl) (by kernel_rfl) (by kernel_rfl) (by kernel_rfl) (by kernel_rfl) (by kernel_rfl) (fun _ _ => by kernel_rfl)
theorem seatTie2 : Ybaf.prog.laidByTextLater [("example.com/croupier/croupier/poker.ErrCallTakesAll", Rows.laid_example_com_croupier_croupier_poker_ErrCallTakesAll), ("example.com/croupier/croupier/poker.ErrNoneToAnswer", Rows.laid_example_com_croupier_croupier_poker_ErrNoneToAnswer)] [.sentinel, .sentinel] true :=
  Program.laidByTextLater_by_one 229 8 257 (by kernel_rfl) (by kernel_rfl) (by kernel_rfl) (by kernel_rfl) (by kernel_rfl) (by kernel_rfl) (fun _ _ => by kernel_rfl)
theorem pin_laid_unicode_utf8_first : Ybaf.pinned.checked.prog.pinnedFits "unicode/utf8.first" = true := by kernel_rfl
theorem noOwnUnsafe : Ybaf.pinned.checked.prog.headLifts.contains "ownunsafe" = false := by kernel_rfl
theorem fits1 : Ybaf.pinned.checked.prog.listedFits [("unicode/utf8.acceptRanges", Rows.laid_unicode_utf8_acceptRanges), ("io.EOF", Rows.laid_io_EOF), ("io.ErrNoProgress", Rows.laid_io_ErrNoProgress), ("unicode.White_Space", Rows.laid_unicode_White_Space), ("strings.asciiSpace", Rows.laid_strings_asciiSpace), ("bufio.ErrTooLong", Rows.laid_bufio_ErrTooLong), ("bufio.ErrNegativeAdvance", Rows.laid_bufio_ErrNegativeAdvance), ("bufio.ErrAdvanceTooFar", Rows.laid_bufio_ErrAdvanceTooFar), ("bufio.ErrBadReadCount", Rows.laid_bufio_ErrBadReadCount), ("bufio.ErrFinalToken", Rows.laid_bufio_ErrFinalToken), ("unicode/utf8.first", Rows.laid_unicode_utf8_first)] = true := by
  unfold Program.listedFits
  rw [noOwnUnsafe]
  kernel_rfl
theorem tie : Ybaf.prog.laidByTextLater [("unicode/utf8.acceptRanges", Rows.laid_unicode_utf8_acceptRanges), ("io.EOF", Rows.laid_io_EOF), ("io.ErrNoProgress", Rows.laid_io_ErrNoProgress), ("unicode.White_Space", Rows.laid_unicode_White_Space), ("strings.asciiSpace", Rows.laid_strings_asciiSpace), ("bufio.ErrTooLong", Rows.laid_bufio_ErrTooLong), ("bufio.ErrNegativeAdvance", Rows.laid_bufio_ErrNegativeAdvance), ("bufio.ErrAdvanceTooFar", Rows.laid_bufio_ErrAdvanceTooFar), ("bufio.ErrBadReadCount", Rows.laid_bufio_ErrBadReadCount), ("bufio.ErrFinalToken", Rows.laid_bufio_ErrFinalToken)] [.data, .sentinel, .sentinel, .listed, .data, .sentinel, .sentinel, .sentinel, .sentinel, .sentinel] true :=
  Program.laidByTextLater.sub seatTie1 ["unicode/utf8.acceptRanges", "io.EOF", "io.ErrNoProgress", "unicode.White_Space", "strings.asciiSpace", "bufio.ErrTooLong", "bufio.ErrNegativeAdvance", "bufio.ErrAdvanceTooFar", "bufio.ErrBadReadCount", "bufio.ErrFinalToken"] (by kernel_rfl) (by kernel_rfl)
theorem lawS1401BDeals_row_tie : Rows.lawS1401BDealsRow.laidByTextAt .later Ybaf.pinned [.data, .sentinel, .sentinel, .listed, .data, .sentinel, .sentinel, .sentinel, .sentinel, .sentinel, .pinned] true :=
  OpenClaim.laidByTextAt_pinned rfl rfl tie rfl rfl rfl rfl (fun y hy _e => by
    simp only [Rows.lawS1401BDealsRow, List.zip_cons_cons, List.zip_nil_right, List.mem_cons, List.mem_nil_iff, or_false] at hy
    rcases hy with rfl | rfl | rfl | rfl | rfl | rfl | rfl | rfl | rfl | rfl | rfl
    · cases _e
    · cases _e
    · cases _e
    · cases _e
    · cases _e
    · cases _e
    · cases _e
    · cases _e
    · cases _e
    · cases _e
    · exact ⟨pin_laid_unicode_utf8_first, by kernel_rfl⟩) fits1
theorem lawS1401BReaderErr_row_tie : Rows.lawS1401BReaderErrRow.laidByTextAt .later Ybaf.pinned [.data, .sentinel, .sentinel, .listed, .data, .sentinel, .sentinel, .sentinel, .sentinel, .sentinel, .pinned] true :=
  OpenClaim.laidByTextAt_pinned rfl rfl tie rfl rfl rfl rfl (fun y hy _e => by
    simp only [Rows.lawS1401BReaderErrRow, List.zip_cons_cons, List.zip_nil_right, List.mem_cons, List.mem_nil_iff, or_false] at hy
    rcases hy with rfl | rfl | rfl | rfl | rfl | rfl | rfl | rfl | rfl | rfl | rfl
    · cases _e
    · cases _e
    · cases _e
    · cases _e
    · cases _e
    · cases _e
    · cases _e
    · cases _e
    · cases _e
    · cases _e
    · exact ⟨pin_laid_unicode_utf8_first, by kernel_rfl⟩) fits1
theorem tie2 : Ybaf.prog.laidByTextLater [("example.com/croupier/croupier/poker.ErrCallTakesAll", Rows.laid_example_com_croupier_croupier_poker_ErrCallTakesAll), ("example.com/croupier/croupier/poker.ErrNoneToAnswer", Rows.laid_example_com_croupier_croupier_poker_ErrNoneToAnswer)] [.sentinel, .sentinel] true :=
  Program.laidByTextLater.sub seatTie2 ["example.com/croupier/croupier/poker.ErrCallTakesAll", "example.com/croupier/croupier/poker.ErrNoneToAnswer"] (by kernel_rfl) (by kernel_rfl)
theorem lawS1401CModel_row_tie : Rows.lawS1401CModelRow.laidByTextAt .later Ybaf.pinned [.sentinel, .sentinel] true :=
  OpenClaim.laidByTextAt_later rfl rfl tie2 noOwnUnsafe
theorem lawS1401CRaiseAgrees_row_tie : Rows.lawS1401CRaiseAgreesRow.laidByTextAt .later Ybaf.pinned [.sentinel, .sentinel] true :=
  OpenClaim.laidByTextAt_later rfl rfl tie2 noOwnUnsafe
end Go.Proofs.YbulkabzkFmt
