/-
  DERIVED. GIVEN WITH THE SEED: THE PROGRAM's TIES (one call each: nine closed facts by the kernel) AND EACH ROW's TIE, after the 31st guide's Derived/Test/Toyas{Tie, Card}.lean. No idea stands in it: it is a product of the set-up. Laid BY PROGRAM, IN A SANDBOX (cutbox-door.mjs). By AI agents, Wed Nov 11 2026. No macro, syntax, notation, axiom, sorry.
-/
import Derived.Test.YbulkcyvkFmtRows
import Derived.LaidByTextLater
import Derived.SevenTiedAt
import Derived.LaidSub
import Derived.LaidOnce
namespace Go.Proofs.YbulkcyvkFmt
open Go
set_option maxRecDepth 100000
theorem seatTie1 : Ybaf.prog.laidByTextLater [("io.ErrShortWrite", Rows.laid_io_ErrShortWrite), ("io.errInvalidWrite", Rows.laid_io_errInvalidWrite), ("io.ErrShortBuffer", Rows.laid_io_ErrShortBuffer), ("io.EOF", Rows.laid_io_EOF), ("io.ErrUnexpectedEOF", Rows.laid_io_ErrUnexpectedEOF), ("io.ErrNoProgress", Rows.laid_io_ErrNoProgress), ("io.Discard", Rows.laid_io_Discard), ("bufio.errNegativeRead", Rows.laid_bufio_errNegativeRead)] [.sentinel, .sentinel, .sentinel, .sentinel, .sentinel, .sentinel, .wider, .sentinel] true :=
  Program.laidByTextLater_by_one 167 8 2 (by kernel_rfl) (by kernel_rfl) (by kernel_rfl) (by kernel_rfl) (by kernel_rfl) (by kernel_rfl) (fun _ _ => by kernel_rfl)
theorem noOwnUnsafe : Ybaf.pinned.checked.prog.headLifts.contains "ownunsafe" = false := by kernel_rfl
theorem tie : Ybaf.prog.laidByTextLater [("io.ErrShortBuffer", Rows.laid_io_ErrShortBuffer), ("io.EOF", Rows.laid_io_EOF), ("io.ErrUnexpectedEOF", Rows.laid_io_ErrUnexpectedEOF)] [.sentinel, .sentinel, .sentinel] true :=
  Program.laidByTextLater.sub seatTie1 ["io.ErrShortBuffer", "io.EOF", "io.ErrUnexpectedEOF"] (by kernel_rfl) (by kernel_rfl)
theorem lawS5015AFill_row_tie : Rows.lawS5015AFillRow.laidByTextAt .later Ybaf.pinned [.sentinel, .sentinel, .sentinel] true :=
  OpenClaim.laidByTextAt_later rfl rfl tie noOwnUnsafe
theorem tie2 : Ybaf.prog.laidByTextLater [("io.ErrShortWrite", Rows.laid_io_ErrShortWrite), ("io.errInvalidWrite", Rows.laid_io_errInvalidWrite), ("io.ErrShortBuffer", Rows.laid_io_ErrShortBuffer), ("io.EOF", Rows.laid_io_EOF), ("io.ErrUnexpectedEOF", Rows.laid_io_ErrUnexpectedEOF), ("io.Discard", Rows.laid_io_Discard)] [.sentinel, .sentinel, .sentinel, .sentinel, .sentinel, .wider] true :=
  Program.laidByTextLater.sub seatTie1 ["io.ErrShortWrite", "io.errInvalidWrite", "io.ErrShortBuffer", "io.EOF", "io.ErrUnexpectedEOF", "io.Discard"] (by kernel_rfl) (by kernel_rfl)
theorem lawS5015BEnhanced_row_tie : Rows.lawS5015BEnhancedRow.laidByTextAt .later Ybaf.pinned [.sentinel, .sentinel, .sentinel, .sentinel, .sentinel, .wider] true :=
  OpenClaim.laidByTextAt_later rfl rfl tie2 noOwnUnsafe
theorem lawS5015BOther_row_tie : Rows.lawS5015BOtherRow.laidByTextAt .later Ybaf.pinned [.sentinel, .sentinel, .sentinel, .sentinel, .sentinel, .wider] true :=
  OpenClaim.laidByTextAt_later rfl rfl tie2 noOwnUnsafe
theorem lawS5015BDamaged_row_tie : Rows.lawS5015BDamagedRow.laidByTextAt .later Ybaf.pinned [.sentinel, .sentinel, .sentinel, .sentinel, .sentinel, .wider] true :=
  OpenClaim.laidByTextAt_later rfl rfl tie2 noOwnUnsafe
theorem tie3 : Ybaf.prog.laidByTextLater [("io.ErrShortBuffer", Rows.laid_io_ErrShortBuffer), ("io.EOF", Rows.laid_io_EOF), ("io.ErrUnexpectedEOF", Rows.laid_io_ErrUnexpectedEOF), ("io.ErrNoProgress", Rows.laid_io_ErrNoProgress), ("bufio.errNegativeRead", Rows.laid_bufio_errNegativeRead)] [.sentinel, .sentinel, .sentinel, .sentinel, .sentinel] true :=
  Program.laidByTextLater.sub seatTie1 ["io.ErrShortBuffer", "io.EOF", "io.ErrUnexpectedEOF", "io.ErrNoProgress", "bufio.errNegativeRead"] (by kernel_rfl) (by kernel_rfl)
theorem lawS5015CBody_row_tie : Rows.lawS5015CBodyRow.laidByTextAt .later Ybaf.pinned [.sentinel, .sentinel, .sentinel, .sentinel, .sentinel] true :=
  OpenClaim.laidByTextAt_later rfl rfl tie3 noOwnUnsafe
end Go.Proofs.YbulkcyvkFmt
