/-
  DERIVED. GIVEN WITH THE SEED: THE PROGRAM's TIES (one call each: nine closed facts by the kernel) AND EACH ROW's TIE, after the 31st guide's Derived/Test/Toyas{Tie, Card}.lean. No idea stands in it: it is a product of the set-up. Laid BY PROGRAM, IN A SANDBOX (cutbox-door.mjs). By AI agents, Wed Nov 11 2026. No macro, syntax, notation, axiom, sorry.
-/
import Derived.Test.Qxb6614532aFmtRows
import Derived.LaidByTextLater
import Derived.SevenTiedAt
import Derived.LaidSub
import Derived.LaidOnce
namespace Go.Proofs.Qxb6614532aFmt
open Go
set_option maxRecDepth 100000
theorem seatTie1 : Tryf.prog.laidByTextLater [("io.ErrShortBuffer", Rows.laid_io_ErrShortBuffer), ("io.EOF", Rows.laid_io_EOF), ("io.ErrUnexpectedEOF", Rows.laid_io_ErrUnexpectedEOF), ("io.ErrNoProgress", Rows.laid_io_ErrNoProgress), ("bufio.ErrBufferFull", Rows.laid_bufio_ErrBufferFull), ("bufio.ErrNegativeCount", Rows.laid_bufio_ErrNegativeCount), ("bufio.errNegativeRead", Rows.laid_bufio_errNegativeRead), ("example.com/shardwarden/shardwarden/pkg/frame.ErrTooLong", Rows.laid_example_com_shardwarden_shardwarden_pkg_frame_ErrTooLong)] [.sentinel, .sentinel, .sentinel, .sentinel, .sentinel, .sentinel, .sentinel, .sentinel] true :=
  Program.laidByTextLater_by_one 161 8 2 (by kernel_rfl) (by kernel_rfl) (by kernel_rfl) (by kernel_rfl) (by kernel_rfl) (by kernel_rfl) (fun _ _ => by kernel_rfl)
theorem noOwnUnsafe : Tryf.pinned.checked.prog.headLifts.contains "ownunsafe" = false := by kernel_rfl
theorem tie : Tryf.prog.laidByTextLater [("io.EOF", Rows.laid_io_EOF), ("io.ErrUnexpectedEOF", Rows.laid_io_ErrUnexpectedEOF), ("io.ErrNoProgress", Rows.laid_io_ErrNoProgress), ("bufio.ErrBufferFull", Rows.laid_bufio_ErrBufferFull), ("bufio.ErrNegativeCount", Rows.laid_bufio_ErrNegativeCount), ("bufio.errNegativeRead", Rows.laid_bufio_errNegativeRead), ("example.com/shardwarden/shardwarden/pkg/frame.ErrTooLong", Rows.laid_example_com_shardwarden_shardwarden_pkg_frame_ErrTooLong)] [.sentinel, .sentinel, .sentinel, .sentinel, .sentinel, .sentinel, .sentinel] true :=
  Program.laidByTextLater.sub seatTie1 ["io.EOF", "io.ErrUnexpectedEOF", "io.ErrNoProgress", "bufio.ErrBufferFull", "bufio.ErrNegativeCount", "bufio.errNegativeRead", "example.com/shardwarden/shardwarden/pkg/frame.ErrTooLong"] (by kernel_rfl) (by kernel_rfl)
theorem fnLengthReadsEachHeadInTurn_row_tie : Rows.fnLengthReadsEachHeadInTurnRow.laidByTextAt .later Tryf.pinned [.sentinel, .sentinel, .sentinel, .sentinel, .sentinel, .sentinel, .sentinel] true :=
  OpenClaim.laidByTextAt_later rfl rfl tie noOwnUnsafe
theorem tie2 : Tryf.prog.laidByTextLater [("io.ErrShortBuffer", Rows.laid_io_ErrShortBuffer), ("io.EOF", Rows.laid_io_EOF), ("io.ErrUnexpectedEOF", Rows.laid_io_ErrUnexpectedEOF), ("io.ErrNoProgress", Rows.laid_io_ErrNoProgress), ("bufio.ErrBufferFull", Rows.laid_bufio_ErrBufferFull), ("bufio.ErrNegativeCount", Rows.laid_bufio_ErrNegativeCount), ("bufio.errNegativeRead", Rows.laid_bufio_errNegativeRead), ("example.com/shardwarden/shardwarden/pkg/frame.ErrTooLong", Rows.laid_example_com_shardwarden_shardwarden_pkg_frame_ErrTooLong)] [.sentinel, .sentinel, .sentinel, .sentinel, .sentinel, .sentinel, .sentinel, .sentinel] true :=
  Program.laidByTextLater.sub seatTie1 ["io.ErrShortBuffer", "io.EOF", "io.ErrUnexpectedEOF", "io.ErrNoProgress", "bufio.ErrBufferFull", "bufio.ErrNegativeCount", "bufio.errNegativeRead", "example.com/shardwarden/shardwarden/pkg/frame.ErrTooLong"] (by kernel_rfl) (by kernel_rfl)
theorem fnReaderNextSkipScript_row_tie : Rows.fnReaderNextSkipScriptRow.laidByTextAt .later Tryf.pinned [.sentinel, .sentinel, .sentinel, .sentinel, .sentinel, .sentinel, .sentinel, .sentinel] true :=
  OpenClaim.laidByTextAt_later rfl rfl tie2 noOwnUnsafe
theorem fnReaderReadsOnAsFresh_row_tie : Rows.fnReaderReadsOnAsFreshRow.laidByTextAt .later Tryf.pinned [.sentinel, .sentinel, .sentinel, .sentinel, .sentinel, .sentinel, .sentinel, .sentinel] true :=
  OpenClaim.laidByTextAt_later rfl rfl tie2 noOwnUnsafe
end Go.Proofs.Qxb6614532aFmt
