/-
  DERIVED. GIVEN WITH THE SEED: THE PROGRAM's TIES (one call each: nine closed facts by the kernel) AND EACH ROW's TIE, after the 31st guide's Derived/Test/Toyas{Tie, Card}.lean. No idea stands in it: it is a product of the set-up. Laid BY PROGRAM, IN A SANDBOX (cutbox-door.mjs). By AI agents, Wed Nov 11 2026. No macro, syntax, notation, axiom, sorry.
-/
import Derived.Test.Qxb6612416aDoorRows
import Derived.LaidByTextLater
import Derived.SevenTiedAt
import Derived.LaidSub
import Derived.LaidOnce
namespace Go.Proofs.Qxb6612416aDoor
open Go
set_option maxRecDepth 100000
theorem seatTie1 : Tryd.prog.laidByTextLater [("io.ErrShortWrite", Rows.laid_io_ErrShortWrite), ("io.EOF", Rows.laid_io_EOF), ("io.ErrNoProgress", Rows.laid_io_ErrNoProgress), ("bufio.ErrBufferFull", Rows.laid_bufio_ErrBufferFull), ("bufio.errNegativeRead", Rows.laid_bufio_errNegativeRead), ("example.com/pollwick/pollwick/pkg/protocol.ErrClosed", Rows.laid_example_com_pollwick_pollwick_pkg_protocol_ErrClosed), ("example.com/pollwick/pollwick/pkg/protocol.ErrLineTooLong", Rows.laid_example_com_pollwick_pollwick_pkg_protocol_ErrLineTooLong)] [.sentinel, .sentinel, .sentinel, .sentinel, .sentinel, .sentinel, .sentinel] true :=
  Program.laidByTextLater_by_one 237 8 2 (by kernel_rfl) (by kernel_rfl) (by kernel_rfl) (by kernel_rfl) (by kernel_rfl) (by kernel_rfl) (fun _ _ => by kernel_rfl)
theorem noOwnUnsafe : Tryd.pinned.checked.prog.headLifts.contains "ownunsafe" = false := by kernel_rfl
theorem tie : Tryd.prog.laidByTextLater [("io.ErrShortWrite", Rows.laid_io_ErrShortWrite), ("io.EOF", Rows.laid_io_EOF), ("io.ErrNoProgress", Rows.laid_io_ErrNoProgress), ("bufio.ErrBufferFull", Rows.laid_bufio_ErrBufferFull), ("bufio.errNegativeRead", Rows.laid_bufio_errNegativeRead), ("example.com/pollwick/pollwick/pkg/protocol.ErrLineTooLong", Rows.laid_example_com_pollwick_pollwick_pkg_protocol_ErrLineTooLong)] [.sentinel, .sentinel, .sentinel, .sentinel, .sentinel, .sentinel] true :=
  Program.laidByTextLater.sub seatTie1 ["io.ErrShortWrite", "io.EOF", "io.ErrNoProgress", "bufio.ErrBufferFull", "bufio.errNegativeRead", "example.com/pollwick/pollwick/pkg/protocol.ErrLineTooLong"] (by kernel_rfl) (by kernel_rfl)
theorem fnWriteLineReadBack_row_tie : Rows.fnWriteLineReadBackRow.laidByTextAt .later Tryd.pinned [.sentinel, .sentinel, .sentinel, .sentinel, .sentinel, .sentinel] true :=
  OpenClaim.laidByTextAt_later rfl rfl tie noOwnUnsafe
theorem tie2 : Tryd.prog.laidByTextLater [("io.ErrShortWrite", Rows.laid_io_ErrShortWrite), ("io.EOF", Rows.laid_io_EOF), ("io.ErrNoProgress", Rows.laid_io_ErrNoProgress), ("bufio.ErrBufferFull", Rows.laid_bufio_ErrBufferFull), ("bufio.errNegativeRead", Rows.laid_bufio_errNegativeRead), ("example.com/pollwick/pollwick/pkg/protocol.ErrClosed", Rows.laid_example_com_pollwick_pollwick_pkg_protocol_ErrClosed), ("example.com/pollwick/pollwick/pkg/protocol.ErrLineTooLong", Rows.laid_example_com_pollwick_pollwick_pkg_protocol_ErrLineTooLong)] [.sentinel, .sentinel, .sentinel, .sentinel, .sentinel, .sentinel, .sentinel] true :=
  Program.laidByTextLater.sub seatTie1 ["io.ErrShortWrite", "io.EOF", "io.ErrNoProgress", "bufio.ErrBufferFull", "bufio.errNegativeRead", "example.com/pollwick/pollwick/pkg/protocol.ErrClosed", "example.com/pollwick/pollwick/pkg/protocol.ErrLineTooLong"] (by kernel_rfl) (by kernel_rfl)
theorem fnBlockAnswerExact_row_tie : Rows.fnBlockAnswerExactRow.laidByTextAt .later Tryd.pinned [.sentinel, .sentinel, .sentinel, .sentinel, .sentinel, .sentinel, .sentinel] true :=
  OpenClaim.laidByTextAt_later rfl rfl tie2 noOwnUnsafe
theorem fnBlockReadsWriteBlock_row_tie : Rows.fnBlockReadsWriteBlockRow.laidByTextAt .later Tryd.pinned [.sentinel, .sentinel, .sentinel, .sentinel, .sentinel, .sentinel, .sentinel] true :=
  OpenClaim.laidByTextAt_later rfl rfl tie2 noOwnUnsafe
end Go.Proofs.Qxb6612416aDoor
