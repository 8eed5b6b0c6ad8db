/-
  DERIVED. GIVEN WITH THE SEED: THE PROGRAM's TIES (one call each: nine closed facts by the kernel) AND EACH ROW's TIE, after the 31st guide's Derived/Test/Toyas{Tie, Card}.lean. No idea stands in it: it is a product of the set-up. Laid BY PROGRAM, IN A SANDBOX (cutbox-door.mjs). By AI agents, Wed Nov 11 2026. No macro, syntax, notation, axiom, sorry.
-/
import Derived.Test.YbulkdlswDoorRows
import Derived.LaidByTextLater
import Derived.SevenTiedAt
import Derived.LaidSub
import Derived.LaidOnce
namespace Go.Proofs.YbulkdlswDoor
open Go
set_option maxRecDepth 100000
theorem seatTie1 : Ybad.prog.laidByTextLater [("io.EOF", Rows.laid_io_EOF), ("io.ErrNoProgress", Rows.laid_io_ErrNoProgress), ("bufio.ErrBufferFull", Rows.laid_bufio_ErrBufferFull), ("bufio.ErrNegativeCount", Rows.laid_bufio_ErrNegativeCount), ("bufio.errNegativeRead", Rows.laid_bufio_errNegativeRead)] [.called, .called, .called, .called, .called] true :=
  Program.laidByTextLater_by_one 104 8 2 (by kernel_rfl) (by kernel_rfl) (by kernel_rfl) (by kernel_rfl) (by kernel_rfl) (by kernel_rfl) (fun _ _ => by kernel_rfl)
theorem noOwnUnsafe : Ybad.pinned.checked.prog.headLifts.contains "ownunsafe" = false := by kernel_rfl
theorem tie : Ybad.prog.laidByTextLater [("io.EOF", Rows.laid_io_EOF), ("io.ErrNoProgress", Rows.laid_io_ErrNoProgress), ("bufio.ErrBufferFull", Rows.laid_bufio_ErrBufferFull), ("bufio.ErrNegativeCount", Rows.laid_bufio_ErrNegativeCount), ("bufio.errNegativeRead", Rows.laid_bufio_errNegativeRead)] [.called, .called, .called, .called, .called] true :=
  Program.laidByTextLater.sub seatTie1 ["io.EOF", "io.ErrNoProgress", "bufio.ErrBufferFull", "bufio.ErrNegativeCount", "bufio.errNegativeRead"] (by kernel_rfl) (by kernel_rfl)
theorem lawS5638BWhole_row_tie : Rows.lawS5638BWholeRow.laidByTextAt .later Ybad.pinned [.called, .called, .called, .called, .called] true :=
  OpenClaim.laidByTextAt_later rfl rfl tie noOwnUnsafe
end Go.Proofs.YbulkdlswDoor
