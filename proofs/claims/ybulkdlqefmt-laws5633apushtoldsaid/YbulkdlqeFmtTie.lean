/-
  DERIVED. GIVEN WITH THE SEED: THE PROGRAM's TIES (one call each: nine closed facts by the kernel) AND EACH ROW's TIE, after the 31st guide's Derived/Test/Toyas{Tie, Card}.lean. No idea stands in it: it is a product of the set-up. Laid BY PROGRAM, IN A SANDBOX (cutbox-door.mjs). By AI agents, Wed Nov 11 2026. No macro, syntax, notation, axiom, sorry.
-/
import Derived.Test.YbulkdlqeFmtRows
import Derived.LaidByTextLater
import Derived.SevenTiedAt
import Derived.LaidSub
import Derived.LaidOnce
namespace Go.Proofs.YbulkdlqeFmt
open Go
set_option maxRecDepth 100000
theorem seatTie1 : Ybaf.prog.laidByTextLater [("example.com/hopscribe/hopscribe/pkg/ioam.ErrTooShort", Rows.laid_example_com_hopscribe_hopscribe_pkg_ioam_ErrTooShort), ("example.com/hopscribe/hopscribe/pkg/ioam.ErrNodeLen", Rows.laid_example_com_hopscribe_hopscribe_pkg_ioam_ErrNodeLen), ("example.com/hopscribe/hopscribe/pkg/ioam.ErrRemainingLen", Rows.laid_example_com_hopscribe_hopscribe_pkg_ioam_ErrRemainingLen), ("example.com/hopscribe/hopscribe/pkg/ioam.ErrPartialNode", Rows.laid_example_com_hopscribe_hopscribe_pkg_ioam_ErrPartialNode), ("example.com/hopscribe/hopscribe/pkg/ioam.ErrOpaqueOverrun", Rows.laid_example_com_hopscribe_hopscribe_pkg_ioam_ErrOpaqueOverrun), ("example.com/hopscribe/hopscribe/pkg/ioam.errNotTrace", Rows.laid_example_com_hopscribe_hopscribe_pkg_ioam_errNotTrace), ("example.com/hopscribe/hopscribe/pkg/ioam.nodeFields", Rows.laid_example_com_hopscribe_hopscribe_pkg_ioam_nodeFields)] [.sentinel, .sentinel, .sentinel, .sentinel, .sentinel, .sentinel, .widerDeep] true :=
  Program.laidByTextLater_by_one 155 8 79 (by kernel_rfl) (by kernel_rfl) (by kernel_rfl) (by kernel_rfl) (by kernel_rfl) (by kernel_rfl) (fun _ _ => by kernel_rfl)
theorem noOwnUnsafe : Ybaf.pinned.checked.prog.headLifts.contains "ownunsafe" = false := by kernel_rfl
theorem tie : Ybaf.prog.laidByTextLater [("example.com/hopscribe/hopscribe/pkg/ioam.ErrTooShort", Rows.laid_example_com_hopscribe_hopscribe_pkg_ioam_ErrTooShort), ("example.com/hopscribe/hopscribe/pkg/ioam.ErrNodeLen", Rows.laid_example_com_hopscribe_hopscribe_pkg_ioam_ErrNodeLen), ("example.com/hopscribe/hopscribe/pkg/ioam.ErrRemainingLen", Rows.laid_example_com_hopscribe_hopscribe_pkg_ioam_ErrRemainingLen), ("example.com/hopscribe/hopscribe/pkg/ioam.ErrPartialNode", Rows.laid_example_com_hopscribe_hopscribe_pkg_ioam_ErrPartialNode), ("example.com/hopscribe/hopscribe/pkg/ioam.ErrOpaqueOverrun", Rows.laid_example_com_hopscribe_hopscribe_pkg_ioam_ErrOpaqueOverrun), ("example.com/hopscribe/hopscribe/pkg/ioam.errNotTrace", Rows.laid_example_com_hopscribe_hopscribe_pkg_ioam_errNotTrace), ("example.com/hopscribe/hopscribe/pkg/ioam.nodeFields", Rows.laid_example_com_hopscribe_hopscribe_pkg_ioam_nodeFields)] [.sentinel, .sentinel, .sentinel, .sentinel, .sentinel, .sentinel, .widerDeep] true :=
  Program.laidByTextLater.sub seatTie1 ["example.com/hopscribe/hopscribe/pkg/ioam.ErrTooShort", "example.com/hopscribe/hopscribe/pkg/ioam.ErrNodeLen", "example.com/hopscribe/hopscribe/pkg/ioam.ErrRemainingLen", "example.com/hopscribe/hopscribe/pkg/ioam.ErrPartialNode", "example.com/hopscribe/hopscribe/pkg/ioam.ErrOpaqueOverrun", "example.com/hopscribe/hopscribe/pkg/ioam.errNotTrace", "example.com/hopscribe/hopscribe/pkg/ioam.nodeFields"] (by kernel_rfl) (by kernel_rfl)
theorem lawS5633APart_row_tie : Rows.lawS5633APartRow.laidByTextAt .later Ybaf.pinned [.sentinel, .sentinel, .sentinel, .sentinel, .sentinel, .sentinel, .widerDeep] true :=
  OpenClaim.laidByTextAt_later rfl rfl tie noOwnUnsafe
theorem lawS5633APush_row_tie : Rows.lawS5633APushRow.laidByTextAt .later Ybaf.pinned [.sentinel, .sentinel, .sentinel, .sentinel, .sentinel, .sentinel, .widerDeep] true :=
  OpenClaim.laidByTextAt_later rfl rfl tie noOwnUnsafe
end Go.Proofs.YbulkdlqeFmt
