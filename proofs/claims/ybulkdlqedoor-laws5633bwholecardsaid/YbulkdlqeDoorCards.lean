/-
  DERIVED. GIVEN WITH THE SEED: THE CARDS: each row of YbulkdlqeDoorRows.lean that lists a variable, with what it lists TIED to the program's text (the seventh form; the later family's looks); each row that meets fmt, with fmt's text TOLD by the authors' own Lean function (tested against real Go, not proved from fmt's source: count such statements apart). THE CARD IS WHAT COUNTS. Prove the row's statement (the work); the ties are given (YbulkdlqeDoorTie.lean); close each card by the builder's one call (the guide's Derived/Test/ToyasCard.lean, 'card_holds'). Laid BY PROGRAM, IN A SANDBOX (cutbox-door.mjs). By AI agents, Wed Nov 11 2026. No macro, syntax, notation, axiom, sorry.
-/
import Derived.Test.YbulkdlqeDoorRows
import GoSem.ClaimSeven
namespace Go.Proofs.YbulkdlqeDoor
namespace Rows

/-- THE TIED CARD OF 'ioam.LawS5633BWhole'. -/
def lawS5633BWholeCard : Claim7 := { stood := { row := lawS5633BWholeRow, standIns := [], harness := (true, "3ccef9a793926e083babe400488b68f57a478da1f14443dbe3d50ba48819083e"), looks := false }, kinds := [], alts := [], laidByText := true, laidKinds := [.widerDeep], laidTests := true, laidLooks := .later }
def LawS5633BWholeCardSaid : Prop := Claim7.holds Ybad.pinned (.plain (OpenSpec.ofChange lawS5633BWholeSpec)) lawS5633BWholeCard
end Rows
end Go.Proofs.YbulkdlqeDoor
