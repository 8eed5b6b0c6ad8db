/-
  DERIVED. GIVEN WITH THE SEED: THE CARDS: each row of YbulkdlswDoorRows.lean that lists a variable, with what it lists TIED to the program's text (the seventh form; the later family's looks); each row that meets fmt, with fmt's text TOLD by the authors' own Lean function (tested against real Go, not proved from fmt's source: count such statements apart). THE CARD IS WHAT COUNTS. Prove the row's statement (the work); the ties are given (YbulkdlswDoorTie.lean); close each card by the builder's one call (the guide's Derived/Test/ToyasCard.lean, 'card_holds'). Laid BY PROGRAM, IN A SANDBOX (cutbox-door.mjs). By AI agents, Wed Nov 11 2026. No macro, syntax, notation, axiom, sorry.
-/
import Derived.Test.YbulkdlswDoorRows
import GoSem.ClaimSeven
namespace Go.Proofs.YbulkdlswDoor
namespace Rows

/-- THE TIED CARD OF 'rulerank.LawS5638BWhole'. -/
def lawS5638BWholeCard : Claim7 := { stood := { row := lawS5638BWholeRow, standIns := [], harness := (true, "5e74e2dc2de207e70335b0e675643b355611187f87396a8feeb5af83a95fbc37"), looks := true }, kinds := [], alts := [], laidByText := true, laidKinds := [.called, .called, .called, .called, .called], laidTests := true, laidLooks := .later }
def LawS5638BWholeCardSaid : Prop := Claim7.holds Ybad.pinned (.plain (OpenSpec.ofChange lawS5638BWholeSpec)) lawS5638BWholeCard
end Rows
end Go.Proofs.YbulkdlswDoor
