/-
  DERIVED. GIVEN WITH THE SEED: THE CARDS: each row of YbulkdlruFmtRows.lean that lists a variable, with what it lists TIED to the program's text (the seventh form; the later family's looks); each row that meets fmt, with fmt's text TOLD by the authors' own Lean function (tested against real Go, not proved from fmt's source: count such statements apart). THE CARD IS WHAT COUNTS. Prove the row's statement (the work); the ties are given (YbulkdlruFmtTie.lean); close each card by the builder's one call (the guide's Derived/Test/ToyasCard.lean, 'card_holds'). Laid BY PROGRAM, IN A SANDBOX (cutbox-door.mjs). By AI agents, Wed Nov 11 2026. No macro, syntax, notation, axiom, sorry.
-/
import Derived.Test.YbulkdlruFmtRows
import GoSem.ClaimSeven
namespace Go.Proofs.YbulkdlruFmt
namespace Rows

/-- THE TOLD CARD OF 'viewlatch.LawS5636AWhole'. -/
def lawS5636AWholeCard : Claim7 := { stood := { row := lawS5636AWholeRow, standIns := [], harness := (true, "3183a59a770ee96a0540519c17d8b062fcaf7ba4eaaa5520bade67b6e56e0c21"), looks := true }, told := true, goes := false }
def LawS5636AWholeToldSaid : Prop := Claim7.holds Ybaf.pinned (.plain (OpenSpec.ofChange lawS5636AWholeSpec)) lawS5636AWholeCard
/-- ITS FALSE NEIGHBOUR. Refute it at one input. -/
def LawS5636AWholeToldWrongFalsely : Prop := Claim7.holds Ybaf.pinned (.plain (OpenSpec.ofChange lawS5636AWholeWrong)) lawS5636AWholeCard

/-- THE TOLD AND TIED CARD OF 'viewlatch.LawS5636BWhole'. -/
def lawS5636BWholeCard : Claim7 := { stood := { row := lawS5636BWholeRow, standIns := [], harness := (true, "3183a59a770ee96a0540519c17d8b062fcaf7ba4eaaa5520bade67b6e56e0c21"), looks := true }, told := true, laidByText := true, laidKinds := [.sentinel], laidTests := true, laidLooks := .later, goes := false }
def LawS5636BWholeToldSaid : Prop := Claim7.holds Ybaf.pinned (.plain (OpenSpec.ofChange lawS5636BWholeSpec)) lawS5636BWholeCard
/-- ITS FALSE NEIGHBOUR. Refute it at one input. -/
def LawS5636BWholeToldWrongFalsely : Prop := Claim7.holds Ybaf.pinned (.plain (OpenSpec.ofChange lawS5636BWholeWrong)) lawS5636BWholeCard
end Rows
end Go.Proofs.YbulkdlruFmt
