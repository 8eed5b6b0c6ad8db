/-
  DERIVED. GIVEN WITH THE SEED: THE CARDS: each row of YbulkdlqeFmtRows.lean that lists a variable, with what it lists TIED to the program's text (the seventh form; the later family's looks); each row that meets fmt, with fmt's text TOLD by the authors' own Lean function (tested against real Go, not proved from fmt's source: count such statements apart). THE CARD IS WHAT COUNTS. Prove the row's statement (the work); the ties are given (YbulkdlqeFmtTie.lean); close each card by the builder's one call (the guide's Derived/Test/ToyasCard.lean, 'card_holds'). Laid BY PROGRAM, IN A SANDBOX (cutbox-door.mjs). By AI agents, Wed Nov 11 2026. No macro, syntax, notation, axiom, sorry.
-/
import Derived.Test.YbulkdlqeFmtRows
import GoSem.ClaimSeven
namespace Go.Proofs.YbulkdlqeFmt
namespace Rows

/-- THE TOLD AND TIED CARD OF 'ioam.LawS5633APart'. -/
def lawS5633APartCard : Claim7 := { stood := { row := lawS5633APartRow, standIns := [], harness := (true, "b6b723f36e011f14c08eb45efe7fbcbc077efe16b708e6c29d5580903b7ca076"), looks := true }, told := true, laidByText := true, laidKinds := [.sentinel, .sentinel, .sentinel, .sentinel, .sentinel, .sentinel, .widerDeep], laidTests := true, laidLooks := .later, goes := false }
def LawS5633APartToldSaid : Prop := Claim7.holds Ybaf.pinned (.plain (OpenSpec.ofChange lawS5633APartSpec)) lawS5633APartCard
/-- ITS FALSE NEIGHBOUR. Refute it at one input. -/
def LawS5633APartToldWrongFalsely : Prop := Claim7.holds Ybaf.pinned (.plain (OpenSpec.ofChange lawS5633APartWrong)) lawS5633APartCard

/-- THE TOLD AND TIED CARD OF 'ioam.LawS5633APush'. -/
def lawS5633APushCard : Claim7 := { stood := { row := lawS5633APushRow, standIns := [], harness := (true, "b6b723f36e011f14c08eb45efe7fbcbc077efe16b708e6c29d5580903b7ca076"), looks := true }, told := true, laidByText := true, laidKinds := [.sentinel, .sentinel, .sentinel, .sentinel, .sentinel, .sentinel, .widerDeep], laidTests := true, laidLooks := .later, goes := false }
def LawS5633APushToldSaid : Prop := Claim7.holds Ybaf.pinned (.plain (OpenSpec.ofChange lawS5633APushSpec)) lawS5633APushCard
/-- ITS FALSE NEIGHBOUR. Refute it at one input. -/
def LawS5633APushToldWrongFalsely : Prop := Claim7.holds Ybaf.pinned (.plain (OpenSpec.ofChange lawS5633APushWrong)) lawS5633APushCard
end Rows
end Go.Proofs.YbulkdlqeFmt
