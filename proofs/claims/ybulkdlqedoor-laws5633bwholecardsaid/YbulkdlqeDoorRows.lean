/-
  NARROWER THAN 'FOR EVERY INPUT', by the rows' own cells (each row's printed sentence says how): LawS5633BWhole: laid.
  DERIVED. THE GIVEN ROWS OF THIS SEAT. 1 by the template 'for every input the law returns true; each argument reads behind the call as it read before'; 0 by the template 'total and deterministic' (their statements: YbulkdlqeDoorTotals.lean).
  GIVEN WITH THE SEED: the statements are not yours to turn. If you find one false, say at which input.
  Laid BY PROGRAM, IN A SANDBOX (cutbox-rows.mjs): the forced cells as the released guide's own fill.sh prints them over the translation d7338d4c06d6b8f3… (all of the seat's roots in one cut). By AI agents, Wed Nov 11 2026. No macro, syntax, notation, axiom, sorry.
-/
import Derived.Test.YbulkdlqeDoorChecked
import GoSem.Claim
import GoSem.ClaimJoined
import GoSem.ClaimMapViews
import Derived.JoinedTies
import Derived.KernelRfl
namespace Go.Proofs.YbulkdlqeDoor
/- THE CELL 'sum', in the pinned program and in every row, IS THE sha256 OF THE DUMP (.gsa) THAT YbulkdlqeDoorProg.lean LOADS. Nothing in Lean hashes anything: it is a label: what it is worth is what the hold of that sum in a sandbox is worth. -/
noncomputable def Ybad.pinned : Pinned := { name := "ybulkdlqedoor", sum := "d7338d4c06d6b8f30264cff3a09f6974781c5c93012cac5b1eb9de5841d0fabd", checked := Ybad.checked }
namespace Rows
def none {H : Type} : Left H := { results := [], args := [] }

/- WHAT THE LISTED PACKAGE-LEVEL VARIABLES READ AS WHEN THE CALL BEGINS. Each datum BY PROGRAM (the guide's laid-datum.mjs) off the statement by which the dump's own 'gosem.cut.vars' lays the variable. In a bare row this is a premise. The card (YbulkdlqeDoorCards.lean) ties it to the program's text. -/
def laid_example_com_hopscribe_hopscribe_pkg_ioam_nodeFields {H : Type} : DataW H := .agg [.lit (.int .u64 24), .slice [.agg [.lit (.string [104, 111, 112, 95, 108, 105, 109, 105, 116]), .lit (.int .u64 0), .lit (.int .i64 1)], .agg [.lit (.string [110, 111, 100, 101, 95, 105, 100]), .lit (.int .u64 0), .lit (.int .i64 3)], .agg [.lit (.string [105, 110, 103, 114, 101, 115, 115, 95, 105, 102]), .lit (.int .u64 1), .lit (.int .i64 2)], .agg [.lit (.string [101, 103, 114, 101, 115, 115, 95, 105, 102]), .lit (.int .u64 1), .lit (.int .i64 2)], .agg [.lit (.string [116, 105, 109, 101, 115, 116, 97, 109, 112, 95, 115, 101, 99, 111, 110, 100, 115]), .lit (.int .u64 2), .lit (.int .i64 4)], .agg [.lit (.string [116, 105, 109, 101, 115, 116, 97, 109, 112, 95, 102, 114, 97, 99, 116, 105, 111, 110]), .lit (.int .u64 3), .lit (.int .i64 4)], .agg [.lit (.string [116, 114, 97, 110, 115, 105, 116, 95, 100, 101, 108, 97, 121]), .lit (.int .u64 4), .lit (.int .i64 4)], .agg [.lit (.string [110, 97, 109, 101, 115, 112, 97, 99, 101, 95, 100, 97, 116, 97]), .lit (.int .u64 5), .lit (.int .i64 4)], .agg [.lit (.string [113, 117, 101, 117, 101, 95, 100, 101, 112, 116, 104]), .lit (.int .u64 6), .lit (.int .i64 4)], .agg [.lit (.string [99, 104, 101, 99, 107, 115, 117, 109, 95, 99, 111, 109, 112, 108, 101, 109, 101, 110, 116]), .lit (.int .u64 7), .lit (.int .i64 4)], .agg [.lit (.string [104, 111, 112, 95, 108, 105, 109, 105, 116, 95, 119, 105, 100, 101]), .lit (.int .u64 8), .lit (.int .i64 1)], .agg [.lit (.string [110, 111, 100, 101, 95, 105, 100, 95, 119, 105, 100, 101]), .lit (.int .u64 8), .lit (.int .i64 7)], .agg [.lit (.string [105, 110, 103, 114, 101, 115, 115, 95, 105, 102, 95, 119, 105, 100, 101]), .lit (.int .u64 9), .lit (.int .i64 4)], .agg [.lit (.string [101, 103, 114, 101, 115, 115, 95, 105, 102, 95, 119, 105, 100, 101]), .lit (.int .u64 9), .lit (.int .i64 4)], .agg [.lit (.string [110, 97, 109, 101, 115, 112, 97, 99, 101, 95, 100, 97, 116, 97, 95, 119, 105, 100, 101]), .lit (.int .u64 10), .lit (.int .i64 8)], .agg [.lit (.string [98, 117, 102, 102, 101, 114, 95, 111, 99, 99, 117, 112, 97, 110, 99, 121]), .lit (.int .u64 11), .lit (.int .i64 4)], .agg [.lit (.string [49, 50]), .lit (.int .u64 12), .lit (.int .i64 4)], .agg [.lit (.string [49, 51]), .lit (.int .u64 13), .lit (.int .i64 4)], .agg [.lit (.string [49, 52]), .lit (.int .u64 14), .lit (.int .i64 4)], .agg [.lit (.string [49, 53]), .lit (.int .u64 15), .lit (.int .i64 4)], .agg [.lit (.string [49, 54]), .lit (.int .u64 16), .lit (.int .i64 4)], .agg [.lit (.string [49, 55]), .lit (.int .u64 17), .lit (.int .i64 4)], .agg [.lit (.string [49, 56]), .lit (.int .u64 18), .lit (.int .i64 4)], .agg [.lit (.string [49, 57]), .lit (.int .u64 19), .lit (.int .i64 4)], .agg [.lit (.string [50, 48]), .lit (.int .u64 20), .lit (.int .i64 4)], .agg [.lit (.string [50, 49]), .lit (.int .u64 21), .lit (.int .i64 4)]] []]

/-- 'ioam.LawS5633BWhole': WHATEVER THE INPUT: true; the input reads as it did. -/
def lawS5633BWholeSpec : ChangeSpec := { name := "lawS5633BWhole", vars := ["example.com/hopscribe/hopscribe/pkg/ioam.nodeFields"], fn := fun _ => fun
  | [d1, d2, d3, d4, d5, d6, d7, d8, g1] => { results := [.lit (.bool true)], args := [d1, d2, d3, d4, d5, d6, d7, d8], vars := [g1] }
  | _ => none }
def lawS5633BWholeRow : OpenClaim := { program := "ybulkdlqedoor", sum := "d7338d4c06d6b8f30264cff3a09f6974781c5c93012cac5b1eb9de5841d0fabd", func := "example.com/hopscribe/hopscribe/pkg/ioam.LawS5633BWhole", spec := "lawS5633BWhole", named := ["example.com/hopscribe/hopscribe/pkg/ioam.nodeFields"], apart := false, laid := [("example.com/hopscribe/hopscribe/pkg/ioam.nodeFields", laid_example_com_hopscribe_hopscribe_pkg_ioam_nodeFields)] }
def LawS5633BWholeSaid : Prop := lawS5633BWholeRow.holds Ybad.pinned (OpenSpec.ofChange lawS5633BWholeSpec)

/-- ITS FALSE NEIGHBOUR: 'it returns false'. Refute it at one input. -/
def lawS5633BWholeWrong : ChangeSpec := { name := "lawS5633BWhole", vars := ["example.com/hopscribe/hopscribe/pkg/ioam.nodeFields"], fn := fun _ => fun
  | [d1, d2, d3, d4, d5, d6, d7, d8, g1] => { results := [.lit (.bool false)], args := [d1, d2, d3, d4, d5, d6, d7, d8], vars := [g1] }
  | _ => none }
def LawS5633BWholeWrongFalsely : Prop := lawS5633BWholeRow.holds Ybad.pinned (OpenSpec.ofChange lawS5633BWholeWrong)

end Rows
end Go.Proofs.YbulkdlqeDoor
