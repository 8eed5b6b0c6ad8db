/-
  NARROWER THAN 'FOR EVERY INPUT', by the rows' own cells (each row's printed sentence says how): LawS5636BWhole: ifaces, laid.
  DERIVED. THE GIVEN ROWS OF THIS SEAT. 2 by the template 'for every input the law returns true; each argument reads behind the call as it read before'; 0 by the template 'total and deterministic' (their statements: YbulkdlruFmtTotals.lean).
  GIVEN WITH THE SEED: the statements are not yours to turn. If you find one false, say at which input.
  Laid BY PROGRAM, IN A SANDBOX (cutbox-rows.mjs): the forced cells as the released guide's own fill.sh prints them over the translation 0d4cb91336457034… (all of the seat's roots in one cut). By AI agents, Wed Nov 11 2026. No macro, syntax, notation, axiom, sorry.
-/
import Derived.Test.YbulkdlruFmtChecked
import GoSem.Claim
import GoSem.ClaimJoined
import GoSem.ClaimMapViews
import Derived.JoinedTies
import Derived.KernelRfl
namespace Go.Proofs.YbulkdlruFmt
/- THE CELL 'sum', in the pinned program and in every row, IS THE sha256 OF THE DUMP (.gsa) THAT YbulkdlruFmtProg.lean LOADS. Nothing in Lean hashes anything: it is a label: what it is worth is what the hold of that sum in a sandbox is worth. -/
noncomputable def Ybaf.pinned : Pinned := { name := "ybulkdlrufmt", sum := "0d4cb913364570349b93509483ee2a13bd9b3a3aa58a3ef40912aa7f4f2efab8", checked := Ybaf.checked }
namespace Rows
def none {H : Type} : Left H := { results := [], args := [] }

/- WHAT THE LISTED PACKAGE-LEVEL VARIABLES READ AS WHEN THE CALL BEGINS. Each datum BY PROGRAM (the guide's laid-datum.mjs) off the statement by which the dump's own 'gosem.cut.vars' lays the variable. In a bare row this is a premise. The card (YbulkdlruFmtCards.lean) ties it to the program's text. -/
def laid_example_com_viewlatch_viewlatch_errEndsEarly {H : Type} : DataW H := .iface "*errors.errorString" (.ptr (.agg [.lit (.string [116, 104, 101, 32, 98, 121, 116, 101, 115, 32, 101, 110, 100, 32, 105, 110, 115, 105, 100, 101, 32, 105, 116])]))

/-- 'viewlatch.LawS5636AWhole': WHATEVER THE INPUT: true; the input reads as it did. -/
def lawS5636AWholeSpec : ChangeSpec := { name := "lawS5636AWhole", fn := fun _ => fun
  | [d1, d2, d3, d4, d5, d6, d7] => { results := [.lit (.bool true)], args := [d1, d2, d3, d4, d5, d6, d7] }
  | _ => none }
def lawS5636AWholeRow : OpenClaim := { program := "ybulkdlrufmt", sum := "0d4cb913364570349b93509483ee2a13bd9b3a3aa58a3ef40912aa7f4f2efab8", func := "example.com/viewlatch/viewlatch.LawS5636AWhole", spec := "lawS5636AWhole", stops := ["fmt.errorf"], inPlace := ["fmt.errorf"], unfollowed := true, recurses := true, named := ["encoding/binary.BigEndian"], plainKeys := false, apart := false }
/-- NO THEOREM (fmt's text is open here; it may be false): for the released tool's asking of the row's closed facts alone. THE STATEMENT IS 'LawS5636AWholeToldSaid' (YbulkdlruFmtCards.lean). -/
def LawS5636AWholeFormAsk : Prop := lawS5636AWholeRow.holds Ybaf.pinned (OpenSpec.ofChange lawS5636AWholeSpec)

/-- ITS FALSE NEIGHBOUR: 'it returns false'. Refute it at one input. -/
def lawS5636AWholeWrong : ChangeSpec := { name := "lawS5636AWhole", fn := fun _ => fun
  | [d1, d2, d3, d4, d5, d6, d7] => { results := [.lit (.bool false)], args := [d1, d2, d3, d4, d5, d6, d7] }
  | _ => none }
def LawS5636AWholeWrongFormAsk : Prop := lawS5636AWholeRow.holds Ybaf.pinned (OpenSpec.ofChange lawS5636AWholeWrong)

/-- 'viewlatch.LawS5636BWhole': WHATEVER THE INPUT: true; the input reads as it did. -/
def lawS5636BWholeSpec : ChangeSpec := { name := "lawS5636BWhole", vars := ["example.com/viewlatch/viewlatch.errEndsEarly"], fn := fun _ => fun
  | [d1, d2, d3, d4, d5, d6, d7, d8, d9, g1] => { results := [.lit (.bool true)], args := [d1, d2, d3, d4, d5, d6, d7, d8, d9], vars := [g1] }
  | _ => none }
def lawS5636BWholeRow : OpenClaim := { program := "ybulkdlrufmt", sum := "0d4cb913364570349b93509483ee2a13bd9b3a3aa58a3ef40912aa7f4f2efab8", func := "example.com/viewlatch/viewlatch.LawS5636BWhole", spec := "lawS5636BWhole", stops := ["fmt.errorf"], inPlace := ["fmt.errorf"], unfollowed := true, recurses := true, named := ["example.com/viewlatch/viewlatch.errEndsEarly", "encoding/binary.BigEndian"], ifaces := true, plainKeys := false, apart := false, laid := [("example.com/viewlatch/viewlatch.errEndsEarly", laid_example_com_viewlatch_viewlatch_errEndsEarly)] }
/-- NO THEOREM (fmt's text is open here; it may be false): for the released tool's asking of the row's closed facts alone. THE STATEMENT IS 'LawS5636BWholeToldSaid' (YbulkdlruFmtCards.lean). -/
def LawS5636BWholeFormAsk : Prop := lawS5636BWholeRow.holds Ybaf.pinned (OpenSpec.ofChange lawS5636BWholeSpec)

/-- ITS FALSE NEIGHBOUR: 'it returns false'. Refute it at one input. -/
def lawS5636BWholeWrong : ChangeSpec := { name := "lawS5636BWhole", vars := ["example.com/viewlatch/viewlatch.errEndsEarly"], fn := fun _ => fun
  | [d1, d2, d3, d4, d5, d6, d7, d8, d9, g1] => { results := [.lit (.bool false)], args := [d1, d2, d3, d4, d5, d6, d7, d8, d9], vars := [g1] }
  | _ => none }
def LawS5636BWholeWrongFormAsk : Prop := lawS5636BWholeRow.holds Ybaf.pinned (OpenSpec.ofChange lawS5636BWholeWrong)

end Rows
end Go.Proofs.YbulkdlruFmt
