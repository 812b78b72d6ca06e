/-
  NARROWER THAN 'FOR EVERY INPUT', by the rows' own cells (each row's printed sentence says how): LawS4241CNames: laid · LawS4241CDecision: laid.
  DERIVED. THE GIVEN ROWS OF THIS SEAT. 3 by the template 'for every input the law returns true; each argument reads behind the call as it read before'; 0 by the template 'total and deterministic' (their statements: YbulkciuqFmtTotals.lean).
  GIVEN WITH THE SEED: the statements are not yours to turn. If you find one false, say at which input.
  Laid BY PROGRAM, IN A SANDBOX (cutbox-rows.mjs): the forced cells as the released guide's own fill.sh prints them over the translation 3fdce7f2e0a16730… (all of the seat's roots in one cut). By AI agents, Wed Nov 11 2026. No macro, syntax, notation, axiom, sorry.
-/
import Derived.Test.YbulkciuqFmtChecked
import GoSem.Claim
import GoSem.ClaimJoined
import GoSem.ClaimMapViews
import Derived.JoinedTies
import Derived.KernelRfl
namespace Go.Proofs.YbulkciuqFmt
/- THE CELL 'sum', in the pinned program and in every row, IS THE sha256 OF THE DUMP (.gsa) THAT YbulkciuqFmtProg.lean LOADS. Nothing in Lean hashes anything: it is a label: what it is worth is what the hold of that sum in a sandbox is worth. -/
noncomputable def Ybaf.pinned : Pinned := { name := "ybulkciuqfmt", sum := "3fdce7f2e0a16730b465f27395b2194c13ccbaa8cb63d84ec81b7d69e1b1936f", checked := Ybaf.checked }
namespace Rows
def none {H : Type} : Left H := { results := [], args := [] }

/- WHAT THE LISTED PACKAGE-LEVEL VARIABLES READ AS WHEN THE CALL BEGINS. Each datum BY PROGRAM (the guide's laid-datum.mjs) off the statement by which the dump's own 'gosem.cut.vars' lays the variable. In a bare row this is a premise. The card (YbulkciuqFmtCards.lean) ties it to the program's text. -/
def laid_example_com_decree_decree_reasonNames {H : Type} : DataW H := .agg [.lit (.string [71, 82, 65, 78, 84, 95, 80, 79, 76, 73, 67, 89, 95, 70, 79, 85, 78, 68]), .lit (.string [68, 69, 78, 89, 95, 80, 79, 76, 73, 67, 89, 95, 70, 79, 85, 78, 68]), .lit (.string [83, 69, 82, 86, 73, 67, 69, 95, 78, 79, 84, 95, 70, 79, 85, 78, 68]), .lit (.string [78, 79, 95, 65, 80, 80, 76, 73, 67, 65, 66, 76, 69, 95, 80, 79, 76, 73, 67, 73, 69, 83]), .lit (.string [69, 82, 82, 79, 82, 95, 73, 78, 95, 69, 86, 65, 76, 85, 65, 84, 73, 79, 78])]

/-- 'decree.LawS4241BFirst': WHATEVER THE INPUT: true; the input reads as it did. -/
def lawS4241BFirstSpec : ChangeSpec := { name := "lawS4241BFirst", fn := fun _ => fun
  | [d1, d2, d3, d4, d5, d6, d7] => { results := [.lit (.bool true)], args := [d1, d2, d3, d4, d5, d6, d7] }
  | _ => none }
def lawS4241BFirstRow : OpenClaim := { program := "ybulkciuqfmt", sum := "3fdce7f2e0a16730b465f27395b2194c13ccbaa8cb63d84ec81b7d69e1b1936f", func := "example.com/decree/decree.LawS4241BFirst", spec := "lawS4241BFirst", stops := ["fmt.Sprintf, its operands' methods called", "fmt.errorf, its operands' methods called"], inPlace := ["fmt.errorf"], unfollowed := true, recurses := true, apart := false }
/-- NO THEOREM (fmt's text is open here; it may be false): for the released tool's asking of the row's closed facts alone. THE STATEMENT IS 'LawS4241BFirstToldSaid' (YbulkciuqFmtCards.lean). -/
def LawS4241BFirstFormAsk : Prop := lawS4241BFirstRow.holds Ybaf.pinned (OpenSpec.ofChange lawS4241BFirstSpec)

/-- ITS FALSE NEIGHBOUR: 'it returns false'. Refute it at one input. -/
def lawS4241BFirstWrong : ChangeSpec := { name := "lawS4241BFirst", fn := fun _ => fun
  | [d1, d2, d3, d4, d5, d6, d7] => { results := [.lit (.bool false)], args := [d1, d2, d3, d4, d5, d6, d7] }
  | _ => none }
def LawS4241BFirstWrongFormAsk : Prop := lawS4241BFirstRow.holds Ybaf.pinned (OpenSpec.ofChange lawS4241BFirstWrong)

/-- 'decree.LawS4241CNames': WHATEVER THE INPUT: true; the input reads as it did. -/
def lawS4241CNamesSpec : ChangeSpec := { name := "lawS4241CNames", vars := ["example.com/decree/decree.reasonNames"], fn := fun _ => fun
  | [d, g1] => { results := [.lit (.bool true)], args := [d], vars := [g1] }
  | _ => none }
def lawS4241CNamesRow : OpenClaim := { program := "ybulkciuqfmt", sum := "3fdce7f2e0a16730b465f27395b2194c13ccbaa8cb63d84ec81b7d69e1b1936f", func := "example.com/decree/decree.LawS4241CNames", spec := "lawS4241CNames", stops := ["fmt.Sprintf, its operands' methods called", "fmt.errorf, its operands' methods called"], inPlace := ["fmt.Sprintf"], unfollowed := true, recurses := true, named := ["example.com/decree/decree.reasonNames"], apart := false, laid := [("example.com/decree/decree.reasonNames", laid_example_com_decree_decree_reasonNames)] }
/-- NO THEOREM (fmt's text is open here; it may be false): for the released tool's asking of the row's closed facts alone. THE STATEMENT IS 'LawS4241CNamesToldSaid' (YbulkciuqFmtCards.lean). -/
def LawS4241CNamesFormAsk : Prop := lawS4241CNamesRow.holds Ybaf.pinned (OpenSpec.ofChange lawS4241CNamesSpec)

/-- ITS FALSE NEIGHBOUR: 'it returns false'. Refute it at one input. -/
def lawS4241CNamesWrong : ChangeSpec := { name := "lawS4241CNames", vars := ["example.com/decree/decree.reasonNames"], fn := fun _ => fun
  | [d, g1] => { results := [.lit (.bool false)], args := [d], vars := [g1] }
  | _ => none }
def LawS4241CNamesWrongFormAsk : Prop := lawS4241CNamesRow.holds Ybaf.pinned (OpenSpec.ofChange lawS4241CNamesWrong)

/-- 'decree.LawS4241CDecision': WHATEVER THE INPUT: true; the input reads as it did. -/
def lawS4241CDecisionSpec : ChangeSpec := { name := "lawS4241CDecision", vars := ["example.com/decree/decree.reasonNames"], fn := fun _ => fun
  | [d1, d2, g1] => { results := [.lit (.bool true)], args := [d1, d2], vars := [g1] }
  | _ => none }
def lawS4241CDecisionRow : OpenClaim := { program := "ybulkciuqfmt", sum := "3fdce7f2e0a16730b465f27395b2194c13ccbaa8cb63d84ec81b7d69e1b1936f", func := "example.com/decree/decree.LawS4241CDecision", spec := "lawS4241CDecision", stops := ["fmt.Sprintf, its operands' methods called", "fmt.errorf, its operands' methods called"], inPlace := ["fmt.Sprintf"], unfollowed := true, recurses := true, named := ["example.com/decree/decree.reasonNames"], apart := false, laid := [("example.com/decree/decree.reasonNames", laid_example_com_decree_decree_reasonNames)] }
/-- NO THEOREM (fmt's text is open here; it may be false): for the released tool's asking of the row's closed facts alone. THE STATEMENT IS 'LawS4241CDecisionToldSaid' (YbulkciuqFmtCards.lean). -/
def LawS4241CDecisionFormAsk : Prop := lawS4241CDecisionRow.holds Ybaf.pinned (OpenSpec.ofChange lawS4241CDecisionSpec)

/-- ITS FALSE NEIGHBOUR: 'it returns false'. Refute it at one input. -/
def lawS4241CDecisionWrong : ChangeSpec := { name := "lawS4241CDecision", vars := ["example.com/decree/decree.reasonNames"], fn := fun _ => fun
  | [d1, d2, g1] => { results := [.lit (.bool false)], args := [d1, d2], vars := [g1] }
  | _ => none }
def LawS4241CDecisionWrongFormAsk : Prop := lawS4241CDecisionRow.holds Ybaf.pinned (OpenSpec.ofChange lawS4241CDecisionWrong)

end Rows
end Go.Proofs.YbulkciuqFmt
