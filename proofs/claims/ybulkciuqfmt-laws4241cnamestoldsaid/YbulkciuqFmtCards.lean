/-
  DERIVED. GIVEN WITH THE SEED: THE CARDS: each row of YbulkciuqFmtRows.lean that lists a variable, with what it lists TIED to the program's text (the seventh form; the later family's looks); each row that meets fmt, with fmt's text TOLD by the authors' own Lean function (tested against real Go, not proved from fmt's source: count such statements apart). THE CARD IS WHAT COUNTS. Prove the row's statement (the work); the ties are given (YbulkciuqFmtTie.lean); close each card by the builder's one call (the guide's Derived/Test/ToyasCard.lean, 'card_holds'). Laid BY PROGRAM, IN A SANDBOX (cutbox-door.mjs). By AI agents, Wed Nov 11 2026. No macro, syntax, notation, axiom, sorry.
-/
import Derived.Test.YbulkciuqFmtRows
import GoSem.ClaimSeven
namespace Go.Proofs.YbulkciuqFmt
namespace Rows

/-- THE TOLD CARD OF 'decree.LawS4241BFirst'. -/
def lawS4241BFirstCard : Claim7 := { stood := { row := lawS4241BFirstRow, standIns := [], harness := (true, "2fc963bd425e2c2dd9bb5840c0e2772a2526bcb0e0e65b4092211db8ffb4ab87"), looks := true }, told := true, goes := false }
def LawS4241BFirstToldSaid : Prop := Claim7.holds Ybaf.pinned (.plain (OpenSpec.ofChange lawS4241BFirstSpec)) lawS4241BFirstCard
/-- ITS FALSE NEIGHBOUR. Refute it at one input. -/
def LawS4241BFirstToldWrongFalsely : Prop := Claim7.holds Ybaf.pinned (.plain (OpenSpec.ofChange lawS4241BFirstWrong)) lawS4241BFirstCard

/-- THE TOLD AND TIED CARD OF 'decree.LawS4241CNames'. -/
def lawS4241CNamesCard : Claim7 := { stood := { row := lawS4241CNamesRow, standIns := [], harness := (true, "2fc963bd425e2c2dd9bb5840c0e2772a2526bcb0e0e65b4092211db8ffb4ab87"), looks := true }, told := true, laidByText := true, laidKinds := [.data], laidTests := true, laidLooks := .later, goes := false }
def LawS4241CNamesToldSaid : Prop := Claim7.holds Ybaf.pinned (.plain (OpenSpec.ofChange lawS4241CNamesSpec)) lawS4241CNamesCard
/-- ITS FALSE NEIGHBOUR. Refute it at one input. -/
def LawS4241CNamesToldWrongFalsely : Prop := Claim7.holds Ybaf.pinned (.plain (OpenSpec.ofChange lawS4241CNamesWrong)) lawS4241CNamesCard

/-- THE TOLD AND TIED CARD OF 'decree.LawS4241CDecision'. -/
def lawS4241CDecisionCard : Claim7 := { stood := { row := lawS4241CDecisionRow, standIns := [], harness := (true, "2fc963bd425e2c2dd9bb5840c0e2772a2526bcb0e0e65b4092211db8ffb4ab87"), looks := true }, told := true, laidByText := true, laidKinds := [.data], laidTests := true, laidLooks := .later, goes := false }
def LawS4241CDecisionToldSaid : Prop := Claim7.holds Ybaf.pinned (.plain (OpenSpec.ofChange lawS4241CDecisionSpec)) lawS4241CDecisionCard
/-- ITS FALSE NEIGHBOUR. Refute it at one input. -/
def LawS4241CDecisionToldWrongFalsely : Prop := Claim7.holds Ybaf.pinned (.plain (OpenSpec.ofChange lawS4241CDecisionWrong)) lawS4241CDecisionCard
end Rows
end Go.Proofs.YbulkciuqFmt
