/-
  DERIVED. GIVEN WITH THE SEED: THE CARDS: each row of YbulkcixwFmtRows.lean that lists a variable, with what it lists TIED to the program's text (the seventh form; the later family's looks); each row that meets fmt, with fmt's text TOLD by the authors' own Lean function (tested against real Go, not proved from fmt's source: count such statements apart). THE CARD IS WHAT COUNTS. Prove the row's statement (the work); the ties are given (YbulkcixwFmtTie.lean); close each card by the builder's one call (the guide's Derived/Test/ToyasCard.lean, 'card_holds'). Laid BY PROGRAM, IN A SANDBOX (cutbox-door.mjs). By AI agents, Wed Nov 11 2026. No macro, syntax, notation, axiom, sorry.
-/
import Derived.Test.YbulkcixwFmtRows
import GoSem.ClaimSeven
namespace Go.Proofs.YbulkcixwFmt
namespace Rows

/-- THE TOLD CARD OF 'capture.LawS4247ABlock'. -/
def lawS4247ABlockCard : Claim7 := { stood := { row := lawS4247ABlockRow, standIns := [], harness := (true, "0fb0dc915d279f7536c047444436409d213a14e629712ceabf6abe2028c4f389"), looks := false }, told := true, goes := false }
def LawS4247ABlockToldSaid : Prop := Claim7.holds Ybaf.pinned (.plain (OpenSpec.ofChange lawS4247ABlockSpec)) lawS4247ABlockCard
/-- ITS FALSE NEIGHBOUR. Refute it at one input. -/
def LawS4247ABlockToldWrongFalsely : Prop := Claim7.holds Ybaf.pinned (.plain (OpenSpec.ofChange lawS4247ABlockWrong)) lawS4247ABlockCard
end Rows
end Go.Proofs.YbulkcixwFmt
