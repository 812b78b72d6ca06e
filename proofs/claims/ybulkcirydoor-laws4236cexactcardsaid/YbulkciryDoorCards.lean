/-
  DERIVED. GIVEN WITH THE SEED: THE CARDS: each row of YbulkciryDoorRows.lean that lists a variable, with what it lists TIED to the program's text (the seventh form; the later family's looks); each row that meets fmt, with fmt's text TOLD by the authors' own Lean function (tested against real Go, not proved from fmt's source: count such statements apart). THE CARD IS WHAT COUNTS. Prove the row's statement (the work); the ties are given (YbulkciryDoorTie.lean); close each card by the builder's one call (the guide's Derived/Test/ToyasCard.lean, 'card_holds'). Laid BY PROGRAM, IN A SANDBOX (cutbox-door.mjs). By AI agents, Wed Nov 11 2026. No macro, syntax, notation, axiom, sorry.
-/
import Derived.Test.YbulkciryDoorRows
import GoSem.ClaimSeven
namespace Go.Proofs.YbulkciryDoor
namespace Rows

/-- THE TIED CARD OF 'syntax.LawS4236CExact'. -/
def lawS4236CExactCard : Claim7 := { stood := { row := lawS4236CExactRow, standIns := [], harness := (true, "1b8563b0cb9dcf94f5f344b524c73c745c8a37d3d65c76460a3d515862c63b4e"), looks := false }, kinds := [], alts := [], laidByText := true, laidKinds := [.data, .data, .data, .widerDeep], laidTests := true, laidLooks := .later }
def LawS4236CExactCardSaid : Prop := Claim7.holds Ybad.pinned (.plain (OpenSpec.ofChange lawS4236CExactSpec)) lawS4236CExactCard
end Rows
end Go.Proofs.YbulkciryDoor
