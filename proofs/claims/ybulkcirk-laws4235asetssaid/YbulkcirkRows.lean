/-
  No cell of these rows narrows 'for every input' (looked for: loops, veiled, ifaces, maps, wideKeys, modest, calm, conditions, laid).
  DERIVED. THE GIVEN ROWS OF THIS SEAT. 2 by the template 'for every input the law returns true; each argument reads behind the call as it read before'; 0 by the template 'total and deterministic' (their statements: YbulkcirkTotals.lean).
  GIVEN WITH THE SEED: the statements are not yours to turn. If you find one false, say at which input.
  Laid BY PROGRAM, IN A SANDBOX (cutbox-rows.mjs): the forced cells as the released guide's own fill.sh prints them over the translation 604017aae3b347ef… (all of the seat's roots in one cut). By AI agents, Wed Nov 11 2026. No macro, syntax, notation, axiom, sorry.
-/
import Derived.Test.YbulkcirkChecked
import GoSem.Claim
import GoSem.ClaimJoined
import GoSem.ClaimMapViews
import Derived.JoinedTies
import Derived.KernelRfl
namespace Go.Proofs.Ybulkcirk
/- THE CELL 'sum', in the pinned program and in every row, IS THE sha256 OF THE DUMP (.gsa) THAT YbulkcirkProg.lean LOADS. Nothing in Lean hashes anything: it is a label: what it is worth is what the hold of that sum in a sandbox is worth. -/
noncomputable def Yba.pinned : Pinned := { name := "ybulkcirk", sum := "604017aae3b347effc91ebb8da2e0fc108222ebd8d0bc650ef6a8ebd3e8737c6", checked := Yba.checked }
namespace Rows
def none {H : Type} : Left H := { results := [], args := [] }

/-- 'thrifty-pool.LawS4235ASets': WHATEVER THE INPUT: true; the input reads as it did. -/
def lawS4235ASetsSpec : ChangeSpec := { name := "lawS4235ASets", fn := fun _ => fun
  | [d1, d2, d3, d4, d5, d6, d7] => { results := [.lit (.bool true)], args := [d1, d2, d3, d4, d5, d6, d7] }
  | _ => none }
def lawS4235ASetsRow : OpenClaim := { program := "ybulkcirk", sum := "604017aae3b347effc91ebb8da2e0fc108222ebd8d0bc650ef6a8ebd3e8737c6", func := "example.com/thrifty-pool/thrifty-pool.LawS4235ASets", spec := "lawS4235ASets", unfollowed := true, recurses := true, apart := false }
def LawS4235ASetsSaid : Prop := lawS4235ASetsRow.holds Yba.pinned (OpenSpec.ofChange lawS4235ASetsSpec)

/-- ITS FALSE NEIGHBOUR: 'it returns false'. Refute it at one input. -/
def lawS4235ASetsWrong : ChangeSpec := { name := "lawS4235ASets", fn := fun _ => fun
  | [d1, d2, d3, d4, d5, d6, d7] => { results := [.lit (.bool false)], args := [d1, d2, d3, d4, d5, d6, d7] }
  | _ => none }
def LawS4235ASetsWrongFalsely : Prop := lawS4235ASetsRow.holds Yba.pinned (OpenSpec.ofChange lawS4235ASetsWrong)

/-- 'thrifty-pool.LawS4235ALastWins': WHATEVER THE INPUT: true; the input reads as it did. -/
def lawS4235ALastWinsSpec : ChangeSpec := { name := "lawS4235ALastWins", fn := fun _ => fun
  | [d1, d2] => { results := [.lit (.bool true)], args := [d1, d2] }
  | _ => none }
def lawS4235ALastWinsRow : OpenClaim := { program := "ybulkcirk", sum := "604017aae3b347effc91ebb8da2e0fc108222ebd8d0bc650ef6a8ebd3e8737c6", func := "example.com/thrifty-pool/thrifty-pool.LawS4235ALastWins", spec := "lawS4235ALastWins", unfollowed := true, recurses := true, apart := false }
def LawS4235ALastWinsSaid : Prop := lawS4235ALastWinsRow.holds Yba.pinned (OpenSpec.ofChange lawS4235ALastWinsSpec)

/-- ITS FALSE NEIGHBOUR: 'it returns false'. Refute it at one input. -/
def lawS4235ALastWinsWrong : ChangeSpec := { name := "lawS4235ALastWins", fn := fun _ => fun
  | [d1, d2] => { results := [.lit (.bool false)], args := [d1, d2] }
  | _ => none }
def LawS4235ALastWinsWrongFalsely : Prop := lawS4235ALastWinsRow.holds Yba.pinned (OpenSpec.ofChange lawS4235ALastWinsWrong)

end Rows
end Go.Proofs.Ybulkcirk
