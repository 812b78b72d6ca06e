/-
  No cell of these rows narrows 'for every input' (looked for: loops, veiled, ifaces, maps, wideKeys, modest, calm, conditions, laid).
  DERIVED. THE GIVEN ROWS OF THIS SEAT. 2 by the template 'for every input the law returns true; each argument reads behind the call as it read before'; 0 by the template 'total and deterministic' (their statements: YbulkciryTotals.lean).
  GIVEN WITH THE SEED: the statements are not yours to turn. If you find one false, say at which input.
  Laid BY PROGRAM, IN A SANDBOX (cutbox-rows.mjs): the forced cells as the released guide's own fill.sh prints them over the translation 33988aef989d547e… (all of the seat's roots in one cut). By AI agents, Wed Nov 11 2026. No macro, syntax, notation, axiom, sorry.
-/
import Derived.Test.YbulkciryChecked
import GoSem.Claim
import GoSem.ClaimJoined
import GoSem.ClaimMapViews
import Derived.JoinedTies
import Derived.KernelRfl
namespace Go.Proofs.Ybulkciry
/- THE CELL 'sum', in the pinned program and in every row, IS THE sha256 OF THE DUMP (.gsa) THAT YbulkciryProg.lean LOADS. Nothing in Lean hashes anything: it is a label: what it is worth is what the hold of that sum in a sandbox is worth. -/
noncomputable def Yba.pinned : Pinned := { name := "ybulkciry", sum := "33988aef989d547ea4d665eef960b23bc888c29a6d610da2cd6450a7aa0f4c35", checked := Yba.checked }
namespace Rows
def none {H : Type} : Left H := { results := [], args := [] }

/-- 'engine.LawS4236AFind': WHATEVER THE INPUT: true; the input reads as it did. -/
def lawS4236AFindSpec : ChangeSpec := { name := "lawS4236AFind", fn := fun _ => fun
  | [d1, d2, d3] => { results := [.lit (.bool true)], args := [d1, d2, d3] }
  | _ => none }
def lawS4236AFindRow : OpenClaim := { program := "ybulkciry", sum := "33988aef989d547ea4d665eef960b23bc888c29a6d610da2cd6450a7aa0f4c35", func := "example.com/palimpsest/palimpsest/internal/engine.LawS4236AFind", spec := "lawS4236AFind", plainKeys := false, apart := false }
def LawS4236AFindSaid : Prop := lawS4236AFindRow.holds Yba.pinned (OpenSpec.ofChange lawS4236AFindSpec)

/-- ITS FALSE NEIGHBOUR: 'it returns false'. Refute it at one input. -/
def lawS4236AFindWrong : ChangeSpec := { name := "lawS4236AFind", fn := fun _ => fun
  | [d1, d2, d3] => { results := [.lit (.bool false)], args := [d1, d2, d3] }
  | _ => none }
def LawS4236AFindWrongFalsely : Prop := lawS4236AFindRow.holds Yba.pinned (OpenSpec.ofChange lawS4236AFindWrong)

/-- 'engine.LawS4236BFifo': WHATEVER THE INPUT: true; the input reads as it did. -/
def lawS4236BFifoSpec : ChangeSpec := { name := "lawS4236BFifo", fn := fun _ => fun
  | [d] => { results := [.lit (.bool true)], args := [d] }
  | _ => none }
def lawS4236BFifoRow : OpenClaim := { program := "ybulkciry", sum := "33988aef989d547ea4d665eef960b23bc888c29a6d610da2cd6450a7aa0f4c35", func := "example.com/palimpsest/palimpsest/internal/engine.LawS4236BFifo", spec := "lawS4236BFifo", inPlace := ["internal/abi.NoEscape", "internal/bytealg.MakeNoZero"], plainKeys := false, apart := false }
def LawS4236BFifoSaid : Prop := lawS4236BFifoRow.holds Yba.pinned (OpenSpec.ofChange lawS4236BFifoSpec)

/-- ITS FALSE NEIGHBOUR: 'it returns false'. Refute it at one input. -/
def lawS4236BFifoWrong : ChangeSpec := { name := "lawS4236BFifo", fn := fun _ => fun
  | [d] => { results := [.lit (.bool false)], args := [d] }
  | _ => none }
def LawS4236BFifoWrongFalsely : Prop := lawS4236BFifoRow.holds Yba.pinned (OpenSpec.ofChange lawS4236BFifoWrong)

end Rows
end Go.Proofs.Ybulkciry
