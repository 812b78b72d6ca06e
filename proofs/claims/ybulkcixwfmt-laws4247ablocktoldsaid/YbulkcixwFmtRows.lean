/-
  No cell of these rows narrows 'for every input' (looked for: loops, veiled, ifaces, maps, wideKeys, modest, calm, conditions, laid).
  DERIVED. THE GIVEN ROWS OF THIS SEAT. 1 by the template 'for every input the law returns true; each argument reads behind the call as it read before'; 0 by the template 'total and deterministic' (their statements: YbulkcixwFmtTotals.lean).
  GIVEN WITH THE SEED: the statements are not yours to turn. If you find one false, say at which input.
  Laid BY PROGRAM, IN A SANDBOX (cutbox-rows.mjs): the forced cells as the released guide's own fill.sh prints them over the translation 469b14ecc44f67e4… (all of the seat's roots in one cut). By AI agents, Wed Nov 11 2026. No macro, syntax, notation, axiom, sorry.
-/
import Derived.Test.YbulkcixwFmtChecked
import GoSem.Claim
import GoSem.ClaimJoined
import GoSem.ClaimMapViews
import Derived.JoinedTies
import Derived.KernelRfl
namespace Go.Proofs.YbulkcixwFmt
/- THE CELL 'sum', in the pinned program and in every row, IS THE sha256 OF THE DUMP (.gsa) THAT YbulkcixwFmtProg.lean LOADS. Nothing in Lean hashes anything: it is a label: what it is worth is what the hold of that sum in a sandbox is worth. -/
noncomputable def Ybaf.pinned : Pinned := { name := "ybulkcixwfmt", sum := "469b14ecc44f67e42e99ae99a59058ffcf98b09afe3cd186d164e799d7809480", checked := Ybaf.checked }
namespace Rows
def none {H : Type} : Left H := { results := [], args := [] }

/-- 'capture.LawS4247ABlock': WHATEVER THE INPUT: true; the input reads as it did. -/
def lawS4247ABlockSpec : ChangeSpec := { name := "lawS4247ABlock", fn := fun _ => fun
  | [d1, d2, d3, d4, d5, d6, d7, d8, d9] => { results := [.lit (.bool true)], args := [d1, d2, d3, d4, d5, d6, d7, d8, d9] }
  | _ => none }
def lawS4247ABlockRow : OpenClaim := { program := "ybulkcixwfmt", sum := "469b14ecc44f67e42e99ae99a59058ffcf98b09afe3cd186d164e799d7809480", func := "example.com/siblingwire/siblingwire/internal/capture.LawS4247ABlock", spec := "lawS4247ABlock", stops := ["fmt.errorf"], inPlace := ["fmt.errorf"], unfollowed := true, recurses := true, named := ["encoding/binary.BigEndian", "encoding/binary.LittleEndian"], apart := false }
/-- NO THEOREM (fmt's text is open here; it may be false): for the released tool's asking of the row's closed facts alone. THE STATEMENT IS 'LawS4247ABlockToldSaid' (YbulkcixwFmtCards.lean). -/
def LawS4247ABlockFormAsk : Prop := lawS4247ABlockRow.holds Ybaf.pinned (OpenSpec.ofChange lawS4247ABlockSpec)

/-- ITS FALSE NEIGHBOUR: 'it returns false'. Refute it at one input. -/
def lawS4247ABlockWrong : ChangeSpec := { name := "lawS4247ABlock", fn := fun _ => fun
  | [d1, d2, d3, d4, d5, d6, d7, d8, d9] => { results := [.lit (.bool false)], args := [d1, d2, d3, d4, d5, d6, d7, d8, d9] }
  | _ => none }
def LawS4247ABlockWrongFormAsk : Prop := lawS4247ABlockRow.holds Ybaf.pinned (OpenSpec.ofChange lawS4247ABlockWrong)

end Rows
end Go.Proofs.YbulkcixwFmt
