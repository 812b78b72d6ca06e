/-
  'Reader.useBlock' OF THE LAW 'capture.LawS4247ABlock', BY ITS CONTRACT: an enhanced packet block of a known interface.
-/
import Derived.Test.YbulkcixwFmtUseB
namespace Go.Proofs.YbulkcixwFmt
open Go.RowKit Go.Extern.Stop Go.Stop Go.Extern
set_option maxRecDepth 100000


def EnhPost (le : Bool) (gb : Nat) (bs : List Int) (link : Int) (e : Ending) : Prop :=
  ((bs.length : Int) - 20 < rd32 le bs 12 → PktErr e) ∧ (rd32 le bs 12 ≤ (bs.length : Int) - 20 → PktOk gb link 20 (20 + (rd32 le bs 12).toNat) e)

theorem enh_err {le : Bool} {gb : Nat} {bs : List Int} {link : Int} {e : Ending} (h : (bs.length : Int) - 20 < rd32 le bs 12) (he : PktErr e) : EnhPost le gb bs link e := ⟨fun _ => he, fun h' => absurd h (by omega)⟩
theorem enh_ok {le : Bool} {gb : Nat} {bs : List Int} {link : Int} {e : Ending} (h : rd32 le bs 12 ≤ (bs.length : Int) - 20) (he : PktOk gb link 20 (20 + (rd32 le bs 12).toNat) e) : EnhPost le gb bs link e := ⟨fun h' => absurd h (by omega), fun _ => he⟩

end Go.Proofs.YbulkcixwFmt
