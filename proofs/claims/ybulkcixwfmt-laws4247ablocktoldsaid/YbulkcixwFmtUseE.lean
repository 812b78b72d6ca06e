/-
  'Reader.useBlock' OF THE LAW 'capture.LawS4247ABlock', BY ITS CONTRACT: simple packet blocks.
-/
import Derived.Test.YbulkcixwFmtUseB
namespace Go.Proofs.YbulkcixwFmt
open Go.RowKit Go.Extern.Stop Go.Stop Go.Extern
set_option maxRecDepth 100000

/-- How much a simple packet block captured: the packet's length, cut to the snapshot length. -/
def cap3 (le : Bool) (bs : List Int) (S : Int) : Int := if S ≠ 0 ∧ S < rd32 le bs 0 then S else rd32 le bs 0
theorem cap3_whole {le : Bool} {bs : List Int} {S : Int} (h : S = 0 ∨ rd32 le bs 0 ≤ S) : cap3 le bs S = rd32 le bs 0 := by unfold cap3; rw [if_neg (by omega)]
theorem cap3_cut {le : Bool} {bs : List Int} {S : Int} (h : S ≠ 0) (h' : S < rd32 le bs 0) : cap3 le bs S = S := by unfold cap3; rw [if_pos ⟨h, h'⟩]

def SimPost (le : Bool) (gb : Nat) (bs : List Int) (f : Int × Int) (e : Ending) : Prop :=
  ((bs.length : Int) - 4 < cap3 le bs f.2 → PktErr e) ∧ (cap3 le bs f.2 ≤ (bs.length : Int) - 4 → PktOk gb f.1 4 (4 + (cap3 le bs f.2).toNat) e)

theorem sim_err {le : Bool} {gb : Nat} {bs : List Int} {f : Int × Int} {e : Ending} {k : Int} (hk : cap3 le bs f.2 = k) (h : (bs.length : Int) - 4 < k) (he : PktErr e) : SimPost le gb bs f e := ⟨fun _ => he, fun h' => absurd h (by omega)⟩
theorem sim_ok {le : Bool} {gb : Nat} {bs : List Int} {f : Int × Int} {e : Ending} {k : Int} (hk : cap3 le bs f.2 = k) (h : k ≤ (bs.length : Int) - 4) (he : PktOk gb f.1 4 (4 + k.toNat) e) : SimPost le gb bs f e := ⟨fun h' => absurd h (by omega), fun _ => by rw [hk]; exact he⟩

set_option maxHeartbeats 4000000 in
theorem use_sim_noif (F : Interp) (R g c gb cb : Nat) (le : Bool) (bs : List Int) (w : World) (hF : F.answers w.tape) (hR : Rd w R le (.slice (some ⟨g, 0, none⟩) 0 c)) (hl : 4 ≤ bs.length) :
    Calls Ybaf.prog 7 #[.pointer (some ⟨R, 0, none⟩), .int .u32 3, .slice (some ⟨gb, 0, none⟩) bs.length cb] w fun e w' => PktErr e ∧ Below w.heap.size w w' := by
  have hbi : ((4 : Int) ≤ (bs.length : Int)) := by omega
  have hA : Below w.heap.size w (w.alloc (.cells #[.int .u16 0, .slice none 0 0] 46)) := (Below.refl _ w).alloc (Nat.le_refl _) _
  have HR : Hid (Rd (w.alloc (.cells #[.int .u16 0, .slice none 0 0] 46)) R le (.slice (some ⟨g, 0, none⟩) 0 c)) := hR.later hA
  clear hR hA
  go_enter Ybaf.func7, Ybaf.ntmps7
  go_wp2_with fail
  refine (iface_bad_at F (A := w.alloc (.cells #[.int .u16 0, .slice none 0 0] 46)) hF HR.out (by omega) (by omega) _ (Below.refl _ _)).mono ?_
  rintro e w2 ⟨u, x, rfl, hb2, hl2⟩
  obtain ⟨p0, p1, p2, p3, p4⟩ := pkt_facts hb2
  have H2 : Hid _ := hb2
  clear hb2 hl2
  have p5 : w.heap.size < w2.heap.size + 1 := by omega
  have p6 : ¬ w.heap.size = w2.heap.size := by omega
  go_wp2
  refine bodyPost_ret (v := .tuple #[.agg #[.int .u16 0, .slice none 0 0], .bool false, .iface u x]) (by simp [results, Ybaf.results7, go_sem, p0, p1, p4]) rfl ⟨⟨u, x, rfl⟩, ?_⟩
  exact (((below_pkt H2.out).setCell (Nat.le_refl _) _).setCell (Nat.le_refl _) _).alloc (by simp; omega) _

end Go.Proofs.YbulkcixwFmt
