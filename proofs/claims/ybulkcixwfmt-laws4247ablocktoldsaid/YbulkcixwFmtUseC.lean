/-
  'Reader.useBlock' OF THE LAW 'capture.LawS4247ABlock', BY ITS CONTRACT: an enhanced packet block of an interface that no block has described.
-/
import Derived.Test.YbulkcixwFmtUseB
namespace Go.Proofs.YbulkcixwFmt
open Go.RowKit Go.Extern.Stop Go.Stop Go.Extern
set_option maxRecDepth 100000

set_option maxHeartbeats 4000000 in
theorem use_enh_noif_le (F : Interp) (R g n c gb cb : Nat) (bs : List Int) (w : World) (hF : F.answers w.tape) (hR : Rd w R true (.slice (some ⟨g, 0, none⟩) n c)) (hn : n ≤ 1024)
    (hl : 20 ≤ bs.length) (hb : Bd w gb cb bs) (hid : (n : Int) ≤ rd32 true bs 0) :
    Calls Ybaf.prog 7 #[.pointer (some ⟨R, 0, none⟩), .int .u32 6, .slice (some ⟨gb, 0, none⟩) bs.length cb] w fun e w' => ∃ u x, e = .returned (.tuple #[.agg #[.int .u16 0, .slice none 0 0], .bool false, .iface u x]) ∧ Below w.heap.size w w' := by
  have hlt : R < w.heap.size := (Array.getElem?_eq_some_iff.1 hR).1
  have hc1 := cell_of_row w R 1 _ _ _ hR
  have hc5 := cell_of_row w R 5 _ _ _ hR
  simp at hc1 hc5
  have hlt1 : R < w.heap.size + 1 := by omega
  have hbi : ((20 : Int) ≤ (bs.length : Int)) := by omega
  have hcb := hb.cap
  have hcm := hb.capm
  have hlen := hb.len
  unfold maxLen at hcm
  have hc4 : (4 : Int) ≤ (cb : Int) := by omega
  have hr0 := rd32_range true bs 0
  have hA : Below w.heap.size w (w.alloc (.cells #[.int .u16 0, .slice none 0 0] 46)) := (Below.refl _ w).alloc (Nat.le_refl _) _
  have hbA := hb.later hA
  have HR : Hid (Rd (w.alloc (.cells #[.int .u16 0, .slice none 0 0] 46)) R true (.slice (some ⟨g, 0, none⟩) n c)) := hR.later hA
  clear hR hA
  go_enter Ybaf.func7, Ybaf.ntmps7
  go_upto_region 11 with fail
  go_cut [9, 10] from 15 (fun s9 s10 wx => ∃ q u x, s9 = .pointer (some ⟨q, 0, none⟩) ∧ s10 = .iface u x ∧ Below (w.alloc (.cells #[.int .u16 0, .slice none 0 0] 46)).heap.size (w.alloc (.cells #[.int .u16 0, .slice none 0 0] 46)) wx)
  case first =>
    go_region_with (first | (go_at_call 37; refine (u32_le hbA 0 cb (by omega) _ ?_).mono ?_; go_grown; rintro e w1 ⟨rfl, hb1, hl1⟩; have hs1 := hl1.size; (try simp only [World.size_alloc, World.size_drew] at hs1); (try have hx1 : w.heap.size + 1 < w1.heap.size := by omega); obtain ⟨r1, r2⟩ := bcell hl1) | (go_at_call 9; refine (iface_bad_at F (A := w.alloc (.cells #[.int .u16 0, .slice none 0 0] 46)) hF HR.out hn ⟨hid, hr0.2⟩ _ ?_).mono ?_; go_grown; rintro e w2 ⟨u, x, rfl, hb2, hl2⟩; have hs2 := hl2.size; (try simp only [World.size_alloc] at hs2); (try have hx2 : w.heap.size + 1 < w2.heap.size := by omega); (try have hx3 : w1.heap.size < w2.heap.size := by omega); obtain ⟨r3, r4⟩ := bcell hl2))
    all_goals (go_wp2_with fail; go_meet)
    all_goals first | exact ⟨_, _, _, rfl, rfl, hb2.alloc hb2.size _⟩ | exact ⟨_, _, _, rfl, rfl, (hb2.setCell hb1.size _).setCell hb1.size _⟩ | exact ⟨_, _, _, rfl, rfl, (hb2.setCell (by simp) _).setCell (by simp) _⟩
  case rest =>
  obtain ⟨q, u, x, rfl, rfl, hbx⟩ := hcut
  obtain ⟨p0, p1, p2, p3, p4⟩ := pkt_facts hbx
  have HB : Hid _ := hbx
  clear hbx
  go_wp2
  refine bodyPost_ret (v := .tuple #[.agg #[.int .u16 0, .slice none 0 0], .bool false, .iface u x]) (by simp [results, Ybaf.results7, go_sem, p0, p1]) rfl ⟨u, x, rfl, ?_⟩
  exact ((below_pkt HB.out).setCell (Nat.le_refl _) _).setCell (Nat.le_refl _) _
set_option maxHeartbeats 4000000 in
theorem use_enh_noif_be (F : Interp) (R g n c gb cb : Nat) (bs : List Int) (w : World) (hF : F.answers w.tape) (hR : Rd w R false (.slice (some ⟨g, 0, none⟩) n c)) (hn : n ≤ 1024)
    (hl : 20 ≤ bs.length) (hb : Bd w gb cb bs) (hid : (n : Int) ≤ rd32 false bs 0) :
    Calls Ybaf.prog 7 #[.pointer (some ⟨R, 0, none⟩), .int .u32 6, .slice (some ⟨gb, 0, none⟩) bs.length cb] w fun e w' => ∃ u x, e = .returned (.tuple #[.agg #[.int .u16 0, .slice none 0 0], .bool false, .iface u x]) ∧ Below w.heap.size w w' := by
  have hlt : R < w.heap.size := (Array.getElem?_eq_some_iff.1 hR).1
  have hc1 := cell_of_row w R 1 _ _ _ hR
  have hc5 := cell_of_row w R 5 _ _ _ hR
  simp at hc1 hc5
  have hlt1 : R < w.heap.size + 1 := by omega
  have hbi : ((20 : Int) ≤ (bs.length : Int)) := by omega
  have hcb := hb.cap
  have hcm := hb.capm
  have hlen := hb.len
  unfold maxLen at hcm
  have hc4 : (4 : Int) ≤ (cb : Int) := by omega
  have hr0 := rd32_range false bs 0
  have hA : Below w.heap.size w (w.alloc (.cells #[.int .u16 0, .slice none 0 0] 46)) := (Below.refl _ w).alloc (Nat.le_refl _) _
  have hbA := hb.later hA
  have HR : Hid (Rd (w.alloc (.cells #[.int .u16 0, .slice none 0 0] 46)) R false (.slice (some ⟨g, 0, none⟩) n c)) := hR.later hA
  clear hR hA
  go_enter Ybaf.func7, Ybaf.ntmps7
  go_upto_region 11 with fail
  go_cut [9, 10] from 15 (fun s9 s10 wx => ∃ q u x, s9 = .pointer (some ⟨q, 0, none⟩) ∧ s10 = .iface u x ∧ Below (w.alloc (.cells #[.int .u16 0, .slice none 0 0] 46)).heap.size (w.alloc (.cells #[.int .u16 0, .slice none 0 0] 46)) wx)
  case first =>
    go_region_with (first | (go_at_call 30; refine (u32_be hbA 0 cb (by omega) _ ?_).mono ?_; go_grown; rintro e w1 ⟨rfl, hb1, hl1⟩; have hs1 := hl1.size; (try simp only [World.size_alloc, World.size_drew] at hs1); (try have hx1 : w.heap.size + 1 < w1.heap.size := by omega); obtain ⟨r1, r2⟩ := bcell hl1) | (go_at_call 9; refine (iface_bad_at F (A := w.alloc (.cells #[.int .u16 0, .slice none 0 0] 46)) hF HR.out hn ⟨hid, hr0.2⟩ _ ?_).mono ?_; go_grown; rintro e w2 ⟨u, x, rfl, hb2, hl2⟩; have hs2 := hl2.size; (try simp only [World.size_alloc] at hs2); (try have hx2 : w.heap.size + 1 < w2.heap.size := by omega); (try have hx3 : w1.heap.size < w2.heap.size := by omega); obtain ⟨r3, r4⟩ := bcell hl2))
    all_goals (go_wp2_with fail; go_meet)
    all_goals first | exact ⟨_, _, _, rfl, rfl, hb2.alloc hb2.size _⟩ | exact ⟨_, _, _, rfl, rfl, (hb2.setCell hb1.size _).setCell hb1.size _⟩ | exact ⟨_, _, _, rfl, rfl, (hb2.setCell (by simp) _).setCell (by simp) _⟩
  case rest =>
  obtain ⟨q, u, x, rfl, rfl, hbx⟩ := hcut
  obtain ⟨p0, p1, p2, p3, p4⟩ := pkt_facts hbx
  have HB : Hid _ := hbx
  clear hbx
  go_wp2
  refine bodyPost_ret (v := .tuple #[.agg #[.int .u16 0, .slice none 0 0], .bool false, .iface u x]) (by simp [results, Ybaf.results7, go_sem, p0, p1]) rfl ⟨u, x, rfl, ?_⟩
  exact ((below_pkt HB.out).setCell (Nat.le_refl _) _).setCell (Nat.le_refl _) _

end Go.Proofs.YbulkcixwFmt
