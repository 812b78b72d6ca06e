/-
  'Reader.useBlock' OF THE LAW 'capture.LawS4247ABlock', BY ITS CONTRACT: an enhanced packet block of a known interface.
-/
import Derived.Test.YbulkcixwFmtUseD
namespace Go.Proofs.YbulkcixwFmt
open Go.RowKit Go.Extern.Stop Go.Stop Go.Extern
set_option maxRecDepth 100000

set_option maxHeartbeats 8000000 in
theorem use_enh_if_le (F : Interp) (R g n c gb cb : Nat) (bs : List Int) (fs : List (Int × Int)) (w : World) (hF : F.answers w.tape) (hR : Rd w R true (.slice (some ⟨g, 0, none⟩) n c)) (hI : Ifs w g n c fs)
    (hl : 20 ≤ bs.length) (hb : Bd w gb cb bs) (hid : rd32 true bs 0 < (n : Int)) :
    Calls Ybaf.prog 7 #[.pointer (some ⟨R, 0, none⟩), .int .u32 6, .slice (some ⟨gb, 0, none⟩) bs.length cb] w fun e w' => EnhPost true gb bs (fs.getD (rd32 true bs 0).toNat (0, 0)).1 e ∧ Below w.heap.size w w' := by
  have hlt : R < w.heap.size := (Array.getElem?_eq_some_iff.1 hR).1
  have hc1 := cell_of_row w R 1 _ _ _ hR
  have hc5 := cell_of_row w R 5 _ _ _ hR
  simp at hc1 hc5
  have hlt1 : R < w.heap.size + 1 := by omega
  have hbi : ((20 : Int) ≤ (bs.length : Int)) := by omega
  have hcb := hb.cap
  have hcm := hb.capm
  have hlen := hb.len
  unfold maxLen at hcm
  have hc4 : (4 : Int) ≤ (cb : Int) := by omega
  have hc16 : (16 : Int) ≤ (cb : Int) := by omega
  have hn12 : ¬ cb = 12 := by omega
  have hr0 := rd32_range true bs 0
  have hr12 := rd32_range true bs 12
  have hA : Below w.heap.size w (w.alloc (.cells #[.int .u16 0, .slice none 0 0] 46)) := (Below.refl _ w).alloc (Nat.le_refl _) _
  have hbA := hb.later hA
  have hIA := hI.later hA
  have HR : Hid (Rd (w.alloc (.cells #[.int .u16 0, .slice none 0 0] 46)) R true (.slice (some ⟨g, 0, none⟩) n c)) := hR.later hA
  clear hR hA hI
  generalize hL : (fs.getD (rd32 true bs 0).toNat (0, 0)).1 = L
  generalize hS : (fs.getD (rd32 true bs 0).toNat (0, 0)).2 = S
  have B9 := fun W hW => iface_ok_at HR.out hIA hr0.1 hid W hW
  rw [hL, hS] at B9
  have H9 : Hid _ := B9
  clear B9 hL hS hIA
  go_enter Ybaf.func7, Ybaf.ntmps7
  go_upto_region 11 with fail
  go_cut [9, 10] from 15 (fun s9 s10 wx => ∃ q, s9 = .pointer (some ⟨q, 0, none⟩) ∧ s10 = .nilIface ∧ wx.cell? ⟨q, 0, none⟩ = some (.int .u16 L) ∧ wx.cell? ⟨q, 1, none⟩ = some (.int .u32 S) ∧ w.heap.size < q ∧ q < wx.heap.size ∧ Below (w.alloc (.cells #[.int .u16 0, .slice none 0 0] 46)).heap.size (w.alloc (.cells #[.int .u16 0, .slice none 0 0] 46)) wx)
  case first =>
    go_region_with (first | (go_at_call 37; refine (u32_le hbA 0 cb (by omega) _ ?_).mono ?_; go_grown; rintro e w1 ⟨rfl, hb1, hl1⟩; have hs1 := hl1.size; (try simp only [World.size_alloc, World.size_drew] at hs1); (try have hx1 : w.heap.size + 1 < w1.heap.size := by omega); obtain ⟨r1, r2⟩ := bcell hl1) | (go_at_call 9; refine (H9.out _ ?_).mono ?_; go_grown; rintro e w2 ⟨rfl, hb2, hl2⟩; have hs2 := hl2.size; (try simp only [World.size_alloc] at hs2); (try have hx2 : w.heap.size + 1 < w2.heap.size := by omega); (try have hx3 : w1.heap.size < w2.heap.size := by omega); obtain ⟨r3, r4⟩ := bcell hl2))
    all_goals (go_wp2_with fail; go_meet)
    all_goals first
      | exact ⟨w2.heap.size, rfl, rfl, by simp, by simp, by have := hb2.size; simp at this; omega, by simp, hb2.alloc hb2.size _⟩
      | exact ⟨w1.heap.size, rfl, rfl, (st_two (x0 := .int .u16 0) (y0 := .int .u32 0) ((r3 w1.heap.size 0 (by simp)).trans (by simp)) ((r3 w1.heap.size 1 (by simp)).trans (by simp)) _ _).1, (st_two (x0 := .int .u16 0) (y0 := .int .u32 0) ((r3 w1.heap.size 0 (by simp)).trans (by simp)) ((r3 w1.heap.size 1 (by simp)).trans (by simp)) _ _).2, by have := hb1.size; simp at this; omega, by simp; omega, (hb2.setCell hb1.size _).setCell hb1.size _⟩
      | exact ⟨w.heap.size + 1, rfl, rfl, (st_two (x0 := .int .u16 0) (y0 := .int .u32 0) ((r3 (w.heap.size + 1) 0 hx1).trans ((r1 (w.heap.size + 1) 0 (by simp)).trans (by simp))) ((r3 (w.heap.size + 1) 1 hx1).trans ((r1 (w.heap.size + 1) 1 (by simp)).trans (by simp))) _ _).1, (st_two (x0 := .int .u16 0) (y0 := .int .u32 0) ((r3 (w.heap.size + 1) 0 hx1).trans ((r1 (w.heap.size + 1) 0 (by simp)).trans (by simp))) ((r3 (w.heap.size + 1) 1 hx1).trans ((r1 (w.heap.size + 1) 1 (by simp)).trans (by simp))) _ _).2, by omega, by simp; omega, (hb2.setCell (by simp) _).setCell (by simp) _⟩
  case rest =>
  obtain ⟨q, rfl, rfl, k0, k1, hq, hqz, hbx⟩ := hcut
  have hbC := hbA.later hbx
  have hR1 := cell_of_row _ R 1 _ _ _ (HR.out.later hbx)
  simp at hR1
  have HB : Hid (Below (w.alloc (.cells #[.int .u16 0, .slice none 0 0] 46)).heap.size (w.alloc (.cells #[.int .u16 0, .slice none 0 0] 46)) wc) := hbx
  clear hbx
  go_upto_region 14 with fail
  go_cut [11] from 15 (fun s11 wx => s11 = .int .u32 (rd32 true bs 12) ∧ Below wc.heap.size wc wx)
  case first =>
    go_region_with (go_at_call 37; refine (u32_le hbC 12 _ (by omega) _ ?_).mono ?_; go_grown; rintro e w3 ⟨rfl, hb3, hl3⟩)
    all_goals (go_wp2_with fail; go_meet)
    all_goals exact ⟨rfl, hb3⟩
  case rest =>
  obtain ⟨rfl, hb4⟩ := hcut
  have hb5 := HB.out.trans (hb4.mono HB.out.size)
  obtain ⟨p0, p1, p2, p3, p4⟩ := pkt_facts hb5
  have j0 := (hb4.cell (p := ⟨q, 0, none⟩) hqz).trans k0
  have j1 := (hb4.cell (p := ⟨q, 1, none⟩) hqz).trans k1
  have hqd : q < wc.heap.size := Nat.lt_of_lt_of_le hqz hb4.size
  have hqn : ¬ q = w.heap.size := by omega
  have H5 : Hid (Below (w.alloc (.cells #[.int .u16 0, .slice none 0 0] 46)).heap.size (w.alloc (.cells #[.int .u16 0, .slice none 0 0] 46)) wc) := hb5
  clear hb4 hb5 hR1 k0 k1
  by_cases hbad : (bs.length : Int) - 20 < rd32 true bs 12
  · go_wp2_with fail
    refine (errorf_at F (A := w.alloc (.cells #[.int .u16 0, .slice none 0 0] 46)) (x := rd32 true bs 12) (fun _ => by kernel_rfl) hF _ ?_ ?_).mono ?_
    · exact H5.out.alloc H5.out.size _
    · exact cell_one wc _ _
    · rintro e w6 ⟨u, x, rfl, hb6⟩
      obtain ⟨q0, q1, q2, q3, q4⟩ := pkt_facts hb6
      have H6 : Hid _ := hb6
      clear hb6
      go_wp2
      refine bodyPost_ret (v := .tuple #[.agg #[.int .u16 0, .slice none 0 0], .bool false, .iface u x]) (by simp [results, Ybaf.results7, go_sem, q0, q1]) rfl ⟨enh_err hbad ⟨u, x, rfl⟩, ?_⟩
      exact ((below_pkt H6.out).setCell (Nat.le_refl _) _).setCell (Nat.le_refl _) _
  · have hok : rd32 true bs 12 ≤ (bs.length : Int) - 20 := by omega
    have E20 : Hid ((20 + rd32 true bs 12).toNat - 20 = 20 + (rd32 true bs 12).toNat - 20) := by show _ = _; omega
    by_cases hcb20 : cb = 20
    · subst hcb20
      have hz : (rd32 true bs 12).toNat = 0 := by omega
      have HZ : Hid ((rd32 true bs 12).toNat = 0) := hz
      clear hz
      go_wp2
      go_region
      all_goals (try go_wp2)
      all_goals
        refine bodyPost_ret (v := .tuple #[.agg #[.int .u16 L, .slice (some ⟨gb, 0, none⟩) ((20 + rd32 true bs 12).toNat - 20) 0], .bool true, .nilIface]) (by simp [results, Ybaf.results7, go_sem, p0, p1]) rfl ⟨enh_ok hok ⟨_, _, by rw [E20.out], fun h => absurd h (by have := HZ.out; omega), by have := HZ.out; omega⟩, ?_⟩
        exact (((below_pkt H5.out).setCell (Nat.le_refl _) _).setCell (Nat.le_refl _) _).drew
    · go_wp2
      go_region
      all_goals (try go_wp2)
      all_goals
        refine bodyPost_ret (v := .tuple #[.agg #[.int .u16 L, .slice (some ⟨gb, 20, none⟩) ((20 + rd32 true bs 12).toNat - 20) (cb - 20)], .bool true, .nilIface]) (by simp [results, Ybaf.results7, go_sem, p0, p1]) rfl ⟨enh_ok hok ⟨_, _, by rw [E20.out], fun _ => rfl, by omega⟩, ?_⟩
        exact (((below_pkt H5.out).setCell (Nat.le_refl _) _).setCell (Nat.le_refl _) _).drew

end Go.Proofs.YbulkcixwFmt
