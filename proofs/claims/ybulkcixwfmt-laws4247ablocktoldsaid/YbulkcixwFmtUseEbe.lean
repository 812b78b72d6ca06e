/-
  'Reader.useBlock' OF THE LAW 'capture.LawS4247ABlock', BY ITS CONTRACT: a simple packet block where there is an interface.
-/
import Derived.Test.YbulkcixwFmtUseE
namespace Go.Proofs.YbulkcixwFmt
open Go.RowKit Go.Extern.Stop Go.Stop Go.Extern
set_option maxRecDepth 100000

set_option maxHeartbeats 8000000 in
theorem use_sim_if_be (F : Interp) (R g n c gb cb : Nat) (bs : List Int) (f : Int × Int) (fs : List (Int × Int)) (w : World) (hF : F.answers w.tape) (hR : Rd w R false (.slice (some ⟨g, 0, none⟩) n c)) (hI : Ifs w g n c (f :: fs))
    (hl : 4 ≤ bs.length) (hb : Bd w gb cb bs) (hf2 : 0 ≤ f.2 ∧ f.2 ≤ 4294967295) :
    Calls Ybaf.prog 7 #[.pointer (some ⟨R, 0, none⟩), .int .u32 3, .slice (some ⟨gb, 0, none⟩) bs.length cb] w fun e w' => SimPost false gb bs f e ∧ Below w.heap.size w w' := by
  have hbi : ((4 : Int) ≤ (bs.length : Int)) := by omega
  have hcb := hb.cap
  have hcm := hb.capm
  have hlen := hb.len
  unfold maxLen at hcm
  have hc4 : (4 : Int) ≤ (cb : Int) := by omega
  have hr0 := rd32_range false bs 0
  have hA : Below w.heap.size w (w.alloc (.cells #[.int .u16 0, .slice none 0 0] 46)) := (Below.refl _ w).alloc (Nat.le_refl _) _
  have hbA := hb.later hA
  have hIA := hI.later hA
  have hn0 : 0 < (n : Int) := by have := hI.len; simp at this; omega
  have HR : Hid (Rd (w.alloc (.cells #[.int .u16 0, .slice none 0 0] 46)) R false (.slice (some ⟨g, 0, none⟩) n c)) := hR.later hA
  have H9 : Hid (∀ W, Below (w.alloc (.cells #[.int .u16 0, .slice none 0 0] 46)).heap.size (w.alloc (.cells #[.int .u16 0, .slice none 0 0] 46)) W → Calls Ybaf.prog 9 #[.pointer (some ⟨R, 0, none⟩), .int .u32 0] W fun e W' => e = .returned (.tuple #[.agg #[.int .u16 f.1, .int .u32 f.2], .nilIface]) ∧ Below (w.alloc (.cells #[.int .u16 0, .slice none 0 0] 46)).heap.size (w.alloc (.cells #[.int .u16 0, .slice none 0 0] 46)) W' ∧ Below W.heap.size W W') :=
    fun W hW => iface_ok_at (id := 0) HR.out hIA (by omega) hn0 W hW
  clear hR hA hI hIA
  go_enter Ybaf.func7, Ybaf.ntmps7
  go_wp2_with fail
  refine (H9.out _ (Below.refl _ _)).mono ?_
  rintro e w2 ⟨rfl, hb2, hl2⟩
  have hbC := hbA.later hb2
  have hR1 := cell_of_row _ R 1 _ _ _ (HR.out.later hb2)
  simp at hR1
  have hRlt : R < w2.heap.size := (Array.getElem?_eq_some_iff.1 (HR.out.later hb2)).1
  have hRlt1 : R < w2.heap.size + 1 := by omega
  have hRne : ¬ w2.heap.size = R := by omega
  have hws : w.heap.size < w2.heap.size := by have := hb2.size; simp at this; omega
  have HB : Hid (Below (w.alloc (.cells #[.int .u16 0, .slice none 0 0] 46)).heap.size (w.alloc (.cells #[.int .u16 0, .slice none 0 0] 46)) w2) := hb2
  clear hb2 hl2
  go_upto_region 24 with fail
  go_cut [14] from 15 (fun s14 wx => s14 = .int .u32 (rd32 false bs 0) ∧ Below (w2.alloc (.cells #[.int .u16 f.1, .int .u32 f.2] 31)).heap.size (w2.alloc (.cells #[.int .u16 f.1, .int .u32 f.2] 31)) wx)
  case first =>
    go_region_with (go_at_call 30; refine (u32_be (hbC.later ((Below.refl _ w2).alloc (Nat.le_refl _) (.cells #[.int .u16 f.1, .int .u32 f.2] 31))) 0 _ (by omega) _ ?_).mono ?_; go_grown; rintro e w3 ⟨rfl, hb3, hl3⟩)
    all_goals (go_wp2_with fail; go_meet)
    all_goals exact ⟨rfl, hb3⟩
  case rest =>
  obtain ⟨rfl, hb4⟩ := hcut
  have hb5 := (HB.out.alloc HB.out.size (.cells #[.int .u16 f.1, .int .u32 f.2] 31)).trans (hb4.mono (by have := HB.out.size; simp at this ⊢; omega))
  obtain ⟨p0, p1, p2, p3, p4⟩ := pkt_facts hb5
  have j0 := (hb4.cell (p := ⟨w2.heap.size, 0, none⟩) (by simp)).trans (World.cell?_alloc_new _ _ _ _)
  have j1 := (hb4.cell (p := ⟨w2.heap.size, 1, none⟩) (by simp)).trans (World.cell?_alloc_new _ _ _ _)
  simp at j0 j1
  have hqd : w2.heap.size < wc.heap.size := by have := hb4.size; simp at this; omega
  have hqn : ¬ w2.heap.size = w.heap.size := by omega
  have H5 : Hid (Below (w.alloc (.cells #[.int .u16 0, .slice none 0 0] 46)).heap.size (w.alloc (.cells #[.int .u16 0, .slice none 0 0] 46)) wc) := hb5
  clear hb4 hb5 hR1
  by_cases hS : f.2 = 0 ∨ rd32 false bs 0 ≤ f.2
  · have HK : Hid (cap3 false bs f.2 = rd32 false bs 0) := cap3_whole hS
    by_cases hS0 : f.2 = 0
    · have hS1 : (f.2 != 0) = false := by simp [hS0]
      have HS0 : Hid (f.2 = 0) := hS0
      clear hS0 hS
      by_cases hbad : (bs.length : Int) - 4 < rd32 false bs 0
      · go_wp2_with fail
        refine (errorf_at F (A := w.alloc (.cells #[.int .u16 0, .slice none 0 0] 46)) (x := rd32 false bs 0) (fun _ => by kernel_rfl) hF _ ?_ ?_).mono ?_
        · exact H5.out.alloc H5.out.size _
        · exact cell_one wc _ _
        · rintro e w6 ⟨u, x, rfl, hb6⟩
          obtain ⟨q0, q1, q2, q3, q4⟩ := pkt_facts hb6
          have H6 : Hid _ := hb6
          clear hb6
          go_wp2
          refine bodyPost_ret (v := .tuple #[.agg #[.int .u16 0, .slice none 0 0], .bool false, .iface u x]) (by simp [results, Ybaf.results7, go_sem, q0, q1]) rfl ⟨sim_err HK.out hbad ⟨u, x, rfl⟩, ?_⟩
          exact ((below_pkt H6.out).setCell (Nat.le_refl _) _).setCell (Nat.le_refl _) _
      · have hok : rd32 false bs 0 ≤ (bs.length : Int) - 4 := by omega
        have E4 : Hid ((4 + rd32 false bs 0).toNat - 4 = 4 + (rd32 false bs 0).toNat - 4) := by show _ = _; omega
        by_cases hcb4 : cb = 4
        · subst hcb4
          have HZ : Hid ((rd32 false bs 0).toNat = 0) := by show _ = _; omega
          go_wp2
          go_region
          all_goals (try go_wp2)
          all_goals
            refine bodyPost_ret (v := .tuple #[.agg #[.int .u16 f.1, .slice (some ⟨gb, 0, none⟩) ((4 + rd32 false bs 0).toNat - 4) 0], .bool true, .nilIface]) (by simp [results, Ybaf.results7, go_sem, p0, p1]) rfl ⟨sim_ok HK.out hok ⟨_, _, by rw [E4.out], fun h => absurd h (by have := HZ.out; omega), by have := HZ.out; omega⟩, ?_⟩
            exact (((below_pkt H5.out).setCell (Nat.le_refl _) _).setCell (Nat.le_refl _) _).drew
        · go_wp2
          go_region
          all_goals (try go_wp2)
          all_goals
            refine bodyPost_ret (v := .tuple #[.agg #[.int .u16 f.1, .slice (some ⟨gb, 4, none⟩) ((4 + rd32 false bs 0).toNat - 4) (cb - 4)], .bool true, .nilIface]) (by simp [results, Ybaf.results7, go_sem, p0, p1]) rfl ⟨sim_ok HK.out hok ⟨_, _, by rw [E4.out], fun _ => rfl, by omega⟩, ?_⟩
            exact (((below_pkt H5.out).setCell (Nat.le_refl _) _).setCell (Nat.le_refl _) _).drew
    · have hS1 : (f.2 != 0) = true := by simp [hS0]
      have hS2 : rd32 false bs 0 ≤ f.2 := by omega
      clear hS
      by_cases hbad : (bs.length : Int) - 4 < rd32 false bs 0
      · go_wp2_with fail
        refine (errorf_at F (A := w.alloc (.cells #[.int .u16 0, .slice none 0 0] 46)) (x := rd32 false bs 0) (fun _ => by kernel_rfl) hF _ ?_ ?_).mono ?_
        · exact H5.out.alloc H5.out.size _
        · exact cell_one wc _ _
        · rintro e w6 ⟨u, x, rfl, hb6⟩
          obtain ⟨q0, q1, q2, q3, q4⟩ := pkt_facts hb6
          have H6 : Hid _ := hb6
          clear hb6
          go_wp2
          refine bodyPost_ret (v := .tuple #[.agg #[.int .u16 0, .slice none 0 0], .bool false, .iface u x]) (by simp [results, Ybaf.results7, go_sem, q0, q1]) rfl ⟨sim_err HK.out hbad ⟨u, x, rfl⟩, ?_⟩
          exact ((below_pkt H6.out).setCell (Nat.le_refl _) _).setCell (Nat.le_refl _) _
      · have hok : rd32 false bs 0 ≤ (bs.length : Int) - 4 := by omega
        have E4 : Hid ((4 + rd32 false bs 0).toNat - 4 = 4 + (rd32 false bs 0).toNat - 4) := by show _ = _; omega
        by_cases hcb4 : cb = 4
        · subst hcb4
          have HZ : Hid ((rd32 false bs 0).toNat = 0) := by show _ = _; omega
          go_wp2
          go_region
          all_goals (try go_wp2)
          all_goals
            refine bodyPost_ret (v := .tuple #[.agg #[.int .u16 f.1, .slice (some ⟨gb, 0, none⟩) ((4 + rd32 false bs 0).toNat - 4) 0], .bool true, .nilIface]) (by simp [results, Ybaf.results7, go_sem, p0, p1]) rfl ⟨sim_ok HK.out hok ⟨_, _, by rw [E4.out], fun h => absurd h (by have := HZ.out; omega), by have := HZ.out; omega⟩, ?_⟩
            exact (((below_pkt H5.out).setCell (Nat.le_refl _) _).setCell (Nat.le_refl _) _).drew
        · go_wp2
          go_region
          all_goals (try go_wp2)
          all_goals
            refine bodyPost_ret (v := .tuple #[.agg #[.int .u16 f.1, .slice (some ⟨gb, 4, none⟩) ((4 + rd32 false bs 0).toNat - 4) (cb - 4)], .bool true, .nilIface]) (by simp [results, Ybaf.results7, go_sem, p0, p1]) rfl ⟨sim_ok HK.out hok ⟨_, _, by rw [E4.out], fun _ => rfl, by omega⟩, ?_⟩
            exact (((below_pkt H5.out).setCell (Nat.le_refl _) _).setCell (Nat.le_refl _) _).drew
  · have hS0 : ¬ f.2 = 0 := by omega
    have hS2 : f.2 < rd32 false bs 0 := by omega
    have HK : Hid (cap3 false bs f.2 = f.2) := cap3_cut hS0 hS2
    have hS1 : (f.2 != 0) = true := by simp [hS0]
    clear hS
    by_cases hbad : (bs.length : Int) - 4 < f.2
    · go_wp2_with fail
      refine (errorf_at F (A := w.alloc (.cells #[.int .u16 0, .slice none 0 0] 46)) (x := f.2) (fun _ => by kernel_rfl) hF _ ?_ ?_).mono ?_
      · exact H5.out.alloc H5.out.size _
      · exact cell_one wc _ _
      · rintro e w6 ⟨u, x, rfl, hb6⟩
        obtain ⟨q0, q1, q2, q3, q4⟩ := pkt_facts hb6
        have H6 : Hid _ := hb6
        clear hb6
        go_wp2
        refine bodyPost_ret (v := .tuple #[.agg #[.int .u16 0, .slice none 0 0], .bool false, .iface u x]) (by simp [results, Ybaf.results7, go_sem, q0, q1]) rfl ⟨sim_err HK.out hbad ⟨u, x, rfl⟩, ?_⟩
        exact ((below_pkt H6.out).setCell (Nat.le_refl _) _).setCell (Nat.le_refl _) _
    · have hok : f.2 ≤ (bs.length : Int) - 4 := by omega
      have E4 : Hid ((4 + f.2).toNat - 4 = 4 + (f.2).toNat - 4) := by show _ = _; omega
      by_cases hcb4 : cb = 4
      · subst hcb4
        exact absurd hok (by omega)
      · go_wp2
        go_region
        all_goals (try go_wp2)
        all_goals
          refine bodyPost_ret (v := .tuple #[.agg #[.int .u16 f.1, .slice (some ⟨gb, 4, none⟩) ((4 + f.2).toNat - 4) (cb - 4)], .bool true, .nilIface]) (by simp [results, Ybaf.results7, go_sem, p0, p1]) rfl ⟨sim_ok HK.out hok ⟨_, _, by rw [E4.out], fun _ => rfl, by omega⟩, ?_⟩
          exact (((below_pkt H5.out).setCell (Nat.le_refl _) _).setCell (Nat.le_refl _) _).drew

end Go.Proofs.YbulkcixwFmt
