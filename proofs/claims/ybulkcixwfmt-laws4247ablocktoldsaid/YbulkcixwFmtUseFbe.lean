/-
  'Reader.useBlock' OF THE LAW 'capture.LawS4247ABlock', BY ITS CONTRACT: an interface description block.
-/
import Derived.Test.YbulkcixwFmtUseF
import Derived.Deep.CutBlock
namespace Go.Proofs.YbulkcixwFmt
open Go.RowKit Go.Extern.Stop Go.Stop Go.Extern
set_option maxRecDepth 100000

set_option maxHeartbeats 8000000 in
theorem use_if_be (R g n c gb cb base : Nat) (bs : List Int) (xs : List Value) (w : World) (hR : Rd w R false (.slice (some ⟨g, 0, none⟩) n c)) (hown : w.ownsRow base 31 2 (.slice (some ⟨g, 0, none⟩) n c) n xs) (hbase : base ≤ w.heap.size) (hn : n ≤ 1024)
    (hl : 8 ≤ bs.length) (hb : Bd w gb cb bs) :
    Calls Ybaf.prog 7 #[.pointer (some ⟨R, 0, none⟩), .int .u32 1, .slice (some ⟨gb, 0, none⟩) bs.length cb] w fun e w' => ∃ g' c', e = .returned (.tuple #[.agg #[.int .u16 0, .slice none 0 0], .bool false, .nilIface]) ∧
      Rd w' R false (.slice (some ⟨g', 0, none⟩) (n + 1) c') ∧ w'.ownsRow base 31 2 (.slice (some ⟨g', 0, none⟩) (n + 1) c') (n + 1) (xs ++ [.int .u16 (rd16 false bs 0), .int .u32 (rd32 false bs 4)]) ∧ (g' = g ∨ w.heap.size ≤ g') ∧ Kp R (some g) w w' := by
  obtain ⟨i0, hi0, hz0, hz1, hz2⟩ := info_parts info31
  have hlt : R < w.heap.size := (Array.getElem?_eq_some_iff.1 hR).1
  have hgR := row_ne hR hown
  have hbi : ((8 : Int) ≤ (bs.length : Int)) := by omega
  have hcb := hb.cap
  have hcm := hb.capm
  have hlen := hb.len
  unfold maxLen at hcm
  have hc2 : (2 : Int) ≤ (cb : Int) := by omega
  have hc8 : (8 : Int) ≤ (cb : Int) := by omega
  have hn4 : ¬ cb = 4 := by omega
  have hlt1 : R < w.heap.size + 1 := by omega
  have hA : Below w.heap.size w (w.alloc (.cells #[.int .u16 0, .slice none 0 0] 46)) := (Below.refl _ w).alloc (Nat.le_refl _) _
  have hbA := hb.later hA
  obtain ⟨hR5, hR1⟩ := hR.cells
  have HR : Hid (Rd (w.alloc (.cells #[.int .u16 0, .slice none 0 0] 46)) R false (.slice (some ⟨g, 0, none⟩) n c)) := hR.later hA
  have hglt : g < w.heap.size := (hown.lt g rfl).2
  have HO : Hid ((w.alloc (.cells #[.int .u16 0, .slice none 0 0] 46)).ownsRow base 31 2 (.slice (some ⟨g, 0, none⟩) n c) n xs) := hown.alloc _
  simp at hR1
  clear hA hown hR
  have hm16 := m16_be
  have hm32 := m32_be
  go_enter Ybaf.func7, Ybaf.ntmps7
  go_upto_block 0 with fail
  go_cut [] from 400 (fun wx => ∃ gg cap, (wx.cell? ⟨w.heap.size, 0, none⟩ = some (.int .u16 0) ∧ wx.cell? ⟨w.heap.size, 1, none⟩ = some (.slice none 0 0) ∧ wx.frozen? ⟨w.heap.size, 0, none⟩ = false ∧ wx.frozen? ⟨w.heap.size, 1, none⟩ = false) ∧
    (Rd ((wx.setCell ⟨w.heap.size, 0, none⟩ (.int .u16 0)).setCell ⟨w.heap.size, 1, none⟩ (.slice none 0 0)) R false (.slice (some ⟨gg, 0, none⟩) (n + 1) cap) ∧
    ((wx.setCell ⟨w.heap.size, 0, none⟩ (.int .u16 0)).setCell ⟨w.heap.size, 1, none⟩ (.slice none 0 0)).ownsRow base 31 2 (.slice (some ⟨gg, 0, none⟩) (n + 1) cap) (n + 1) (xs ++ [.int .u16 (rd16 false bs 0), .int .u32 (rd32 false bs 4)]) ∧
    (gg = g ∨ w.heap.size ≤ gg) ∧ Kp R (some g) w ((wx.setCell ⟨w.heap.size, 0, none⟩ (.int .u16 0)).setCell ⟨w.heap.size, 1, none⟩ (.slice none 0 0))))
  case first =>
    go_upto_region 7 with fail
    go_region_law (first | (refine step_append_lies _ (by rfl) _ _ _ (by rfl) base 31 i0 _ 2 8 Ybaf.underlying26 hi0 hz0 hz1 hz2 rfl (by omega) (.slice (some ⟨g, 0, none⟩) n c) n xs (by rfl) (by exact (own_later HO.out (by simp; omega) hb2).alloc _) ⟨w2.heap.size, 0, none⟩ 1 1 [.int .u16 (rd16 false bs 0), .int .u32 (rd32 false bs 4)] (by rfl) (by rfl) (World.news_of_block (cs := #[.int .u16 (rd16 false bs 0), .int .u32 (rd32 false bs 4)]) (t := 31) (fr := (0, 0)) (heap_alloc_new w2 _)) (by simp [Value.oneCell']) (by omega) (by unfold maxLen; omega) (by omega) (by simp at hs2 ⊢; omega) (w2.heap.size + 1) (by simp) ?_; intro gg cap w3 hown3 hgrow hat hlt3; obtain ⟨hc3, hf3⟩ := rd_grown' HR.out hb2 hgrow hgR) | (go_simp; go_at_call 29; refine (u16_be hbA 0 cb (by omega) _ ?_).mono ?_; go_grown; rintro e w1 ⟨rfl, hb1, hl1⟩; have hs1 := hb1.size; obtain ⟨ca, cc⟩ := (HR.out.later hb1).c1_be; have hz1' := World.block_lt_of_cell? w1 _ ca; have hz1'' : R < w1.heap.size + 1 := Nat.lt_succ_of_lt hz1') | (go_simp; go_at_call 30; refine (u32_be hbA 4 (cb - 4) (by omega) _ ?_).mono ?_; go_grown; rintro e w2 ⟨rfl, hb2, hl2⟩; have hs2 := hb2.size; obtain ⟨cd, ce⟩ := (HR.out.later hb2).c1_be; have hz2' := World.block_lt_of_cell? w2 _ cd; have hz2'' : R < w2.heap.size + 1 := Nat.lt_succ_of_lt hz2'))
    all_goals
      go_wp2_with fail
      go_meet
      exact ⟨gg, cap, if_facts hb2 hgrow hglt hlt (.slice (some ⟨gg, 0, none⟩) (n + 1) cap), if_post HR.out hb2 hown3 hgrow hat hgR hglt hlt (.int .u16 0) (.slice none 0 0)⟩
  case rest =>
  obtain ⟨gg, cap, ⟨q0, q1, q2, q3⟩, hf⟩ := hcut
  have HF : Hid _ := hf
  clear hf
  go_wp2
  refine bodyPost_ret (v := .tuple #[.agg #[.int .u16 0, .slice none 0 0], .bool false, .nilIface]) (by simp [results, Ybaf.results7, go_sem, q0, q1]) rfl ⟨gg, cap, rfl, HF.out⟩

end Go.Proofs.YbulkcixwFmt
