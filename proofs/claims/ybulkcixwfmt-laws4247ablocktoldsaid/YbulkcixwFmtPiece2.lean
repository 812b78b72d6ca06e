/-
  THE WALK OF THE LAW 'capture.LawS4247ABlock', IN PIECES: the two rows and the reader are made.
-/
import Derived.Test.YbulkcixwFmtPiece3
import Derived.Deep.CutBlock
import Derived.Deep.RegionHeld3
import Derived.BigQuiet
import Derived.OwnWalk
namespace Go.Proofs.YbulkcixwFmt
open Go.RowKit Go.Extern.Stop Go.Stop Go.Extern
set_option maxRecDepth 100000


theorem take_two {α : Type} (l : List α) (i : Nat) (x y : α) (h : i + 2 ≤ l.length) : ((l.set i x).set (i + 1) y).take (i + 1 + 1) = l.take i ++ [x, y] := by
  obtain ⟨p, q, rfl, hp⟩ : ∃ p q, l = p ++ q ∧ p.length = i := ⟨l.take i, l.drop i, (List.take_append_drop i l).symm, by simp; omega⟩
  subst hp
  match q, h with
  | a :: b :: q, _ =>
    have e : p ++ x :: y :: q = (p ++ [x, y]) ++ q := by simp
    simp
    rw [e]
    exact List.take_left' (by simp)
  | [a], h => simp at h
  | [], h => exact absurd h (by simp)
theorem take_snoc (fs : List (Int × Int)) (k : Nat) (hk : k < fs.length) : fs.take (k + 1) = fs.take k ++ [fs.getD k (0, 0)] := by
  rw [List.take_add_one]
  simp [hk]

theorem row_step {W : World} {g k : Nat} {fs : List (Int × Int)} (hk : k < fs.length) (h : ∃ cs : Array Value, W.heap[g]? = some (.cells cs 31 (0, 0)) ∧ cs.size = fs.length * 2 ∧ cs.toList.take (k * 2) = flat (fs.take k)) :
    ∃ cs : Array Value, ((W.setCell ⟨g, k * 2, none⟩ (.int .u16 (fs.getD k (0, 0)).1)).setCell ⟨g, k * 2 + 1, none⟩ (.int .u32 (fs.getD k (0, 0)).2)).heap[g]? = some (.cells cs 31 (0, 0)) ∧ cs.size = fs.length * 2 ∧ cs.toList.take ((k + 1) * 2) = flat (fs.take (k + 1)) := by
  obtain ⟨cs, h1, h2, h3⟩ := h
  refine ⟨_, heap_setCell_same _ g (k * 2 + 1) _ 31 _ (heap_setCell_same W g (k * 2) cs 31 _ h1), by simp [h2], ?_⟩
  rw [take_snoc fs k hk, flat_snoc, ← h3, show (k + 1) * 2 = k * 2 + 1 + 1 by omega]
  rw [Array.toList_setIfInBounds, Array.toList_setIfInBounds]
  exact take_two _ _ _ _ (by simp [h2]; omega)
theorem row_other {W : World} {g g2 k : Nat} {fs : List (Int × Int)} (h : ∃ cs : Array Value, W.heap[g]? = some (.cells cs 31 (0, 0)) ∧ cs.size = fs.length * 2 ∧ cs.toList.take (k * 2) = flat (fs.take k)) (hne : g ≠ g2) (x y : Value) (i j : Nat) :
    ∃ cs : Array Value, ((W.setCell ⟨g2, i, none⟩ x).setCell ⟨g2, j, none⟩ y).heap[g]? = some (.cells cs 31 (0, 0)) ∧ cs.size = fs.length * 2 ∧ cs.toList.take (k * 2) = flat (fs.take k) := by
  obtain ⟨cs, h1, h2, h3⟩ := h
  exact ⟨cs, by rw [heap_setCell_other _ _ _ _ (by simpa using hne), heap_setCell_other _ _ _ _ (by simpa using hne)]; exact h1, h2, h3⟩
theorem below_sets {B : Nat} {w W : World} (h : Below B w W) {g : Nat} (hg : B ≤ g) (i j : Nat) (x y : Value) : Below B w ((W.setCell ⟨g, i, none⟩ x).setCell ⟨g, j, none⟩ y) := by
  refine ⟨h.os, h.tape, h.output, by simpa using h.size, fun b hb => ?_⟩
  rw [heap_setCell_other _ _ _ _ (by simp; omega), heap_setCell_other _ _ _ _ (by simp; omega)]; exact h.block b hb

/-- The two rows while they are filled. -/
structure Mk (w wr : World) (g gw k : Nat) (fs : List (Int × Int)) : Prop where
  a : ∃ cs : Array Value, wr.heap[g]? = some (.cells cs 31 (0, 0)) ∧ cs.size = fs.length * 2 ∧ cs.toList.take (k * 2) = flat (fs.take k)
  b : ∃ cs : Array Value, wr.heap[gw]? = some (.cells cs 31 (0, 0)) ∧ cs.size = fs.length * 2 ∧ cs.toList.take (k * 2) = flat (fs.take k)
  below : Below w.heap.size w wr
theorem Mk.step {w wr : World} {g gw k : Nat} {fs : List (Int × Int)} (h : Mk w wr g gw k fs) (hk : k < fs.length) (hne : g ≠ gw) (hg : w.heap.size ≤ g) (hgw : w.heap.size ≤ gw) :
    Mk w ((((wr.drew.setCell ⟨g, k * 2, none⟩ (.int .u16 (fs.getD k (0, 0)).1)).setCell ⟨g, k * 2 + 1, none⟩ (.int .u32 (fs.getD k (0, 0)).2)).drew.setCell ⟨gw, k * 2, none⟩ (.int .u16 (fs.getD k (0, 0)).1)).setCell ⟨gw, k * 2 + 1, none⟩ (.int .u32 (fs.getD k (0, 0)).2)) g gw (k + 1) fs := by
  have ha : ∃ cs : Array Value, wr.drew.heap[g]? = some (.cells cs 31 (0, 0)) ∧ cs.size = fs.length * 2 ∧ cs.toList.take (k * 2) = flat (fs.take k) := h.a
  have hb : ∃ cs : Array Value, wr.drew.heap[gw]? = some (.cells cs 31 (0, 0)) ∧ cs.size = fs.length * 2 ∧ cs.toList.take (k * 2) = flat (fs.take k) := h.b
  have h1 := row_step hk ha
  have h2 := row_other hb (Ne.symm hne) (.int .u16 (fs.getD k (0, 0)).1) (.int .u32 (fs.getD k (0, 0)).2) (k * 2) (k * 2 + 1)
  have h3 := below_sets (below_drewN h.below 1) hg (k * 2) (k * 2 + 1) (.int .u16 (fs.getD k (0, 0)).1) (.int .u32 (fs.getD k (0, 0)).2)
  exact ⟨row_other (W := World.drew _) h1 hne _ _ _ _, row_step (W := World.drew _) hk h2, below_sets (below_drewN h3 1) hgw _ _ _ _⟩
theorem row_facts {W : World} {g k : Nat} {fs : List (Int × Int)} (hk : k < fs.length) (h : ∃ cs : Array Value, W.heap[g]? = some (.cells cs 31 (0, 0)) ∧ cs.size = fs.length * 2 ∧ cs.toList.take (k * 2) = flat (fs.take k)) : (∃ u, W.cell? ⟨g, k * 2, none⟩ = some u) ∧ (∃ u, W.cell? ⟨g, k * 2 + 1, none⟩ = some u) ∧ W.frozen? ⟨g, k * 2, none⟩ = false ∧ W.frozen? ⟨g, k * 2 + 1, none⟩ = false := by
  obtain ⟨cs, h1, h2, h3⟩ := h
  refine ⟨⟨cs[k * 2], ?_⟩, ⟨cs[k * 2 + 1], ?_⟩, frozen_of_row _ _ _ _ _ h1, frozen_of_row _ _ _ _ _ h1⟩
  · rw [cell_of_row _ _ _ _ _ _ h1]; simp
  · rw [cell_of_row _ _ _ _ _ _ h1]; simp
theorem row_own {W : World} {g base : Nat} {fs : List (Int × Int)} (hb : base ≤ g) (hl : fs.length ≤ 1024) (h : ∃ cs : Array Value, W.heap[g]? = some (.cells cs 31 (0, 0)) ∧ cs.size = fs.length * 2 ∧ cs.toList.take (fs.length * 2) = flat (fs.take fs.length)) : W.ownsRow base 31 2 (.slice (some ⟨g, 0, none⟩) fs.length fs.length) fs.length (flat fs) := by
  obtain ⟨cs, h1, h2, h3⟩ := h
  refine ⟨flat_length fs, .inr ⟨g, fs.length, cs, rfl, hb, h1, Nat.le_refl _, by unfold maxLen; omega, h2, ?_⟩⟩
  rw [h3, List.take_length]

set_option maxHeartbeats 8000000 in
theorem piece2 (F : Interp) (W0 w : World) (le : Bool) (t : Int) (body : Value) (bs : List Int) (fs : List (Int × Int)) (ai : Option Addr) (ci : Nat) (hF : F.answers w.tape) (hle : fs.length ≤ 1024) (hfs : ∀ f ∈ fs, 0 ≤ f.2 ∧ f.2 ≤ 4294967295)
    (hfc : fs.length = 0 ∨ ∃ b off, ai = some ⟨b, off, none⟩ ∧ b < w.heap.size ∧ ∀ k, k < fs.length → w.cell? ⟨b, off + k * 2, none⟩ = some (.int .u16 (fs.getD k (0, 0)).1) ∧ w.cell? ⟨b, off + k * 2 + 1, none⟩ = some (.int .u32 (fs.getD k (0, 0)).2))
    (hB : BodyIs w body bs) (hl : bs.length ≤ 2000) (hb : Below W0.heap.size W0 w) (u0 u1 u4 u5 u6 u7 u8 u9 u10 u11 u12 u13 u14 u15 u16 u17 u18 u21 u22 u23 u24 u25 u26 u27 u28 u29 u30 u31 u32 u33 u34 u35 u36 u37 u38 u39 u40 u41 u42 u43 u44 u45 u46 u47 u48 u49 u50 u51 u52 u53 u54 u55 u56 u57 u58 u59 u60 u61 u62 u63 u64 u65 u66 u67 u68 u69 u70 u71 u72 u73 u74 u75 u76 u77 u78 u79 u80 u81 u82 u83 u84 u85 u86 u87 u88 u89 u90 u91 u92 u93 u94 u95 u96 u97 u98 u99 u100 u101 u102 u103 u104 u105 u106 u107 u108 u109 u110 u111 u112 u113 u114 u115 u116 u117 u118 u119 u120 u121 u122 u123 u124 u125 u126 u127 u128 u129 u130 u131 u132 u133 u134 u135 u136 u137 u138 u139 u140 u141 u142 u143 u144 u145 u146 u147 u148 u149 u150 u151 u152 u153 u154 u155 u156 u157 u158 u159 u160 u161 u162 u163 u164 u165 u166 u167 u168 u169 u170 u171 u172 u173 u174 u175 u176 u177 u178 u179 u180 u181 u182 u183 u184 u185 u186 u187 u188 u189 u190 u191 u192 u193 u194 u195 u196 u197 u198 u199 u200 u201 u202 u203 u204 u205 u206 u207 u208 u209 u210 u211 u212 u213 u214 u215 u216 u217 u218 u219 u220 u221 u222 u223 u224 u225 u226 u227 u228 u229 u230 u231 u232 u233 u234 u235 u236 u237 u238 u239 u240 u241 u242 u243 u244 u245 u246 u247 u248 u249 u250 u251 u252 u253 u254 u255 u256 u257 u258 u259 u260 u261 u262 u263 u264 u265 u266 u267 u268 u269 u270 u271 u272 u273 u274 u275 u276 u277 u278 u279 u280 u281 u282 u283 u284 u285 u286 u287 u288 u289 u290 u291 u292 u293 u294 u295 u296 u297 u298 u299 u300 u301 u302 u303 u304 u305 u306 u307 u308 u309 u310 u311 u312 u313 u314 u315 u316 u317 u318 u319 u320 u321 u322 u323 u324 u325 u326 u327 u328 u329 u330 u331 u332 u333 u334 u335 u336 u337 u338 u339 u340 u341 u342 u343 u344 u345 u346 u347 u348 u349 u350 u351 : Value) :
    Code.wp Ybaf.prog ((Ybaf.f3.body.bind (codeFrom 28)).getD .skip) (bodyPost Ybaf.prog Ybaf.f3 fun e w' => e = .returned (.bool true) ∧ Below W0.heap.size W0 w') ⟨#[u0, u1, .bool le, .slice ai fs.length ci, u4, u5, u6, u7, u8, u9, u10, u11, u12, u13, u14, u15, u16, u17, u18, .int .u32 t, body, u21, u22, u23, u24, u25, u26, u27, u28, u29, u30, u31, u32, u33, u34, u35, u36, u37, u38, u39, u40, u41, u42, u43, u44, u45, u46, u47, u48, u49, u50, u51, u52, u53, u54, u55, u56, u57, u58, u59, u60, u61, u62, u63, u64, u65, u66, u67, u68, u69, u70, u71, u72, u73, u74, u75, u76, u77, u78, u79, u80, u81, u82, u83, u84, u85, u86, u87, u88, u89, u90, u91, u92, u93, u94, u95, u96, u97, u98, u99, u100, u101, u102, u103, u104, u105, u106, u107, u108, u109, u110, u111, u112, u113, u114, u115, u116, u117, u118, u119, u120, u121, u122, u123, u124, u125, u126, u127, u128, u129, u130, u131, u132, u133, u134, u135, u136, u137, u138, u139, u140, u141, u142, u143, u144, u145, u146, u147, u148, u149, u150, u151, u152, u153, u154, u155, u156, u157, u158, u159, u160, u161, u162, u163, u164, u165, u166, u167, u168, u169, u170, u171, u172, u173, u174, u175, u176, u177, u178, u179, u180, u181, u182, u183, u184, u185, u186, u187, u188, u189, u190, u191, u192, u193, u194, u195, u196, u197, u198, u199, u200, u201, u202, u203, u204, u205, u206, u207, u208, u209, u210, u211, u212, u213, u214, u215, u216, u217, u218, u219, u220, u221, u222, u223, u224, u225, u226, u227, u228, u229, u230, u231, u232, u233, u234, u235, u236, u237, u238, u239, u240, u241, u242, u243, u244, u245, u246, u247, u248, u249, u250, u251, u252, u253, u254, u255, u256, u257, u258, u259, u260, u261, u262, u263, u264, u265, u266, u267, u268, u269, u270, u271, u272, u273, u274, u275, u276, u277, u278, u279, u280, u281, u282, u283, u284, u285, u286, u287, u288, u289, u290, u291, u292, u293, u294, u295, u296, u297, u298, u299, u300, u301, u302, u303, u304, u305, u306, u307, u308, u309, u310, u311, u312, u313, u314, u315, u316, u317, u318, u319, u320, u321, u322, u323, u324, u325, u326, u327, u328, u329, u330, u331, u332, u333, u334, u335, u336, u337, u338, u339, u340, u341, u342, u343, u344, u345, u346, u347, u348, u349, u350, u351], []⟩ w := by
  conv => arg 2; whnf
  obtain ⟨i0, hi0, hz0, hz1, hz2⟩ := info_parts info31
  have HB : Hid _ := hB
  have HF : Hid _ := hF
  have HS : Hid _ := hfs
  have HW : Hid _ := hb
  clear hB hF hfs hb
  go_upto_region 29 with (at_make; refine wpList_make_full w rfl _ _ 26 rfl w.heap.size 31 i0 _ 2 Ybaf.underlying26 hi0 hz0 hz1 .i64 .i64 _ _ fs.length rfl rfl rfl rfl (by rw [hz2]; omega) (by unfold maxLen; omega) (Nat.le_refl _) ?_; intro w1 ho1 hg1)
  go_upto_region 30 with (at_make; refine wpList_make_full w1 rfl _ _ 26 rfl w.heap.size 31 i0 _ 2 Ybaf.underlying26 hi0 hz0 hz1 .i64 .i64 _ _ fs.length rfl rfl rfl rfl (by rw [hz2]; omega) (by unfold maxLen; omega) hg1.size ?_; intro w2 ho2 hg2)
  have hgw : w.heap.size < w1.heap.size := (ho1.lt w.heap.size rfl).2
  have hgw2 : w1.heap.size < w2.heap.size := (ho2.lt w1.heap.size rfl).2
  have hmk : Mk w w2 w.heap.size w1.heap.size 0 fs := by
    refine ⟨?_, ?_, ⟨hg2.os.trans hg1.os, hg2.tape.trans hg1.tape, hg2.output.trans hg1.output, by omega, fun b hb => by rw [hg2.block b (by omega) (by simp), hg1.block b hb (by simp)]⟩⟩
    · rcases ho1.2 with ⟨e1, _⟩ | ⟨g', c', cur, e1, e2, e3, e4, e5, e6, e7⟩
      · simp at e1
      · obtain ⟨rfl, rfl⟩ : w.heap.size = g' ∧ fs.length = c' := by simpa using e1
        exact ⟨cur, by rw [hg2.block _ hgw (by simp)]; exact e3, e6, by simp [flat]⟩
    · rcases ho2.2 with ⟨e1, _⟩ | ⟨g', c', cur, e1, e2, e3, e4, e5, e6, e7⟩
      · simp at e1
      · obtain ⟨rfl, rfl⟩ : w1.heap.size = g' ∧ fs.length = c' := by simpa using e1
        exact ⟨cur, e3, e6, by simp [flat]⟩
  have HM : Hid (Mk w w2 w.heap.size w1.heap.size 0 fs) := hmk
  clear hmk ho1 ho2 hg1 hg2 hi0 hz0 hz1 hz2
  go_wp2_with fail
  go_loopw [24] (fun i wr => ∃ k : Nat, k ≤ fs.length ∧ i = .int .i64 k ∧ Mk w wr w.heap.size w1.heap.size k fs) (fun i _ => fs.length - (intOf i).toNat)
  case atStart => exact ⟨0, Nat.zero_le _, rfl, HM.out⟩
  case round =>
    obtain ⟨k, hk, rfl, hm⟩ := hrel
    have HK : Hid (Mk w wr w.heap.size w1.heap.size k fs) := hm
    by_cases hlt2 : k < fs.length
    · obtain ⟨b, off, rfl, hbl, hcells⟩ := hfc.resolve_left (by omega)
      obtain ⟨c0, c1⟩ := hcells k hlt2
      have hbm := hm.below
      rw [← hbm.cell (p := ⟨b, off + k * 2, none⟩) hbl] at c0
      rw [← hbm.cell (p := ⟨b, off + k * 2 + 1, none⟩) hbl] at c1
      obtain ⟨⟨x0, p0⟩, ⟨x1, p1⟩, p2, p3⟩ := row_facts hlt2 hm.a
      obtain ⟨⟨y0, q0⟩, ⟨y1, q1⟩, q2, q3⟩ := row_facts hlt2 hm.b
      clear hbm hm hcells hfc
      have hn1 : ¬ w.heap.size = w1.heap.size := by omega
      have hn2 : ¬ w1.heap.size = w.heap.size := by omega
      have hn3 : ¬ b = w.heap.size := by omega
      have hn4 : ¬ w.heap.size = b := by omega
      have hn5 : ¬ b = w1.heap.size := by omega
      have hn6 : ¬ w1.heap.size = b := by omega
      have hi0 : (0 : Int) ≤ (k : Int) := by omega
      have hi1 : (k : Int) < (fs.length : Int) := by omega
      generalize hx : (fs.getD k (0, 0)).1 = X at *
      generalize hy : (fs.getD k (0, 0)).2 = Y at *
      go_wp2_with fail
      go_region
      all_goals go_wp2_with fail
      all_goals go_region
      all_goals go_wp2_with fail
      all_goals go_roundw
      all_goals first | (case rel => exact ⟨k + 1, by omega, by go_num, by rw [← hx, ← hy]; exact HK.out.step hlt2 (by omega) (Nat.le_refl _) (by omega)⟩) | (case measure => simp [intOf]; omega)
    · obtain rfl : k = fs.length := by omega
      clear hm hfc
      obtain ⟨T, hTT⟩ : ∃ T : TypeId, T = if le then 36 else 33 := ⟨_, rfl⟩
      have HTT : Hid (T = if le then 36 else 33) := hTT
      clear hTT
      go_upto_if 152 with fail
      go_cut [25] from 400 (fun s25 wx => s25 = .iface T (.agg #[]) ∧ wx = wr)
      case first =>
        cases le
        · go_wp2_with fail
          go_meet
          exact ⟨by rw [HTT.out]; rfl, rfl⟩
        · go_wp2_with fail
          go_meet
          exact ⟨by rw [HTT.out]; rfl, rfl⟩
      case rest =>
      obtain ⟨rfl, rfl⟩ := hcut
      go_upto_region 41 with fail
      go_cut [30, 31] from 400 (fun s30 s31 wx => s30 = .int .i64 0 ∧ s31 = .int .i64 0 ∧ wx = wc.alloc (.cells #[.pointer none, .iface T (.agg #[]), .slice none 0 0, .nilFunc, .int .u16 0, .slice (some ⟨w.heap.size, 0, none⟩) fs.length fs.length] 41))
      case first =>
        go_wp2_with fail
        go_meet
        exact ⟨rfl, rfl, rfl⟩
      case rest =>
      obtain ⟨rfl, rfl, rfl⟩ := hcut
      obtain rfl := HTT.out
      have hm := HK.out
      have hbA : Below w.heap.size w (wc.alloc (.cells #[.pointer none, .iface (if le then 36 else 33) (.agg #[]), .slice none 0 0, .nilFunc, .int .u16 0, .slice (some ⟨w.heap.size, 0, none⟩) fs.length fs.length] 41)) := hm.below.alloc hm.below.size _
      have hT : Tab F W0 (wc.alloc (.cells #[.pointer none, .iface (if le then 36 else 33) (.agg #[]), .slice none 0 0, .nilFunc, .int .u16 0, .slice (some ⟨w.heap.size, 0, none⟩) fs.length fs.length] 41)) wc.heap.size w.heap.size fs.length fs.length w1.heap.size fs.length fs.length w.heap.size w.heap.size le body bs fs fs := by
        refine ⟨?_, heap_alloc_new wc _, (row_own (Nat.le_refl _) hle hm.a).alloc _, hbA.size, ?_, (row_own (by omega) hle hm.b).alloc _, by omega, HW.out.trans (hbA.mono HW.out.size), hbA.size⟩
        · rw [hbA.tape]; exact HF.out
        · refine ⟨HB.out.1, ?_⟩
          rcases HB.out.2 with e | ⟨gb, cb, e1, e2, e3, e4, e5⟩
          · exact .inl e
          · exact .inr ⟨gb, cb, e1, e2, e3, Nat.lt_of_lt_of_le e4 hbA.size, fun j hj => by rw [hbA.cell (p := ⟨gb, j, none⟩) e4]; exact e5 j hj⟩
      apply_assumption
      exact piece3 F W0 _ wc.heap.size w.heap.size fs.length w1.heap.size fs.length w.heap.size w.heap.size le t body bs fs hT hle (Nat.le_refl _) (Nat.le_refl _) hl HS.out HW.out.size hm.below.size (Nat.le_refl _) (by omega) (fun gb k cb e => by
        rcases HB.out.2 with ⟨e1, _⟩ | ⟨gb', cb', e1, _, _, e4, _⟩
        · rw [e1] at e; simp at e
        · rw [e1] at e
          obtain ⟨rfl, _⟩ : gb' = gb ∧ _ := by simpa using e
          exact e4) _ _ _ _ _ _ _ _ _ _ _ _ _ _ _ _ _ _ _ _ _ _ _ _ _ _ _ _ _ _ _ _ _ _ _ _ _ _ _ _ _ _ _ _ _ _ _ _ _ _ _ _ _ _ _ _ _ _ _ _ _ _ _ _ _ _ _ _ _ _ _ _ _ _ _ _ _ _ _ _ _ _ _ _ _ _ _ _ _ _ _ _ _ _ _ _ _ _ _ _ _ _ _ _ _ _ _ _ _ _ _ _ _ _ _ _ _ _ _ _ _ _ _ _ _ _ _ _ _ _ _ _ _ _ _ _ _ _ _ _ _ _ _ _ _ _ _ _ _ _ _ _ _ _ _ _ _ _ _ _ _ _ _ _ _ _ _ _ _ _ _ _ _ _ _ _ _ _ _ _ _ _ _ _ _ _ _ _ _ _ _ _ _ _ _ _ _ _ _ _ _ _ _ _ _ _ _ _ _ _ _ _ _ _ _ _ _ _ _ _ _ _ _ _ _ _ _ _ _ _ _ _ _ _ _ _ _ _ _ _ _ _ _ _ _ _ _ _ _ _ _ _ _ _ _ _ _ _ _ _ _ _ _ _ _ _ _ _ _ _ _ _ _ _ _ _ _ _ _ _ _ _ _ _ _ _ _ _ _ _ _ _ _ _ _ _ _ _ _ _ _ _ _ _ _ _ _ _ _ _ _ _ _ _ _ _ _ _ _ _ _ _ _ _ _ _ _ _ _ _ _ _ _ _ _ _ _ _ _ _ _ _

end Go.Proofs.YbulkcixwFmt
