/-
  THE WALK OF THE LAW 'capture.LawS4247ABlock', IN PIECES: the table.
-/
import Derived.Test.YbulkcixwFmtPiece4b
import Derived.Deep.CutBlock
import Derived.Deep.RegionLaw
import Derived.Deep.AppendLies
import Derived.Deep.CutBlock
import Derived.Deep.RegionHeld3
import Derived.BigQuiet
namespace Go.Proofs.YbulkcixwFmt
open Go.RowKit Go.Extern.Stop Go.Stop Go.Extern
set_option maxRecDepth 100000


/-- No more than draws. -/
def Qt (w w' : World) : Prop := ∃ m, w' = w.drewN m
theorem Qt.refl (w : World) : Qt w w := ⟨0, rfl⟩
theorem Qt.one (w : World) : Qt w w.drew := ⟨1, rfl⟩
theorem drewN_add (w : World) (a b : Nat) : (w.drewN a).drewN b = w.drewN (a + b) := by
  simp [World.drewN, Nat.add_assoc]
theorem Qt.trans {a b c : World} (h : Qt a b) (h' : Qt b c) : Qt a c := by
  obtain ⟨m, rfl⟩ := h
  obtain ⟨k, rfl⟩ := h'
  exact ⟨m + k, drewN_add a m k⟩
theorem get32_bd (le : Bool) {w : World} {gb cb : Nat} {bs : List Int} (hb : Bd w gb cb bs) (i c : Nat) (hi : i + 4 ≤ bs.length) (W : World) (hq : Qt w W) : Calls Ybaf.prog 6 #[.slice (some ⟨gb, i, none⟩) 4 c, .bool le] W fun e w' => e = .returned (.int .u32 (rd32 le bs i)) ∧ Qt w w' := by
  obtain ⟨m, rfl⟩ := hq
  have h0 : (w.drewN m).cell? ⟨gb, i, none⟩ = _ := hb.cell i (by omega)
  have h1 : (w.drewN m).cell? ⟨gb, i + 1, none⟩ = _ := hb.cell (i + 1) (by omega)
  have h2 : (w.drewN m).cell? ⟨gb, i + 2, none⟩ = _ := hb.cell (i + 2) (by omega)
  have h3 : (w.drewN m).cell? ⟨gb, i + 3, none⟩ = _ := hb.cell (i + 3) (by omega)
  cases le
  · refine (get32_be gb i c _ _ _ _ _ h0 h1 h2 h3 (getD_byte hb.byte _ (by omega)) (getD_byte hb.byte _ (by omega)) (getD_byte hb.byte _ (by omega)) (getD_byte hb.byte _ (by omega))).mono ?_
    rintro e w' ⟨rfl, k, rfl⟩
    exact ⟨rfl, m + k, drewN_add w m k⟩
  · refine (get32_le gb i c _ _ _ _ _ h0 h1 h2 h3 (getD_byte hb.byte _ (by omega)) (getD_byte hb.byte _ (by omega)) (getD_byte hb.byte _ (by omega)) (getD_byte hb.byte _ (by omega))).mono ?_
    rintro e w' ⟨rfl, k, rfl⟩
    exact ⟨rfl, m + k, drewN_add w m k⟩
theorem get16_bd (le : Bool) {w : World} {gb cb : Nat} {bs : List Int} (hb : Bd w gb cb bs) (i c : Nat) (hi : i + 2 ≤ bs.length) (W : World) (hq : Qt w W) : Calls Ybaf.prog 5 #[.slice (some ⟨gb, i, none⟩) 2 c, .bool le] W fun e w' => e = .returned (.int .u16 (rd16 le bs i)) ∧ Qt w w' := by
  obtain ⟨m, rfl⟩ := hq
  have h0 : (w.drewN m).cell? ⟨gb, i, none⟩ = _ := hb.cell i (by omega)
  have h1 : (w.drewN m).cell? ⟨gb, i + 1, none⟩ = _ := hb.cell (i + 1) (by omega)
  cases le
  · refine (get16_be gb i c _ _ _ h0 h1 (getD_byte hb.byte _ (by omega)) (getD_byte hb.byte _ (by omega))).mono ?_
    rintro e w' ⟨rfl, k, rfl⟩
    exact ⟨rfl, m + k, drewN_add w m k⟩
  · refine (get16_le gb i c _ _ _ h0 h1 (getD_byte hb.byte _ (by omega)) (getD_byte hb.byte _ (by omega))).mono ?_
    rintro e w' ⟨rfl, k, rfl⟩
    exact ⟨rfl, m + k, drewN_add w m k⟩

/-- What stands ahead of the call of useBlock. -/
structure Tab (F : Interp) (W0 wx : World) (R g n c gw nw cw base B : Nat) (le : Bool) (body : Value) (bs : List Int) (fs fs' : List (Int × Int)) : Prop where
  tape : F.answers wx.tape
  rd : Rd wx R le (.slice (some ⟨g, 0, none⟩) n c)
  own : wx.ownsRow base 31 2 (.slice (some ⟨g, 0, none⟩) n c) n (flat fs)
  bas : base ≤ wx.heap.size
  body : BodyIs wx body bs
  want : wx.ownsRow base 31 2 (.slice (some ⟨gw, 0, none⟩) nw cw) nw (flat fs')
  ne : gw ≠ g
  below : Below W0.heap.size W0 wx
  lo : B ≤ wx.heap.size
theorem Tab.draws {F : Interp} {W0 w wx : World} {R g n c gw nw cw base B : Nat} {le : Bool} {body : Value} {bs : List Int} {fs fs' : List (Int × Int)} (h : Tab F W0 w R g n c gw nw cw base B le body bs fs fs') (hq : Qt w wx) : Tab F W0 wx R g n c gw nw cw base B le body bs fs fs' := by
  obtain ⟨m, rfl⟩ := hq
  exact ⟨h.tape, h.rd, h.own, h.bas, h.body, h.want, h.ne, below_drewN h.below m, h.lo⟩
theorem Tab.emptied {F : Interp} {W0 w : World} {R g n c gw nw cw base B : Nat} {le : Bool} {body : Value} {bs : List Int} {fs fs' : List (Int × Int)} (h : Tab F W0 w R g n c gw nw cw base B le body bs fs fs') : Tab F W0 w R g n c gw 0 cw base B le body bs fs [] := by
  refine ⟨h.tape, h.rd, h.own, h.bas, h.body, ⟨rfl, .inr ?_⟩, h.ne, h.below, h.lo⟩
  rcases h.want.2 with ⟨e1, _⟩ | ⟨g', c', cur, e1, e2, e3, e4, e5, e6, e7⟩
  · simp at e1
  · obtain ⟨rfl, rfl⟩ : gw = g' ∧ cw = c' := by simpa using e1
    exact ⟨gw, cw, cur, rfl, e2, e3, Nat.zero_le _, e5, e6, by simp [flat]⟩
theorem Tab.grown {F : Interp} {W0 w w2 w3 : World} {R g n c gw nw cw base B gg cap : Nat} {le : Bool} {body : Value} {bs : List Int} {fs fs' ys : List (Int × Int)} {o : Obj} (h : Tab F W0 w R g n c gw nw cw base B le body bs fs fs') (hq : Qt w w2) (hg : (w2.alloc o).grownBy w3 (some gw))
    (hown : w3.ownsRow base 31 2 (.slice (some ⟨gg, 0, none⟩) (nw + 1) cap) (nw + 1) (flat ys)) (hat : some gw = some gg ∨ gg = w2.heap.size + 1) (hB : B ≤ gw) (h0 : W0.heap.size ≤ B) (hgb : ∀ gb k cb, body = .slice (some ⟨gb, 0, none⟩) k cb → gb < B) : Tab F W0 w3 R g n c gg (nw + 1) cap base B le body bs fs ys := by
  have h2 := h.draws hq
  have hR2 := (Array.getElem?_eq_some_iff.1 h2.rd).1
  have hg2 : g < w2.heap.size := (h2.own.lt g rfl).2
  have hgwR : gw ≠ R := row_ne h2.rd h2.want
  have hsz := hg.size
  simp at hsz
  have hblk : ∀ b, b < w2.heap.size → b ≠ gw → w3.heap[b]? = w2.heap[b]? := fun b hb hne => by
    rw [hg.block b (by simp; omega) (by simpa using hne), heap_alloc_old _ _ hb]
  refine ⟨?_, ?_, ?_, ?_, ?_, hown, ?_, ?_, ?_⟩
  · rw [hg.tape]; exact h2.tape
  · unfold Rd
    rw [hblk R hR2 (Ne.symm hgwR)]; exact h2.rd
  · refine ⟨h2.own.1, ?_⟩
    rcases h2.own.2 with ⟨e1, _⟩ | ⟨g', c', cur, e1, e2, e3, e4⟩
    · simp at e1
    · obtain ⟨rfl, rfl⟩ : g = g' ∧ c = c' := by simpa using e1
      exact .inr ⟨g, c, cur, rfl, e2, by rw [hblk g hg2 (Ne.symm h2.ne)]; exact e3, e4⟩
  · have := h2.bas; omega
  · refine ⟨h2.body.1, ?_⟩
    rcases h2.body.2 with e | ⟨gb, cb, e1, e2, e3, e4, e5⟩
    · exact .inl e
    · refine .inr ⟨gb, cb, e1, e2, e3, by omega, fun j hj => ?_⟩
      rw [← e5 j hj]
      have hne : gb ≠ gw := by have := hgb gb _ _ e1; omega
      exact World.cell?_of_block (hblk gb e4 hne)
  · rcases hat with e | e
    · have : gw = gg := by simpa using e
      rw [← this]; exact h2.ne
    · omega
  · refine ⟨hg.os.trans h2.below.os, hg.tape.trans h2.below.tape, hg.output.trans h2.below.output, by have := h2.below.size; omega, fun b hb => ?_⟩
    rw [hblk b (by have := h2.below.size; omega) (by omega)]; exact h2.below.block b hb
  · have := h2.lo; omega

theorem table_ok {le : Bool} {t : Int} {bs : List Int} {fs : List (Int × Int)} (h : (table le t bs fs).ok = true) : (table le t bs fs).err = false ∧ (table le t bs fs).lo ≤ (table le t bs fs).hi ∧ (table le t bs fs).hi ≤ bs.length ∧ 4 ≤ bs.length := by
  revert h
  have r0 := rd32_range le bs 12
  unfold table table1 table6 table3
  repeat' split
  all_goals simp only [skipO, failO, okO]
  all_goals (intro h; simp_all)
  all_goals omega
theorem getD_mem (fs : List (Int × Int)) (h : ¬ fs.length = 0) : fs.getD 0 (0, 0) ∈ fs := by
  cases fs with
  | nil => exact absurd rfl h
  | cons f tl => simp
theorem table_len (le : Bool) (t : Int) (bs : List Int) (fs : List (Int × Int)) : (table le t bs fs).fs.length ≤ fs.length + 1 := by
  unfold table table1 table6 table3
  repeat' split
  all_goals simp [skipO, failO, okO]

set_option maxHeartbeats 8000000 in
theorem piece3 (F : Interp) (W0 w : World) (R g c gw cw base B : Nat) (le : Bool) (t : Int) (body : Value) (bs : List Int) (fs : List (Int × Int)) (hT : Tab F W0 w R g fs.length c gw fs.length cw base B le body bs fs fs) (hle : fs.length ≤ 1024) (hnc : fs.length ≤ c) (hcw : fs.length ≤ cw) (hl : bs.length ≤ 2000)
    (hfs : ∀ f ∈ fs, 0 ≤ f.2 ∧ f.2 ≤ 4294967295) (h0 : W0.heap.size ≤ B) (hRB : B ≤ R) (hgB : B ≤ g) (hgwB : B ≤ gw) (hgb : ∀ gb k cb, body = .slice (some ⟨gb, 0, none⟩) k cb → gb < B) (u0 u1 u3 u4 u5 u6 u7 u8 u9 u10 u11 u12 u13 u14 u15 u16 u17 u18 u21 u22 u24 u25 u32 u33 u34 u35 u36 u37 u38 u39 u40 u41 u42 u43 u44 u45 u46 u47 u48 u49 u50 u51 u52 u53 u54 u55 u56 u57 u58 u59 u60 u61 u62 u63 u64 u65 u66 u67 u68 u69 u70 u71 u72 u73 u74 u75 u76 u77 u78 u79 u80 u81 u82 u83 u84 u85 u86 u87 u88 u89 u90 u91 u92 u93 u94 u95 u96 u97 u98 u99 u100 u101 u102 u103 u104 u105 u106 u107 u108 u109 u110 u111 u112 u113 u114 u115 u116 u117 u118 u119 u120 u121 u122 u123 u124 u125 u126 u127 u128 u129 u130 u131 u132 u133 u134 u135 u136 u137 u138 u139 u140 u141 u142 u143 u144 u145 u146 u147 u148 u149 u150 u151 u152 u153 u154 u155 u156 u157 u158 u159 u160 u161 u162 u163 u164 u165 u166 u167 u168 u169 u170 u171 u172 u173 u174 u175 u176 u177 u178 u179 u180 u181 u182 u183 u184 u185 u186 u187 u188 u189 u190 u191 u192 u193 u194 u195 u196 u197 u198 u199 u200 u201 u202 u203 u204 u205 u206 u207 u208 u209 u210 u211 u212 u213 u214 u215 u216 u217 u218 u219 u220 u221 u222 u223 u224 u225 u226 u227 u228 u229 u230 u231 u232 u233 u234 u235 u236 u237 u238 u239 u240 u241 u242 u243 u244 u245 u246 u247 u248 u249 u250 u251 u252 u253 u254 u255 u256 u257 u258 u259 u260 u261 u262 u263 u264 u265 u266 u267 u268 u269 u270 u271 u272 u273 u274 u275 u276 u277 u278 u279 u280 u281 u282 u283 u284 u285 u286 u287 u288 u289 u290 u291 u292 u293 u294 u295 u296 u297 u298 u299 u300 u301 u302 u303 u304 u305 u306 u307 u308 u309 u310 u311 u312 u313 u314 u315 u316 u317 u318 u319 u320 u321 u322 u323 u324 u325 u326 u327 u328 u329 u330 u331 u332 u333 u334 u335 u336 u337 u338 u339 u340 u341 u342 u343 u344 u345 u346 u347 u348 u349 u350 u351 : Value) :
    Code.wp Ybaf.prog ((Ybaf.f3.body.bind (codeFrom 42)).getD .skip) (bodyPost Ybaf.prog Ybaf.f3 fun e w' => e = .returned (.bool true) ∧ Below W0.heap.size W0 w') ⟨#[u0, u1, .bool le, u3, u4, u5, u6, u7, u8, u9, u10, u11, u12, u13, u14, u15, u16, u17, u18, .int .u32 t, body, u21, u22, .slice (some ⟨gw, 0, none⟩) fs.length cw, u24, u25, .pointer (some ⟨R, 0, none⟩), .bool false, .bool false, .int .u16 0, .int .i64 0, .int .i64 0, u32, u33, u34, u35, u36, u37, u38, u39, u40, u41, u42, u43, u44, u45, u46, u47, u48, u49, u50, u51, u52, u53, u54, u55, u56, u57, u58, u59, u60, u61, u62, u63, u64, u65, u66, u67, u68, u69, u70, u71, u72, u73, u74, u75, u76, u77, u78, u79, u80, u81, u82, u83, u84, u85, u86, u87, u88, u89, u90, u91, u92, u93, u94, u95, u96, u97, u98, u99, u100, u101, u102, u103, u104, u105, u106, u107, u108, u109, u110, u111, u112, u113, u114, u115, u116, u117, u118, u119, u120, u121, u122, u123, u124, u125, u126, u127, u128, u129, u130, u131, u132, u133, u134, u135, u136, u137, u138, u139, u140, u141, u142, u143, u144, u145, u146, u147, u148, u149, u150, u151, u152, u153, u154, u155, u156, u157, u158, u159, u160, u161, u162, u163, u164, u165, u166, u167, u168, u169, u170, u171, u172, u173, u174, u175, u176, u177, u178, u179, u180, u181, u182, u183, u184, u185, u186, u187, u188, u189, u190, u191, u192, u193, u194, u195, u196, u197, u198, u199, u200, u201, u202, u203, u204, u205, u206, u207, u208, u209, u210, u211, u212, u213, u214, u215, u216, u217, u218, u219, u220, u221, u222, u223, u224, u225, u226, u227, u228, u229, u230, u231, u232, u233, u234, u235, u236, u237, u238, u239, u240, u241, u242, u243, u244, u245, u246, u247, u248, u249, u250, u251, u252, u253, u254, u255, u256, u257, u258, u259, u260, u261, u262, u263, u264, u265, u266, u267, u268, u269, u270, u271, u272, u273, u274, u275, u276, u277, u278, u279, u280, u281, u282, u283, u284, u285, u286, u287, u288, u289, u290, u291, u292, u293, u294, u295, u296, u297, u298, u299, u300, u301, u302, u303, u304, u305, u306, u307, u308, u309, u310, u311, u312, u313, u314, u315, u316, u317, u318, u319, u320, u321, u322, u323, u324, u325, u326, u327, u328, u329, u330, u331, u332, u333, u334, u335, u336, u337, u338, u339, u340, u341, u342, u343, u344, u345, u346, u347, u348, u349, u350, u351], []⟩ w := by
  conv => arg 2; whnf
  have HT : Hid _ := hT
  have hB := hT.body
  have hcells : Hid (∀ k, k < fs.length → w.cell? ⟨gw, k * 2, none⟩ = some (.int .u16 (fs.getD k (0, 0)).1) ∧ w.cell? ⟨gw, k * 2 + 1, none⟩ = some (.int .u32 (fs.getD k (0, 0)).2)) := fun k hk => ⟨by rw [hT.want.cellAt (k * 2) (by omega)]; exact (flat_at fs k (by omega)).1, by rw [hT.want.cellAt (k * 2 + 1) (by omega)]; exact (flat_at fs k (by omega)).2⟩
  clear hT
  go_upto_block 3 with fail
  go_cut [23, 27, 28, 29, 30, 31] from 400 (fun s23 s27 s28 s29 s30 s31 wx => ∃ gw' cw', s23 = .slice (some ⟨gw', 0, none⟩) (table le t bs fs).fs.length cw' ∧ s27 = .bool (table le t bs fs).err ∧ s28 = .bool (table le t bs fs).ok ∧ s29 = .int .u16 (table le t bs fs).link ∧ s30 = .int .i64 ((table le t bs fs).lo : Int) ∧ s31 = .int .i64 ((table le t bs fs).hi : Int) ∧ Tab F W0 wx R g fs.length c gw' (table le t bs fs).fs.length cw' base B le body bs fs (table le t bs fs).fs)
  case first =>
    by_cases t0 : t = 168627466
    · subst t0
      have hE : table le 168627466 bs fs = skipO [] := by unfold table; rw [if_pos rfl]
      clear hB
      go_wp2_with fail
      go_meet
      rw [hE]
      exact ⟨gw, cw, rfl, rfl, rfl, rfl, rfl, rfl, HT.out.emptied⟩
    by_cases t1 : t = 1
    · subst t1
      by_cases l8 : bs.length < 8
      · have hE : table le 1 bs fs = failO fs := by unfold table table1; rw [if_neg (by decide), if_pos rfl, if_pos l8]
        obtain ⟨a, cc, rfl⟩ := body_slice hB
        clear hB
        go_wp2_with fail
        go_meet
        rw [hE]
        exact ⟨gw, cw, rfl, rfl, rfl, rfl, rfl, rfl, HT.out⟩
      · have hE : table le 1 bs fs = skipO (fs ++ [(rd16 le bs 0, rd32 le bs 4)]) := by unfold table table1; rw [if_neg (by decide), if_pos rfl, if_neg l8]
        obtain ⟨gb, cb, rfl, hbd⟩ := bd_of hB hl (by omega)
        obtain ⟨i0, hi0, hz0, hz1, hz2⟩ := info_parts info31
        have hcb := hbd.cap
        have hcm := hbd.capm
        have hc2 : (2 : Int) ≤ (cb : Int) := by omega
        have hc8 : (8 : Int) ≤ (cb : Int) := by omega
        have hn4 : ¬ cb = 4 := by omega
        have HD : Hid (Bd w gb cb bs) := hbd
        have HG : Hid _ := hgb
        clear hB hbd hgb
        unfold maxLen at hcm
        go_upto_region 48 with fail
        go_region_law (first | (refine step_append_lies _ (by rfl) _ _ _ (by rfl) base 31 i0 _ 2 8 Ybaf.underlying26 hi0 hz0 hz1 hz2 rfl (by omega) (.slice (some ⟨gw, 0, none⟩) fs.length cw) fs.length (flat fs) (by rfl) (by exact (HT.out.draws hq2).want.alloc _) ⟨w2.heap.size, 0, none⟩ 1 1 [.int .u16 (rd16 le bs 0), .int .u32 (rd32 le bs 4)] (by rfl) (by rfl) (World.news_of_block (cs := #[.int .u16 (rd16 le bs 0), .int .u32 (rd32 le bs 4)]) (t := 31) (fr := (0, 0)) (heap_alloc_new w2 _)) (by simp [Value.oneCell']) (by omega) (by unfold maxLen; omega) (by omega) (by have := (HT.out.draws hq2).bas; simp; omega) (w2.heap.size + 1) (by simp) ?_; intro gg cap w3 hown3 hgrow hat hlt3) | (go_simp; go_at_call 5; refine (get16_bd le HD.out 0 cb (by omega) _ (Qt.one w)).mono ?_; rintro e w1 ⟨rfl, hq1⟩) | (go_simp; go_at_call 6; refine (get32_bd le HD.out 4 (cb - 4) (by omega) _ hq1).mono ?_; rintro e w2 ⟨rfl, hq2⟩))
        all_goals
          go_wp2_with fail
          go_meet
          rw [hE]
          refine ⟨gg, cap, by simp [skipO], rfl, rfl, rfl, rfl, rfl, ?_⟩
          have hfin := Tab.grown (ys := fs ++ [(rd16 le bs 0, rd32 le bs 4)]) HT.out hq2 hgrow (by rw [flat_snoc]; exact hown3) hat hgwB h0 HG.out
          have el : (skipO (fs ++ [(rd16 le bs 0, rd32 le bs 4)])).fs.length = fs.length + 1 := by simp [skipO]
          rw [el]; exact hfin
    by_cases t6 : t = 6
    · subst t6
      by_cases l20 : bs.length < 20
      · have hE : table le 6 bs fs = failO fs := by unfold table table6; rw [if_neg (by decide), if_neg (by decide), if_pos rfl, if_pos l20]
        obtain ⟨a, cc, rfl⟩ := body_slice hB
        clear hB
        go_wp2_with fail
        go_meet
        rw [hE]
        exact ⟨gw, cw, rfl, rfl, rfl, rfl, rfl, rfl, HT.out⟩
      obtain ⟨ra, rb⟩ := rd32_range le bs 0
      obtain ⟨rc, rd⟩ := rd32_range le bs 12
      obtain ⟨gb, cb, rfl, hbd⟩ := bd_of hB hl (by omega)
      have hcb := hbd.cap
      have hcm := hbd.capm
      unfold maxLen at hcm
      have HD : Hid (Bd w gb cb bs) := hbd
      clear hB hbd
      have hc4 : (4 : Int) ≤ (cb : Int) := by omega
      have hc16 : (16 : Int) ≤ (cb : Int) := by omega
      have hn12 : ¬ cb = 12 := by omega
      have hw0 : IntKind.u64.wrap (rd32 le bs 0) = rd32 le bs 0 := by rw [IntKind.wrap_u64]; omega
      have hw1 : IntKind.u64.wrap (rd32 le bs 12) = rd32 le bs 12 := by rw [IntKind.wrap_u64]; omega
      have hw2 : IntKind.u64.wrap (fs.length : Int) = fs.length := by rw [IntKind.wrap_u64]; omega
      have hw3 : IntKind.i64.wrap ((bs.length : Int) - 20) = (bs.length : Int) - 20 := by rw [IntKind.wrap_i64]; omega
      have hw4 : IntKind.u64.wrap ((bs.length : Int) - 20) = (bs.length : Int) - 20 := by rw [IntKind.wrap_u64]; omega
      have hw5 : IntKind.i64.wrap (rd32 le bs 12) = rd32 le bs 12 := by rw [IntKind.wrap_i64]; omega
      have hw6 : IntKind.i64.wrap (20 + rd32 le bs 12) = 20 + rd32 le bs 12 := by rw [IntKind.wrap_i64]; omega
      by_cases hid : (fs.length : Int) ≤ rd32 le bs 0
      · have hE : table le 6 bs fs = failO fs := by unfold table table6; rw [if_neg (by decide), if_neg (by decide), if_pos rfl, if_neg l20, if_pos hid]
        go_wp2_with fail
        refine (get32_bd le HD.out 0 cb (by omega) _ (Qt.refl w)).mono ?_
        rintro e w1 ⟨rfl, m1, rfl⟩
        go_wp2_with fail
        refine (get32_bd le HD.out 12 (cb - 12) (by omega) _ ⟨m1, rfl⟩).mono ?_
        rintro e w2 ⟨rfl, m2, rfl⟩
        go_wp2_with fail
        go_meet
        rw [hE]
        exact ⟨gw, cw, rfl, rfl, rfl, rfl, rfl, rfl, HT.out.draws ⟨m2, rfl⟩⟩
      by_cases hc : (bs.length : Int) - 20 < rd32 le bs 12
      · have hE : table le 6 bs fs = failO fs := by unfold table table6; rw [if_neg (by decide), if_neg (by decide), if_pos rfl, if_neg l20, if_neg hid, if_pos hc]
        go_wp2_with fail
        refine (get32_bd le HD.out 0 cb (by omega) _ (Qt.refl w)).mono ?_
        rintro e w1 ⟨rfl, m1, rfl⟩
        go_wp2_with fail
        refine (get32_bd le HD.out 12 (cb - 12) (by omega) _ ⟨m1, rfl⟩).mono ?_
        rintro e w2 ⟨rfl, m2, rfl⟩
        go_wp2_with fail
        go_meet
        rw [hE]
        exact ⟨gw, cw, rfl, rfl, rfl, rfl, rfl, rfl, HT.out.draws ⟨m2, rfl⟩⟩
      · have hE : table le 6 bs fs = okO fs (fs.getD (rd32 le bs 0).toNat (0, 0)).1 20 (20 + (rd32 le bs 12).toNat) := by unfold table table6; rw [if_neg (by decide), if_neg (by decide), if_pos rfl, if_neg l20, if_neg hid, if_neg hc]
        obtain ⟨c0, c1⟩ := hcells.out (rd32 le bs 0).toNat (by omega)
        generalize (fs.getD (rd32 le bs 0).toNat (0, 0)).1 = link at *
        have hx1 : rd32 le bs 0 < (fs.length : Int) := by omega
        go_wp2_with fail
        refine (get32_bd le HD.out 0 cb (by omega) _ (Qt.refl w)).mono ?_
        rintro e w1 ⟨rfl, m1, rfl⟩
        go_wp2_with fail
        refine (get32_bd le HD.out 12 (cb - 12) (by omega) _ ⟨m1, rfl⟩).mono ?_
        rintro e w2 ⟨rfl, m2, rfl⟩
        go_wp2_with fail
        go_meet
        rw [hE]
        exact ⟨gw, cw, rfl, rfl, rfl, rfl, rfl, by simp [okO]; omega, HT.out.draws ⟨m2, rfl⟩⟩
    by_cases t3 : t = 3
    · subst t3
      by_cases l4 : bs.length < 4
      · have hE : table le 3 bs fs = failO fs := by unfold table table3; rw [if_neg (by decide), if_neg (by decide), if_neg (by decide), if_pos rfl, if_pos (.inl l4)]
        obtain ⟨a, cc, rfl⟩ := body_slice hB
        clear hB
        go_wp2_with fail
        go_meet
        rw [hE]
        exact ⟨gw, cw, rfl, rfl, rfl, rfl, rfl, rfl, HT.out⟩
      by_cases hf0 : fs.length = 0
      · have hE : table le 3 bs fs = failO fs := by unfold table table3; rw [if_neg (by decide), if_neg (by decide), if_neg (by decide), if_pos rfl, if_pos (.inr hf0)]
        obtain ⟨a, cc, rfl⟩ := body_slice hB
        clear hB
        go_wp2_with fail
        go_meet
        rw [hE]
        exact ⟨gw, cw, by rw [show (failO fs).fs.length = 0 from hf0], rfl, rfl, rfl, rfl, rfl, HT.out⟩
      obtain ⟨c0, c1⟩ := hcells.out 0 (by omega)
      have hS := hfs (fs.getD 0 (0, 0)) (getD_mem fs hf0)
      obtain ⟨L, S, hLS⟩ : ∃ L S, fs.getD 0 (0, 0) = (L, S) := ⟨_, _, rfl⟩
      rw [hLS] at c0 c1 hS
      simp only [Nat.zero_mul, Nat.zero_add] at c0 c1 hS
      obtain ⟨sa, sb⟩ := hS
      have hnn : ¬ ((bs.length < 4) ∨ fs.length = 0) := by omega
      have hf1 : (0 : Int) < (fs.length : Int) := by omega
      have hfn : ¬ fs = [] := by rintro rfl; exact hf0 rfl
      have hfi : ¬ (fs.length : Int) = 0 := by omega
      have hfb : ((fs.length : Int) == 0) = false := by simpa using hfi
      have hl4 : ¬ (bs.length : Int) < 4 := by omega
      have hl4' : decide ((bs.length : Int) < 4) = false := decide_eq_false hl4
      have HNN : Hid _ := hnn
      clear hnn
      obtain ⟨ra, rb⟩ := rd32_range le bs 0
      obtain ⟨gb, cb, rfl, hbd⟩ := bd_of hB hl (by omega)
      have hcb := hbd.cap
      have hcm := hbd.capm
      unfold maxLen at hcm
      have HD : Hid (Bd w gb cb bs) := hbd
      clear hB hbd
      have hc4 : (4 : Int) ≤ (cb : Int) := by omega
      have hw0 : IntKind.u64.wrap (rd32 le bs 0) = rd32 le bs 0 := by rw [IntKind.wrap_u64]; omega
      have hw1 : IntKind.u64.wrap S = S := by rw [IntKind.wrap_u64]; omega
      have hw3 : IntKind.i64.wrap ((bs.length : Int) - 4) = (bs.length : Int) - 4 := by rw [IntKind.wrap_i64]; omega
      have hw4 : IntKind.u64.wrap ((bs.length : Int) - 4) = (bs.length : Int) - 4 := by rw [IntKind.wrap_u64]; omega
      have hw5 : IntKind.i64.wrap (rd32 le bs 0) = rd32 le bs 0 := by rw [IntKind.wrap_i64]; omega
      have hw6 : IntKind.i64.wrap (4 + rd32 le bs 0) = 4 + rd32 le bs 0 := by rw [IntKind.wrap_i64]; omega
      have hw7 : IntKind.i64.wrap S = S := by rw [IntKind.wrap_i64]; omega
      have hw8 : IntKind.i64.wrap (4 + S) = 4 + S := by rw [IntKind.wrap_i64]; omega
      clear hfs
      by_cases hz : S = 0
      · subst hz
        by_cases hc : (bs.length : Int) - 4 < rd32 le bs 0
        · have hE : table le 3 bs fs = failO fs := by unfold table table3; rw [if_neg (by decide), if_neg (by decide), if_neg (by decide), if_pos rfl, if_neg HNN.out, hLS, cap3_whole (.inl rfl), if_pos hc]
          go_wp2_with fail
          refine (get32_bd le HD.out 0 cb (by omega) _ (Qt.refl w)).mono ?_
          rintro e w1 ⟨rfl, m2, rfl⟩
          go_wp2_with fail
          go_meet
          rw [hE]
          exact ⟨gw, cw, rfl, rfl, rfl, rfl, rfl, rfl, HT.out.draws ⟨m2, rfl⟩⟩
        · have hE : table le 3 bs fs = okO fs L 4 (4 + (rd32 le bs 0).toNat) := by unfold table table3; rw [if_neg (by decide), if_neg (by decide), if_neg (by decide), if_pos rfl, if_neg HNN.out, hLS, cap3_whole (.inl rfl), if_neg hc]
          go_wp2_with fail
          refine (get32_bd le HD.out 0 cb (by omega) _ (Qt.refl w)).mono ?_
          rintro e w1 ⟨rfl, m2, rfl⟩
          go_wp2_with fail
          go_meet
          rw [hE]
          exact ⟨gw, cw, rfl, rfl, rfl, rfl, rfl, by simp [okO]; omega, HT.out.draws ⟨m2, rfl⟩⟩
      by_cases hs : S < rd32 le bs 0
      · have hcap := cap3_cut hz hs
        by_cases hc : (bs.length : Int) - 4 < S
        · have hE : table le 3 bs fs = failO fs := by unfold table table3; rw [if_neg (by decide), if_neg (by decide), if_neg (by decide), if_pos rfl, if_neg HNN.out, hLS, hcap, if_pos hc]
          go_wp2_with fail
          refine (get32_bd le HD.out 0 cb (by omega) _ (Qt.refl w)).mono ?_
          rintro e w1 ⟨rfl, m2, rfl⟩
          go_wp2_with fail
          go_meet
          rw [hE]
          exact ⟨gw, cw, rfl, rfl, rfl, rfl, rfl, rfl, HT.out.draws ⟨m2, rfl⟩⟩
        · have hE : table le 3 bs fs = okO fs L 4 (4 + (S).toNat) := by unfold table table3; rw [if_neg (by decide), if_neg (by decide), if_neg (by decide), if_pos rfl, if_neg HNN.out, hLS, hcap, if_neg hc]
          go_wp2_with fail
          refine (get32_bd le HD.out 0 cb (by omega) _ (Qt.refl w)).mono ?_
          rintro e w1 ⟨rfl, m2, rfl⟩
          go_wp2_with fail
          go_meet
          rw [hE]
          exact ⟨gw, cw, rfl, rfl, rfl, rfl, rfl, by simp [okO]; omega, HT.out.draws ⟨m2, rfl⟩⟩
      · have hcap : cap3 le bs S = rd32 le bs 0 := cap3_whole (.inr (by omega))
        by_cases hc : (bs.length : Int) - 4 < rd32 le bs 0
        · have hE : table le 3 bs fs = failO fs := by unfold table table3; rw [if_neg (by decide), if_neg (by decide), if_neg (by decide), if_pos rfl, if_neg HNN.out, hLS, hcap, if_pos hc]
          go_wp2_with fail
          refine (get32_bd le HD.out 0 cb (by omega) _ (Qt.refl w)).mono ?_
          rintro e w1 ⟨rfl, m2, rfl⟩
          go_wp2_with fail
          go_meet
          rw [hE]
          exact ⟨gw, cw, rfl, rfl, rfl, rfl, rfl, rfl, HT.out.draws ⟨m2, rfl⟩⟩
        · have hE : table le 3 bs fs = okO fs L 4 (4 + (rd32 le bs 0).toNat) := by unfold table table3; rw [if_neg (by decide), if_neg (by decide), if_neg (by decide), if_pos rfl, if_neg HNN.out, hLS, hcap, if_neg hc]
          go_wp2_with fail
          refine (get32_bd le HD.out 0 cb (by omega) _ (Qt.refl w)).mono ?_
          rintro e w1 ⟨rfl, m2, rfl⟩
          go_wp2_with fail
          go_meet
          rw [hE]
          exact ⟨gw, cw, rfl, rfl, rfl, rfl, rfl, by simp [okO]; omega, HT.out.draws ⟨m2, rfl⟩⟩
    · have hE : table le t bs fs = skipO fs := by unfold table; rw [if_neg t0, if_neg t1, if_neg t6, if_neg t3]
      clear hB
      go_wp2_with fail
      go_meet
      rw [hE]
      exact ⟨gw, cw, rfl, rfl, rfl, rfl, rfl, rfl, HT.out⟩
  case rest =>
  obtain ⟨gw', cw', rfl, h27, h28, rfl, rfl, rfl, hx⟩ := hcut
  have hlen := table_len le t bs fs
  by_cases hok : (table le t bs fs).ok = true
  · obtain ⟨he, hlh, hhl, hl4⟩ := table_ok hok
    rw [he] at h27
    rw [hok] at h28
    subst h27 h28
    obtain ⟨gb, cb, rfl, hbd⟩ := bd_of hx.body hl (by omega)
    apply_assumption
    exact piece4b F W0 wc R g fs.length c gw' _ cw' base B le t gb cb _ _ _ bs fs hx.tape hx.rd hx.own rfl hle hx.bas hnc hx.body hl hfs hx.want rfl hx.ne hx.below h0 hRB hgB he hok rfl rfl rfl (by omega) hlh hhl (hgb gb _ _ rfl) hx.lo _ _ _ _ _ _ _ _ _ _ _ _ _ _ _ _ _ _ _ _ _ _ _ _ _ _ _ _ _ _ _ _ _ _ _ _ _ _ _ _ _ _ _ _ _ _ _ _ _ _ _ _ _ _ _ _ _ _ _ _ _ _ _ _ _ _ _ _ _ _ _ _ _ _ _ _ _ _ _ _ _ _ _ _ _ _ _ _ _ _ _ _ _ _ _ _ _ _ _ _ _ _ _ _ _ _ _ _ _ _ _ _ _ _ _ _ _ _ _ _ _ _ _ _ _ _ _ _ _ _ _ _ _ _ _ _ _ _ _ _ _ _ _ _ _ _ _ _ _ _ _ _ _ _ _ _ _ _ _ _ _ _ _ _ _ _ _ _ _ _ _ _ _ _ _ _ _ _ _ _ _ _ _ _ _ _ _ _ _ _ _ _ _ _ _ _ _ _ _ _ _ _ _ _ _ _ _ _ _ _ _ _ _ _ _ _ _ _ _ _ _ _ _ _ _ _ _ _ _ _ _ _ _ _ _ _ _ _ _ _ _ _ _ _ _ _ _ _ _ _ _ _ _ _ _ _ _ _ _ _ _ _ _ _ _ _ _ _ _ _ _ _ _ _ _ _ _ _ _ _ _ _ _ _ _ _ _ _ _ _ _ _ _ _ _ _ _ _ _ _ _ _ _ _ _ _ _ _ _ _ _ _ _ _ _ _ _ _ _ _ _ _ _ _ _ _ _ _ _ _ _ _ _ _ _ _ _ _ _ _ _ _ _
  · have hok' : (table le t bs fs).ok = false := by simpa using hok
    rw [hok'] at h28
    subst h27 h28
    apply_assumption
    exact piece4a F W0 wc R g fs.length c gw' _ cw' base B le t body bs fs hx.tape hx.rd hx.own rfl hle hx.bas hnc hx.body hl hfs hx.want rfl hx.ne hx.below h0 hRB hgB _ rfl hok' (by omega) _ _ _ _ _ _ _ _ _ _ _ _ _ _ _ _ _ _ _ _ _ _ _ _ _ _ _ _ _ _ _ _ _ _ _ _ _ _ _ _ _ _ _ _ _ _ _ _ _ _ _ _ _ _ _ _ _ _ _ _ _ _ _ _ _ _ _ _ _ _ _ _ _ _ _ _ _ _ _ _ _ _ _ _ _ _ _ _ _ _ _ _ _ _ _ _ _ _ _ _ _ _ _ _ _ _ _ _ _ _ _ _ _ _ _ _ _ _ _ _ _ _ _ _ _ _ _ _ _ _ _ _ _ _ _ _ _ _ _ _ _ _ _ _ _ _ _ _ _ _ _ _ _ _ _ _ _ _ _ _ _ _ _ _ _ _ _ _ _ _ _ _ _ _ _ _ _ _ _ _ _ _ _ _ _ _ _ _ _ _ _ _ _ _ _ _ _ _ _ _ _ _ _ _ _ _ _ _ _ _ _ _ _ _ _ _ _ _ _ _ _ _ _ _ _ _ _ _ _ _ _ _ _ _ _ _ _ _ _ _ _ _ _ _ _ _ _ _ _ _ _ _ _ _ _ _ _ _ _ _ _ _ _ _ _ _ _ _ _ _ _ _ _ _ _ _ _ _ _ _ _ _ _ _ _ _ _ _ _ _ _ _ _ _ _ _ _ _ _ _ _ _ _ _ _ _ _ _ _ _ _ _ _ _ _ _ _ _ _ _ _ _ _ _ _ _ _ _ _ _ _ _ _ _ _ _ _ _ _ _ _ _ _ _ _ _

end Go.Proofs.YbulkcixwFmt
