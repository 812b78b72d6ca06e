/-
  THE WALK OF THE LAW 'capture.LawS4247ABlock', IN PIECES: the body is made.
-/
import Derived.Test.YbulkcixwFmtPiece2
import Derived.Deep.CutBlock
import Derived.Deep.RegionHeld3
import Derived.BigQuiet
import Derived.Deep.CutBlock
import Derived.Laws.AppendOwnNone
namespace Go.Proofs.YbulkcixwFmt
open Go.RowKit Go.Extern.Stop Go.Stop Go.Extern
set_option maxRecDepth 100000

/-- put32, from wherever the call stands: four bytes more. -/
theorem put32_at {w : World} {base : Nat} {v : Value} {xs : List Int} (le : Bool) {z : Int} (hz : 0 ≤ z ∧ z ≤ 4294967295) (hlen : xs.length ≤ 1000) (W : World) (hown : Own5 W base v xs) (hbase : base ≤ W.heap.size) (hwb : w.heap.size ≤ base) (hb : Below w.heap.size w W) :
    Calls Ybaf.prog 4 #[v, .bool le, .int .u32 z] W fun e W' => ∃ v' xs', e = .returned v' ∧ Own5 W' base v' xs' ∧ xs'.length = xs.length + 4 ∧ base ≤ W'.heap.size ∧ Below w.heap.size w W' := by
  refine (put32_any le v xs z W base hown.1 hlen hbase hz).mono ?_
  rintro e W' ⟨v', ys, rfl, hl, hr, h1, h2⟩
  refine ⟨v', xs ++ ys, rfl, ⟨h1, ?_⟩, by simp [hl], Nat.le_trans hbase h2.size, hb.grown h2 hb.size ?_⟩
  · intro x hx
    rcases List.mem_append.1 hx with h | h
    · exact hown.2 x h
    · exact hr x h
  · intro k hk
    exact Nat.le_trans hwb (hown.1.lt k hk).1

theorem own5_nil (w : World) (base : Nat) : Own5 w base (.slice none 0 0) [] := ⟨World.ownsRow_nil w base 5 1, fun _ h => by simp at h⟩

theorem pay_later {w W : World} {ad : Addr} {us : List Value} (h : ∀ j u, us[j]? = some u → w.cell? (ad.add j) = some u) (hb : Below w.heap.size w W) : ∀ j u, us[j]? = some u → W.cell? (ad.add j) = some u := by
  intro j u hj
  have h0 := h j u hj
  rw [hb.cell (World.block_lt_of_cell? _ _ h0)]; exact h0

theorem oneCells (ps : List Int) : ∀ u ∈ ps.map (Value.int .u8), u.oneCell' = true := by
  intro u hu
  obtain ⟨x, _, rfl⟩ := List.mem_map.1 hu
  rfl

theorem own5_shape {w : World} {base : Nat} {v : Value} {xs : List Int} (h : Own5 w base v xs) : BodyIs w v xs ∧ ∃ a c, v = .slice a xs.length c ∧ xs.length ≤ c := by
  have hlt := h.1.lt
  rcases h.1.2 with ⟨rfl, h0⟩ | ⟨g, cap, cur, rfl, h2, h3, h4, h5, h6, h7⟩
  · have : xs = [] := List.eq_nil_of_length_eq_zero h0
    subst this
    exact ⟨⟨h.2, .inl ⟨rfl, rfl⟩⟩, none, 0, rfl, Nat.le_refl _⟩
  · refine ⟨⟨h.2, .inr ⟨g, cap, rfl, h4, h5, (hlt g rfl).2, fun j hj => ?_⟩⟩, _, _, rfl, h4⟩
    rw [h.1.cellAt j (by omega)]
    simp [hj]

theorem body_cut {w : World} {v : Value} {xs : List Int} (h : BodyIs w v xs) (k : Nat) (hk : k ≤ xs.length) : ∀ g cap, v = .slice (some ⟨g, 0, none⟩) xs.length cap → BodyIs w (.slice (some ⟨g, 0, none⟩) (xs.length - k) cap) (xs.take (xs.length - k)) := by
  intro g cap hv
  have hl : (xs.take (xs.length - k)).length = xs.length - k := by simp
  refine ⟨fun x hx => h.1 x (List.mem_of_mem_take hx), ?_⟩
  rcases h.2 with ⟨e1, _⟩ | ⟨g', c', e1, e2, e3, e4, e5⟩
  · rw [e1] at hv; simp at hv
  · rw [e1] at hv
    obtain ⟨rfl, rfl⟩ : g' = g ∧ c' = cap := by simpa using hv
    refine .inr ⟨g', c', by rw [hl], by omega, e3, e4, fun j hj => ?_⟩
    rw [e5 j (by omega)]
    have hj' : j < xs.length := by omega
    simp [List.getD, show j < xs.length - k by omega, hj']

set_option maxHeartbeats 1000000 in
theorem law_big (sel raw id capLen a trunc : Int) (le : Bool) (ai ap : Option Addr) (li ci lp cp : Nat) (w : World) (h : 1024 < li ∨ 1024 < lp) (hli : li ≤ 9223372036854775807) (hlp : lp ≤ 9223372036854775807) :
    Calls Ybaf.prog 3 #[.int .u8 sel, .int .u32 raw, .bool le, .slice ai li ci, .int .u32 id, .int .u32 capLen, .int .u32 a, .slice ap lp cp, .int .u8 trunc] w fun e w' => e = .returned (.bool true) ∧ Below w.heap.size w w' := by
  by_cases h1 : 1024 < li
  · go_enter Ybaf.func3, Ybaf.ntmps3
    go_wp2
    go_ret
    exact ⟨rfl, Below.refl _ _⟩
  · have h2 : 1024 < lp := by omega
    have h3 : decide (1024 < (li : Int)) = false := by simp; omega
    go_enter Ybaf.func3, Ybaf.ntmps3
    go_wp2
    go_ret
    exact ⟨rfl, Below.refl _ _⟩


set_option maxHeartbeats 8000000 in
theorem piece1 (F : Interp) (W0 w : World) (le : Bool) (t trunc : Int) (v : Value) (bs ps : List Int) (fs : List (Int × Int)) (ai ap : Option Addr) (ci cp : Nat) (hF : F.answers W0.tape) (hle : fs.length ≤ 1024) (hfs : ∀ f ∈ fs, 0 ≤ f.2 ∧ f.2 ≤ 4294967295)
    (hfc : fs.length = 0 ∨ ∃ b off, ai = some ⟨b, off, none⟩ ∧ b < W0.heap.size ∧ ∀ k, k < fs.length → W0.cell? ⟨b, off + k * 2, none⟩ = some (.int .u16 (fs.getD k (0, 0)).1) ∧ W0.cell? ⟨b, off + k * 2 + 1, none⟩ = some (.int .u32 (fs.getD k (0, 0)).2))
    (hpl : ps.length ≤ 1024) (hpr : ∀ x ∈ ps, 0 ≤ x ∧ x ≤ 255) (hpc : (ap = none ∧ ps = [] ∧ cp = 0) ∨ ∃ ad, ap = some ad ∧ ∀ j u, (ps.map (Value.int .u8))[j]? = some u → W0.cell? (ad.add j) = some u) (htr : 0 ≤ trunc ∧ trunc ≤ 255)
    (ho : Own5 w W0.heap.size v bs) (hbl : bs.length ≤ 20) (hz : W0.heap.size ≤ w.heap.size) (hbw : Below W0.heap.size W0 w) (u0 u1 u4 u5 u6 u9 u10 u11 u12 u13 u14 u15 u16 u17 u18 u21 u22 u23 u24 u25 u26 u27 u28 u29 u30 u31 u32 u33 u34 u35 u36 u37 u38 u39 u40 u41 u42 u43 u44 u45 u46 u47 u48 u49 u50 u51 u52 u53 u54 u55 u56 u57 u58 u59 u60 u61 u62 u63 u64 u65 u66 u67 u68 u69 u70 u71 u72 u73 u74 u75 u76 u77 u78 u79 u80 u81 u82 u83 u84 u85 u86 u87 u88 u89 u90 u91 u92 u93 u94 u95 u96 u97 u98 u99 u100 u101 u102 u103 u104 u105 u106 u107 u108 u109 u110 u111 u112 u113 u114 u115 u116 u117 u118 u119 u120 u121 u122 u123 u124 u125 u126 u127 u128 u129 u130 u131 u132 u133 u134 u135 u136 u137 u138 u139 u140 u141 u142 u143 u144 u145 u146 u147 u148 u149 u150 u151 u152 u153 u154 u155 u156 u157 u158 u159 u160 u161 u162 u163 u164 u165 u166 u167 u168 u169 u170 u171 u172 u173 u174 u175 u176 u177 u178 u179 u180 u181 u182 u183 u184 u185 u186 u187 u188 u189 u190 u191 u192 u193 u194 u195 u196 u197 u198 u199 u200 u201 u202 u203 u204 u205 u206 u207 u208 u209 u210 u211 u212 u213 u214 u215 u216 u217 u218 u219 u220 u221 u222 u223 u224 u225 u226 u227 u228 u229 u230 u231 u232 u233 u234 u235 u236 u237 u238 u239 u240 u241 u242 u243 u244 u245 u246 u247 u248 u249 u250 u251 u252 u253 u254 u255 u256 u257 u258 u259 u260 u261 u262 u263 u264 u265 u266 u267 u268 u269 u270 u271 u272 u273 u274 u275 u276 u277 u278 u279 u280 u281 u282 u283 u284 u285 u286 u287 u288 u289 u290 u291 u292 u293 u294 u295 u296 u297 u298 u299 u300 u301 u302 u303 u304 u305 u306 u307 u308 u309 u310 u311 u312 u313 u314 u315 u316 u317 u318 u319 u320 u321 u322 u323 u324 u325 u326 u327 u328 u329 u330 u331 u332 u333 u334 u335 u336 u337 u338 u339 u340 u341 u342 u343 u344 u345 u346 u347 u348 u349 u350 u351 : Value) :
    Code.wp Ybaf.prog ((Ybaf.f3.body.bind (codeFrom 23)).getD .skip) (bodyPost Ybaf.prog Ybaf.f3 fun e w' => e = .returned (.bool true) ∧ Below W0.heap.size W0 w') ⟨#[u0, u1, .bool le, .slice ai fs.length ci, u4, u5, u6, .slice ap ps.length cp, .int .u8 trunc, u9, u10, u11, u12, u13, u14, u15, u16, u17, u18, .int .u32 t, v, u21, u22, u23, u24, u25, u26, u27, u28, u29, u30, u31, u32, u33, u34, u35, u36, u37, u38, u39, u40, u41, u42, u43, u44, u45, u46, u47, u48, u49, u50, u51, u52, u53, u54, u55, u56, u57, u58, u59, u60, u61, u62, u63, u64, u65, u66, u67, u68, u69, u70, u71, u72, u73, u74, u75, u76, u77, u78, u79, u80, u81, u82, u83, u84, u85, u86, u87, u88, u89, u90, u91, u92, u93, u94, u95, u96, u97, u98, u99, u100, u101, u102, u103, u104, u105, u106, u107, u108, u109, u110, u111, u112, u113, u114, u115, u116, u117, u118, u119, u120, u121, u122, u123, u124, u125, u126, u127, u128, u129, u130, u131, u132, u133, u134, u135, u136, u137, u138, u139, u140, u141, u142, u143, u144, u145, u146, u147, u148, u149, u150, u151, u152, u153, u154, u155, u156, u157, u158, u159, u160, u161, u162, u163, u164, u165, u166, u167, u168, u169, u170, u171, u172, u173, u174, u175, u176, u177, u178, u179, u180, u181, u182, u183, u184, u185, u186, u187, u188, u189, u190, u191, u192, u193, u194, u195, u196, u197, u198, u199, u200, u201, u202, u203, u204, u205, u206, u207, u208, u209, u210, u211, u212, u213, u214, u215, u216, u217, u218, u219, u220, u221, u222, u223, u224, u225, u226, u227, u228, u229, u230, u231, u232, u233, u234, u235, u236, u237, u238, u239, u240, u241, u242, u243, u244, u245, u246, u247, u248, u249, u250, u251, u252, u253, u254, u255, u256, u257, u258, u259, u260, u261, u262, u263, u264, u265, u266, u267, u268, u269, u270, u271, u272, u273, u274, u275, u276, u277, u278, u279, u280, u281, u282, u283, u284, u285, u286, u287, u288, u289, u290, u291, u292, u293, u294, u295, u296, u297, u298, u299, u300, u301, u302, u303, u304, u305, u306, u307, u308, u309, u310, u311, u312, u313, u314, u315, u316, u317, u318, u319, u320, u321, u322, u323, u324, u325, u326, u327, u328, u329, u330, u331, u332, u333, u334, u335, u336, u337, u338, u339, u340, u341, u342, u343, u344, u345, u346, u347, u348, u349, u350, u351], []⟩ w := by
  conv => arg 2; whnf
  obtain ⟨i5, hi5, hz50, hz51, hz52⟩ := info_parts info5
  have HO : Hid (Own5 w W0.heap.size v bs) := ho
  have HS : Hid _ := hfs
  have HC : Hid _ := hfc
  have HF : Hid _ := hF
  have HR : Hid _ := hpr
  clear ho hfs hfc hF hpr
  conv => arg 4; dsimp only
  go_upto_region 23 with fail
  go_cut [20] from 400 (fun s20 wx => ∃ a c bs', s20 = .slice a bs'.length c ∧ bs'.length ≤ c ∧ Own5 wx W0.heap.size s20 bs' ∧ bs'.length ≤ 1044 ∧ Below W0.heap.size W0 wx)
  case first =>
    rcases hpc with ⟨rfl, rfl, rfl⟩ | ⟨ad, rfl, hpc⟩
    · go_wp2_with (at_builtin; refine wpList_append_own_none rfl (.tmp 92) (.tmp 93) 24 rfl W0.heap.size 5 i5 1 Ybaf.underlying24 hi5 v bs.length (bs.map (Value.int .u8)) rfl HO.out.1 rfl ?_)
      go_meet
      obtain ⟨_, a', c', e1, e2⟩ := own5_shape HO.out
      exact ⟨a', c', bs, e1, e2, HO.out, by omega, hbw⟩
    · go_wp2_with (at_builtin; refine wpList_append_own _ rfl (.tmp 92) (.tmp 93) 24 rfl W0.heap.size 5 i5 (.int .u8 0) 1 1 Ybaf.underlying24 hi5 hz50 hz51 hz52 rfl (by decide) v bs.length (bs.map (Value.int .u8)) rfl HO.out.1 ad ps.length cp (ps.map (Value.int .u8)) rfl ?c0 ?c1 ?c2 ?c3 ?c4 ?c5 ?_)
      case c0 => simp
      case c1 => exact pay_later hpc hbw
      case c2 => exact oneCells ps
      case c3 => unfold maxLen; omega
      case c4 => omega
      case c5 => exact hz
      · intro v' w1 hown' hgrow _
        have ho1 : Own5 w1 W0.heap.size v' (bs ++ ps) := ⟨by rw [List.length_append, List.map_append]; exact hown', fun x hx => (List.mem_append.1 hx).elim (HO.out.2 x) (HR.out x)⟩
        have hb1 : Below W0.heap.size W0 w1 := hbw.grown hgrow hz (fun k hk => (HO.out.1.lt k hk).1)
        clear hown' hgrow
        obtain ⟨_, a', c', e1, e2⟩ := own5_shape ho1
        have HH : Hid (v' = .slice a' (bs ++ ps).length c' ∧ (bs ++ ps).length ≤ c' ∧ Own5 w1 W0.heap.size v' (bs ++ ps) ∧ (bs ++ ps).length ≤ 1044 ∧ Below W0.heap.size W0 w1) := ⟨e1, e2, ho1, by simp; omega, hb1⟩
        clear e1 e2 ho1 hb1
        go_wp2_with fail
        go_meet
        exact ⟨a', c', bs ++ ps, HH.out⟩
  case rest =>
  obtain ⟨ab, cb, bs', rfl, hcap, ho, hbl', hbw'⟩ := hcut
  have HO' : Hid (Own5 wc W0.heap.size (.slice ab bs'.length cb) bs') := ho
  clear ho HO hpc hbw hz hbl
  have ht1 : trunc.tmod 32 = trunc % 32 := Int.tmod_eq_emod_of_nonneg htr.1
  have ht2 : 0 ≤ trunc % 32 ∧ trunc % 32 < 32 := by omega
  go_upto_if 101 with fail
  go_cut [21, 101] from 400 (fun s21 _ wx => ∃ k : Nat, s21 = .int .i64 (k : Int) ∧ k ≤ bs'.length ∧ wx = wc)
  case first =>
    by_cases hx : (bs'.length : Int) < trunc % 32
    · go_wp2_with fail
      go_meet
      exact ⟨bs'.length, rfl, Nat.le_refl _, rfl⟩
    · go_wp2_with fail
      go_meet
      exact ⟨(trunc % 32).toNat, by rw [Int.toNat_of_nonneg ht2.1], by omega, rfl⟩
  case rest =>
  obtain ⟨k, rfl, hk, rfl⟩ := hcut
  clear ht1 ht2
  go_upto_region 27 with fail
  go_cut [20] from 400 (fun s20 wx => ∃ bs2, BodyIs wx s20 bs2 ∧ bs2.length ≤ 2000 ∧ wx = wc)
  case first =>
    have hB := (own5_shape HO'.out).1
    have hcm : cb ≤ 9223372036854775807 ∨ bs' = [] := by
      rcases hB.2 with ⟨_, e⟩ | ⟨_, _, e1, _, e3, _⟩
      · exact .inr e
      · simp at e1
        unfold maxLen at e3
        left; omega
    have hd : (bs'.length : Int) - (k : Int) = ((bs'.length - k : Nat) : Int) := by omega
    have hle0 : (0 : Int) ≤ ((bs'.length - k : Nat) : Int) := by omega
    have hle1 : ((bs'.length - k : Nat) : Int) ≤ (cb : Int) := by omega
    rcases hB.2 with ⟨e1, e2⟩ | ⟨g, c', e1, e2, e3, e4, e5⟩
    · subst e2
      obtain ⟨rfl, rfl⟩ : ab = none ∧ cb = 0 := by simpa using e1
      obtain rfl : k = 0 := by simpa using hk
      clear hB e1
      go_wp2_with fail
      go_meet
      exact ⟨[], ⟨by simp, .inl ⟨rfl, rfl⟩⟩, by simp, rfl⟩
    · obtain ⟨rfl, rfl⟩ : ab = some ⟨g, 0, none⟩ ∧ cb = c' := by simpa using e1
      have HX : Hid (BodyIs wc (.slice (some ⟨g, 0, none⟩) (bs'.length - k) cb) (bs'.take (bs'.length - k))) := body_cut hB k hk g cb rfl
      unfold maxLen at e3
      clear hB e1 e5 hcm
      go_wp2_with fail
      go_meet
      exact ⟨_, HX.out, by simp; omega, rfl⟩
  case rest =>
  obtain ⟨bs2, hB2, hl2, rfl⟩ := hcut
  have hfc2 : fs.length = 0 ∨ ∃ b off, ai = some ⟨b, off, none⟩ ∧ b < wc.heap.size ∧ ∀ k, k < fs.length → wc.cell? ⟨b, off + k * 2, none⟩ = some (.int .u16 (fs.getD k (0, 0)).1) ∧ wc.cell? ⟨b, off + k * 2 + 1, none⟩ = some (.int .u32 (fs.getD k (0, 0)).2) := by
    rcases HC.out with h | ⟨b, off, e1, e2, e3⟩
    · exact .inl h
    · refine .inr ⟨b, off, e1, Nat.lt_of_lt_of_le e2 hbw'.size, fun k hk => ?_⟩
      rw [hbw'.cell (p := ⟨b, off + k * 2, none⟩) e2, hbw'.cell (p := ⟨b, off + k * 2 + 1, none⟩) e2]
      exact e3 k hk
  apply_assumption
  exact piece2 F W0 wc le t _ bs2 fs ai ci (by rw [hbw'.tape]; exact HF.out) hle HS.out hfc2 hB2 hl2 hbw' _ _ _ _ _ _ _ _ _ _ _ _ _ _ _ _ _ _ _ _ _ _ _ _ _ _ _ _ _ _ _ _ _ _ _ _ _ _ _ _ _ _ _ _ _ _ _ _ _ _ _ _ _ _ _ _ _ _ _ _ _ _ _ _ _ _ _ _ _ _ _ _ _ _ _ _ _ _ _ _ _ _ _ _ _ _ _ _ _ _ _ _ _ _ _ _ _ _ _ _ _ _ _ _ _ _ _ _ _ _ _ _ _ _ _ _ _ _ _ _ _ _ _ _ _ _ _ _ _ _ _ _ _ _ _ _ _ _ _ _ _ _ _ _ _ _ _ _ _ _ _ _ _ _ _ _ _ _ _ _ _ _ _ _ _ _ _ _ _ _ _ _ _ _ _ _ _ _ _ _ _ _ _ _ _ _ _ _ _ _ _ _ _ _ _ _ _ _ _ _ _ _ _ _ _ _ _ _ _ _ _ _ _ _ _ _ _ _ _ _ _ _ _ _ _ _ _ _ _ _ _ _ _ _ _ _ _ _ _ _ _ _ _ _ _ _ _ _ _ _ _ _ _ _ _ _ _ _ _ _ _ _ _ _ _ _ _ _ _ _ _ _ _ _ _ _ _ _ _ _ _ _ _ _ _ _ _ _ _ _ _ _ _ _ _ _ _ _ _ _ _ _ _ _ _ _ _ _ _ _ _ _ _ _ _ _ _ _ _ _ _ _ _ _ _ _ _ _ _ _ _ _ _ _ _ _ _ _ _ _ _ _ _ _ _ _ _ _

set_option maxHeartbeats 8000000 in
theorem law_main (F : Interp) (sel raw id capLen a trunc : Int) (le : Bool) (ai ap : Option Addr) (ci cp : Nat) (fs : List (Int × Int)) (ps : List Int) (w : World) (hF : F.answers w.tape) (hle : fs.length ≤ 1024) (hpl : ps.length ≤ 1024) (hsel : 0 ≤ sel ∧ sel ≤ 255)
    (hid : 0 ≤ id ∧ id ≤ 4294967295) (hcl : 0 ≤ capLen ∧ capLen ≤ 4294967295) (ha : 0 ≤ a ∧ a ≤ 4294967295) (htr : 0 ≤ trunc ∧ trunc ≤ 255) (hfs : ∀ f ∈ fs, 0 ≤ f.2 ∧ f.2 ≤ 4294967295)
    (hfc : fs.length = 0 ∨ ∃ b off, ai = some ⟨b, off, none⟩ ∧ b < w.heap.size ∧ ∀ k, k < fs.length → w.cell? ⟨b, off + k * 2, none⟩ = some (.int .u16 (fs.getD k (0, 0)).1) ∧ w.cell? ⟨b, off + k * 2 + 1, none⟩ = some (.int .u32 (fs.getD k (0, 0)).2))
    (hpr : ∀ x ∈ ps, 0 ≤ x ∧ x ≤ 255) (hpc : (ap = none ∧ ps = [] ∧ cp = 0) ∨ ∃ ad, ap = some ad ∧ ∀ j u, (ps.map (Value.int .u8))[j]? = some u → w.cell? (ad.add j) = some u) :
    Calls Ybaf.prog 3 #[.int .u8 sel, .int .u32 raw, .bool le, .slice ai fs.length ci, .int .u32 id, .int .u32 capLen, .int .u32 a, .slice ap ps.length cp, .int .u8 trunc] w fun e w' => e = .returned (.bool true) ∧ Below w.heap.size w w' := by
  have h3 : decide (1024 < (fs.length : Int)) = false := by simp; omega
  have h4 : decide (1024 < (ps.length : Int)) = false := by simp; omega
  have HF : Hid _ := hF
  have HS : Hid _ := hfs
  have HC : Hid _ := hfc
  have HR : Hid _ := hpr
  have HP : Hid _ := hpc
  clear hF hfs hfc hpr hpc
  go_enter Ybaf.func3, Ybaf.ntmps3
  go_upto_block 0 with fail
  go_cut [19, 20, 50] from 400 (fun s19 s20 _ wx => ∃ t bs, s19 = .int .u32 t ∧ Own5 wx w.heap.size s20 bs ∧ bs.length ≤ 20 ∧ w.heap.size ≤ wx.heap.size ∧ Below w.heap.size w wx)
  case first =>
    have o0 := own5_nil w w.heap.size
    have hc : sel % 5 = 0 ∨ sel % 5 = 1 ∨ sel % 5 = 2 ∨ sel % 5 = 3 ∨ sel % 5 = 4 := by omega
    rcases hc with hc | hc | hc | hc | hc
    · go_wp2_with fail
      go_meet
      exact ⟨_, _, rfl, o0, by simp, Nat.le_refl _, Below.refl _ _⟩
    · go_wp2_with fail
      refine (put32_at le ha (by simp) _ o0 (Nat.le_refl _) (Nat.le_refl _) (Below.refl _ _)).mono ?_
      rintro e w1 ⟨v1, x1, rfl, o1, l1, z1, b1⟩
      go_wp2_with fail
      refine (put32_at le hcl (by simp at l1; omega) _ o1 z1 (Nat.le_refl _) b1).mono ?_
      rintro e w2 ⟨v2, x2, rfl, o2, l2, z2, b2⟩
      go_wp2_with fail
      go_meet
      exact ⟨_, _, rfl, o2, by simp at l1; omega, z2, b2⟩
    · go_wp2_with fail
      refine (put32_at le hid (by simp) _ o0 (Nat.le_refl _) (Nat.le_refl _) (Below.refl _ _)).mono ?_
      rintro e w1 ⟨v1, x1, rfl, o1, l1, z1, b1⟩
      go_wp2_with fail
      refine (put32_at le ha (by simp at l1; omega) _ o1 z1 (Nat.le_refl _) b1).mono ?_
      rintro e w2 ⟨v2, x2, rfl, o2, l2, z2, b2⟩
      go_wp2_with fail
      refine (put32_at le ha (by simp at l1; omega) _ o2 z2 (Nat.le_refl _) b2).mono ?_
      rintro e w3 ⟨v3, x3, rfl, o3, l3, z3, b3⟩
      go_wp2_with fail
      refine (put32_at le hcl (by simp at l1; omega) _ o3 z3 (Nat.le_refl _) b3).mono ?_
      rintro e w4 ⟨v4, x4, rfl, o4, l4, z4, b4⟩
      go_wp2_with fail
      refine (put32_at le ha (by simp at l1; omega) _ o4 z4 (Nat.le_refl _) b4).mono ?_
      rintro e w5 ⟨v5, x5, rfl, o5, l5, z5, b5⟩
      go_wp2_with fail
      go_meet
      exact ⟨_, _, rfl, o5, by simp at l1; omega, z5, b5⟩
    · go_wp2_with fail
      refine (put32_at le hcl (by simp) _ o0 (Nat.le_refl _) (Nat.le_refl _) (Below.refl _ _)).mono ?_
      rintro e w1 ⟨v1, x1, rfl, o1, l1, z1, b1⟩
      go_wp2_with fail
      go_meet
      exact ⟨_, _, rfl, o1, by simp at l1; omega, z1, b1⟩
    · go_wp2_with fail
      go_meet
      exact ⟨_, _, rfl, o0, by simp, Nat.le_refl _, Below.refl _ _⟩
  case rest =>
  obtain ⟨t, bs, rfl, ho, hbl, hz, hbw⟩ := hcut
  apply_assumption
  exact piece1 F w wc le t trunc _ bs ps fs ai ap ci cp HF.out hle HS.out HC.out hpl HR.out HP.out htr ho hbl hz hbw _ _ _ _ _ _ _ _ _ _ _ _ _ _ _ _ _ _ _ _ _ _ _ _ _ _ _ _ _ _ _ _ _ _ _ _ _ _ _ _ _ _ _ _ _ _ _ _ _ _ _ _ _ _ _ _ _ _ _ _ _ _ _ _ _ _ _ _ _ _ _ _ _ _ _ _ _ _ _ _ _ _ _ _ _ _ _ _ _ _ _ _ _ _ _ _ _ _ _ _ _ _ _ _ _ _ _ _ _ _ _ _ _ _ _ _ _ _ _ _ _ _ _ _ _ _ _ _ _ _ _ _ _ _ _ _ _ _ _ _ _ _ _ _ _ _ _ _ _ _ _ _ _ _ _ _ _ _ _ _ _ _ _ _ _ _ _ _ _ _ _ _ _ _ _ _ _ _ _ _ _ _ _ _ _ _ _ _ _ _ _ _ _ _ _ _ _ _ _ _ _ _ _ _ _ _ _ _ _ _ _ _ _ _ _ _ _ _ _ _ _ _ _ _ _ _ _ _ _ _ _ _ _ _ _ _ _ _ _ _ _ _ _ _ _ _ _ _ _ _ _ _ _ _ _ _ _ _ _ _ _ _ _ _ _ _ _ _ _ _ _ _ _ _ _ _ _ _ _ _ _ _ _ _ _ _ _ _ _ _ _ _ _ _ _ _ _ _ _ _ _ _ _ _ _ _ _ _ _ _ _ _ _ _ _ _ _ _ _ _ _ _ _ _ _ _ _ _ _ _ _ _ _ _ _ _ _ _ _ _ _ _ _ _ _ _

end Go.Proofs.YbulkcixwFmt
