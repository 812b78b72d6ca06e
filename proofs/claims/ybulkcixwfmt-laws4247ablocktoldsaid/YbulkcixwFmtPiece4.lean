/-
  THE WALK OF THE LAW 'capture.LawS4247ABlock', IN PIECES: useBlock is called, there is no packet.
-/
import Derived.Test.YbulkcixwFmtPiece5
import Derived.Deep.CutBlock
import Derived.Deep.RegionHeld3
import Derived.BigQuiet
namespace Go.Proofs.YbulkcixwFmt
open Go.RowKit Go.Extern.Stop Go.Stop Go.Extern
set_option maxRecDepth 100000

theorem Kp.below {R g : Nat} {w w' : World} (h : Kp R (some g) w w') {B : Nat} (hB : B ≤ w.heap.size) (hR : B ≤ R) (hg : B ≤ g) : Below B w w' :=
  ⟨h.os, h.tape, h.output, h.size, fun k hk => h.block k (by omega) (by omega) (by simp; omega)⟩
theorem own_kp {w w' : World} {R g gw n c base : Nat} {le : Bool} {V : Value} {xs : List Value} (h : w.ownsRow base 31 2 (.slice (some ⟨gw, 0, none⟩) n c) n xs) (hR : Rd w R le V) (hk : Kp R (some g) w w') (hne : gw ≠ g) : w'.ownsRow base 31 2 (.slice (some ⟨gw, 0, none⟩) n c) n xs := by
  have hlt := (h.lt gw rfl).2
  have hgR := row_ne hR h
  refine ⟨h.1, ?_⟩
  rcases h.2 with ⟨h1, _⟩ | ⟨g', c', cur, h1, h2, h3, h4⟩
  · simp at h1
  · obtain ⟨rfl, rfl⟩ : gw = g' ∧ c = c' := by simpa using h1
    exact .inr ⟨gw, c, cur, rfl, h2, by rw [hk.block gw hlt hgR (by simpa using hne)]; exact h3, h4⟩

/-- What is left behind useBlock, for the last piece. -/
def Left5 (W0 w : World) (R gw nw cw base : Nat) (le : Bool) (fs : List (Int × Int)) : Prop :=
  ∃ g c, Rd w R le (.slice (some ⟨g, 0, none⟩) nw c) ∧ w.ownsRow base 31 2 (.slice (some ⟨g, 0, none⟩) nw c) nw (flat fs) ∧ w.ownsRow base 31 2 (.slice (some ⟨gw, 0, none⟩) nw cw) nw (flat fs) ∧ Below W0.heap.size W0 w
theorem Left5.alloc {W0 w : World} {R gw nw cw base : Nat} {le : Bool} {fs : List (Int × Int)} (h : Left5 W0 w R gw nw cw base le fs) (hb : W0.heap.size ≤ w.heap.size) (o : Obj) : Left5 W0 (w.alloc o) R gw nw cw base le fs := by
  obtain ⟨g, c, h1, h2, h3, h4⟩ := h
  exact ⟨g, c, h1.later ((Below.refl _ w).alloc (Nat.le_refl _) o), h2.alloc o, h3.alloc o, h4.alloc hb o⟩
theorem Left5.draws {W0 w : World} {R gw nw cw base : Nat} {le : Bool} {fs : List (Int × Int)} (h : Left5 W0 w R gw nw cw base le fs) (q : Nat) : Left5 W0 (w.drewN q) R gw nw cw base le fs := by
  obtain ⟨g, c, h1, h2, h3, h4⟩ := h
  exact ⟨g, c, h1, h2, h3, below_drewN h4 q⟩

set_option maxHeartbeats 4000000 in
theorem piece4a (F : Interp) (W0 w : World) (R g n c gw nw cw base B : Nat) (le : Bool) (t : Int) (body : Value) (bs : List Int) (fs : List (Int × Int)) (hF : F.answers w.tape) (hR : Rd w R le (.slice (some ⟨g, 0, none⟩) n c))
    (hown : w.ownsRow base 31 2 (.slice (some ⟨g, 0, none⟩) n c) n (flat fs)) (hn : n = fs.length) (hle : n ≤ 1024) (hbase : base ≤ w.heap.size) (hnc : n ≤ c) (hB : BodyIs w body bs) (hl : bs.length ≤ 2000) (hfs : ∀ f ∈ fs, 0 ≤ f.2 ∧ f.2 ≤ 4294967295)
    (hw : w.ownsRow base 31 2 (.slice (some ⟨gw, 0, none⟩) nw cw) nw (flat (table le t bs fs).fs)) (hnw : nw = (table le t bs fs).fs.length) (hgw : gw ≠ g) (hb : Below W0.heap.size W0 w) (h0 : W0.heap.size ≤ B) (hRB : B ≤ R) (hgB : B ≤ g)
    (b : Bool) (hE : (table le t bs fs).err = b) (hK : (table le t bs fs).ok = false) (hn5 : nw ≤ 1025) (u0 u1 u2 u3 u4 u5 u6 u7 u8 u9 u10 u11 u12 u13 u14 u15 u16 u17 u18 u21 u22 u24 u25 u29 u30 u31 u32 u33 u34 u35 u36 u37 u38 u39 u40 u41 u42 u43 u44 u45 u46 u47 u48 u49 u50 u51 u52 u53 u54 u55 u56 u57 u58 u59 u60 u61 u62 u63 u64 u65 u66 u67 u68 u69 u70 u71 u72 u73 u74 u75 u76 u77 u78 u79 u80 u81 u82 u83 u84 u85 u86 u87 u88 u89 u90 u91 u92 u93 u94 u95 u96 u97 u98 u99 u100 u101 u102 u103 u104 u105 u106 u107 u108 u109 u110 u111 u112 u113 u114 u115 u116 u117 u118 u119 u120 u121 u122 u123 u124 u125 u126 u127 u128 u129 u130 u131 u132 u133 u134 u135 u136 u137 u138 u139 u140 u141 u142 u143 u144 u145 u146 u147 u148 u149 u150 u151 u152 u153 u154 u155 u156 u157 u158 u159 u160 u161 u162 u163 u164 u165 u166 u167 u168 u169 u170 u171 u172 u173 u174 u175 u176 u177 u178 u179 u180 u181 u182 u183 u184 u185 u186 u187 u188 u189 u190 u191 u192 u193 u194 u195 u196 u197 u198 u199 u200 u201 u202 u203 u204 u205 u206 u207 u208 u209 u210 u211 u212 u213 u214 u215 u216 u217 u218 u219 u220 u221 u222 u223 u224 u225 u226 u227 u228 u229 u230 u231 u232 u233 u234 u235 u236 u237 u238 u239 u240 u241 u242 u243 u244 u245 u246 u247 u248 u249 u250 u251 u252 u253 u254 u255 u256 u257 u258 u259 u260 u261 u262 u263 u264 u265 u266 u267 u268 u269 u270 u271 u272 u273 u274 u275 u276 u277 u278 u279 u280 u281 u282 u283 u284 u285 u286 u287 u288 u289 u290 u291 u292 u293 u294 u295 u296 u297 u298 u299 u300 u301 u302 u303 u304 u305 u306 u307 u308 u309 u310 u311 u312 u313 u314 u315 u316 u317 u318 u319 u320 u321 u322 u323 u324 u325 u326 u327 u328 u329 u330 u331 u332 u333 u334 u335 u336 u337 u338 u339 u340 u341 u342 u343 u344 u345 u346 u347 u348 u349 u350 u351 : Value) :
    Code.wp Ybaf.prog ((Ybaf.f3.body.bind (codeFrom 75)).getD .skip) (bodyPost Ybaf.prog Ybaf.f3 fun e w' => e = .returned (.bool true) ∧ Below W0.heap.size W0 w') ⟨#[u0, u1, u2, u3, u4, u5, u6, u7, u8, u9, u10, u11, u12, u13, u14, u15, u16, u17, u18, .int .u32 t, body, u21, u22, .slice (some ⟨gw, 0, none⟩) nw cw, u24, u25, .pointer (some ⟨R, 0, none⟩), .bool b, .bool false, u29, u30, u31, u32, u33, u34, u35, u36, u37, u38, u39, u40, u41, u42, u43, u44, u45, u46, u47, u48, u49, u50, u51, u52, u53, u54, u55, u56, u57, u58, u59, u60, u61, u62, u63, u64, u65, u66, u67, u68, u69, u70, u71, u72, u73, u74, u75, u76, u77, u78, u79, u80, u81, u82, u83, u84, u85, u86, u87, u88, u89, u90, u91, u92, u93, u94, u95, u96, u97, u98, u99, u100, u101, u102, u103, u104, u105, u106, u107, u108, u109, u110, u111, u112, u113, u114, u115, u116, u117, u118, u119, u120, u121, u122, u123, u124, u125, u126, u127, u128, u129, u130, u131, u132, u133, u134, u135, u136, u137, u138, u139, u140, u141, u142, u143, u144, u145, u146, u147, u148, u149, u150, u151, u152, u153, u154, u155, u156, u157, u158, u159, u160, u161, u162, u163, u164, u165, u166, u167, u168, u169, u170, u171, u172, u173, u174, u175, u176, u177, u178, u179, u180, u181, u182, u183, u184, u185, u186, u187, u188, u189, u190, u191, u192, u193, u194, u195, u196, u197, u198, u199, u200, u201, u202, u203, u204, u205, u206, u207, u208, u209, u210, u211, u212, u213, u214, u215, u216, u217, u218, u219, u220, u221, u222, u223, u224, u225, u226, u227, u228, u229, u230, u231, u232, u233, u234, u235, u236, u237, u238, u239, u240, u241, u242, u243, u244, u245, u246, u247, u248, u249, u250, u251, u252, u253, u254, u255, u256, u257, u258, u259, u260, u261, u262, u263, u264, u265, u266, u267, u268, u269, u270, u271, u272, u273, u274, u275, u276, u277, u278, u279, u280, u281, u282, u283, u284, u285, u286, u287, u288, u289, u290, u291, u292, u293, u294, u295, u296, u297, u298, u299, u300, u301, u302, u303, u304, u305, u306, u307, u308, u309, u310, u311, u312, u313, u314, u315, u316, u317, u318, u319, u320, u321, u322, u323, u324, u325, u326, u327, u328, u329, u330, u331, u332, u333, u334, u335, u336, u337, u338, u339, u340, u341, u342, u343, u344, u345, u346, u347, u348, u349, u350, u351], []⟩ w := by
  conv => arg 2; whnf
  generalize ho : table le t bs fs = o at *
  have huse := use_any F le R g n c base t body bs fs w hF hR hown hn hle hbase hnc hB hl hfs
  rw [ho] at huse
  have HU : Hid (Calls Ybaf.prog 7 #[.pointer (some ⟨R, 0, none⟩), .int .u32 t, body] w (UsePost le R g base body bs.length o w)) := huse
  have HX : Hid (∀ e w', UsePost le R g base body bs.length o w e w' → ∃ er, e = .returned (.tuple #[.agg #[.int .u16 0, .slice none 0 0], .bool false, er]) ∧ (b = true → ∃ u x, er = .iface u x) ∧ (b = false → er = .nilIface) ∧ Left5 W0 w' R gw nw cw base le o.fs ∧ W0.heap.size ≤ w'.heap.size) := by
    rintro e w' ⟨p, er, g', n', c', rfl, he1, he2, hp1, _, hR', hown', hn', hg', hkp⟩
    have hb' := hkp.below (B := W0.heap.size) hb.size (by omega) (by omega)
    refine ⟨er, by rw [hp1 hK, hK], by rw [← hE]; exact he1, by rw [← hE]; exact he2, ⟨g', c', ?_, ?_, own_kp hw hR hkp hgw, hb.trans hb'⟩, Nat.le_trans hb.size hkp.size⟩
    · rw [hnw, ← hn']; exact hR'
    · rw [hnw, ← hn']; exact hown'
  clear huse hF hR hown hn hle hbase hnc hB hl hfs hw hgw hb h0 hRB hgB hK hE
  have HN : Hid (nw = o.fs.length) := hnw
  clear hnw ho
  go_wp2_with fail
  refine Calls.mono HU.out ?_
  intro e w' hpost
  obtain ⟨er, rfl, he1, he2, h5, hz5⟩ := HX.out e w' hpost
  have H5 : Hid _ := h5
  clear hpost h5
  cases b
  · obtain rfl := he2 rfl
    go_upto_if 273 with fail
    go_cut [] from 400 (fun wx => Left5 W0 wx R gw nw cw base le o.fs)
    case first =>
      go_wp2_with fail
      go_meet
      exact Left5.alloc H5.out hz5 _
    case rest =>
    obtain ⟨g', c', k1, k2, k3, k4⟩ := hcut
    apply_assumption
    exact piece5 W0 wc R g' gw nw c' cw base base le o.fs k1 k2 k3 HN.out hn5 k4 _ _ _ _ _ _ _ _ _ _ _ _ _ _ _ _ _ _ _ _ _ _ _ _ _ _ _ _ _ _ _ _ _ _ _ _ _ _ _ _ _ _ _ _ _ _ _ _ _ _ _ _ _ _ _ _ _ _ _ _ _ _ _ _ _ _ _ _ _ _ _ _ _ _ _ _ _ _ _ _ _ _ _ _ _ _ _ _ _ _ _ _ _ _ _ _ _ _ _ _ _ _ _ _ _ _ _ _ _ _ _ _ _ _ _ _ _ _ _ _ _ _ _ _ _ _ _ _ _ _ _ _ _ _ _ _ _ _ _ _ _ _ _ _ _ _ _ _ _ _ _ _ _ _ _ _ _ _ _ _ _ _ _ _ _ _ _ _ _ _ _ _ _ _ _ _ _ _ _ _ _ _ _ _ _ _ _ _ _ _ _ _ _ _ _ _ _ _ _ _ _ _ _ _ _ _ _ _ _ _ _ _ _ _ _ _ _ _ _ _ _ _ _ _ _ _ _ _ _ _ _ _ _ _ _ _ _ _ _ _ _ _ _ _ _ _ _ _ _ _ _ _ _ _ _ _ _ _ _ _ _ _ _ _ _ _ _ _ _ _ _ _ _ _ _ _ _ _ _ _ _ _ _ _ _ _ _ _ _ _ _ _ _ _ _ _ _ _ _ _ _ _ _ _ _ _ _ _ _ _ _ _ _ _ _ _ _ _ _ _ _ _ _ _ _ _ _ _ _ _ _ _ _ _ _ _ _ _ _ _ _ _ _ _ _ _ _ _ _ _
  · obtain ⟨u, x, rfl⟩ := he1 rfl
    go_upto_if 273 with fail
    go_cut [] from 400 (fun wx => Left5 W0 wx R gw nw cw base le o.fs)
    case first =>
      go_wp2_with fail
      go_meet
      exact Left5.alloc H5.out hz5 _
    case rest =>
    obtain ⟨g', c', k1, k2, k3, k4⟩ := hcut
    apply_assumption
    exact piece5 W0 wc R g' gw nw c' cw base base le o.fs k1 k2 k3 HN.out hn5 k4 _ _ _ _ _ _ _ _ _ _ _ _ _ _ _ _ _ _ _ _ _ _ _ _ _ _ _ _ _ _ _ _ _ _ _ _ _ _ _ _ _ _ _ _ _ _ _ _ _ _ _ _ _ _ _ _ _ _ _ _ _ _ _ _ _ _ _ _ _ _ _ _ _ _ _ _ _ _ _ _ _ _ _ _ _ _ _ _ _ _ _ _ _ _ _ _ _ _ _ _ _ _ _ _ _ _ _ _ _ _ _ _ _ _ _ _ _ _ _ _ _ _ _ _ _ _ _ _ _ _ _ _ _ _ _ _ _ _ _ _ _ _ _ _ _ _ _ _ _ _ _ _ _ _ _ _ _ _ _ _ _ _ _ _ _ _ _ _ _ _ _ _ _ _ _ _ _ _ _ _ _ _ _ _ _ _ _ _ _ _ _ _ _ _ _ _ _ _ _ _ _ _ _ _ _ _ _ _ _ _ _ _ _ _ _ _ _ _ _ _ _ _ _ _ _ _ _ _ _ _ _ _ _ _ _ _ _ _ _ _ _ _ _ _ _ _ _ _ _ _ _ _ _ _ _ _ _ _ _ _ _ _ _ _ _ _ _ _ _ _ _ _ _ _ _ _ _ _ _ _ _ _ _ _ _ _ _ _ _ _ _ _ _ _ _ _ _ _ _ _ _ _ _ _ _ _ _ _ _ _ _ _ _ _ _ _ _ _ _ _ _ _ _ _ _ _ _ _ _ _ _ _ _ _ _ _ _ _ _ _ _ _ _ _ _ _ _ _ _ _

end Go.Proofs.YbulkcixwFmt
