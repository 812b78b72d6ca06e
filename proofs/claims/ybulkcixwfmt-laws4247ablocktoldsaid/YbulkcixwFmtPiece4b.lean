/-
  THE WALK OF THE LAW 'capture.LawS4247ABlock', IN PIECES: useBlock is called, there is a packet.
-/
import Derived.Test.YbulkcixwFmtPiece4
import Derived.Deep.CutBlock
import Derived.Deep.RegionHeld3
import Derived.BigQuiet
namespace Go.Proofs.YbulkcixwFmt
open Go.RowKit Go.Extern.Stop Go.Stop Go.Extern
set_option maxRecDepth 100000

theorem comp51 : (Ybaf.prog.info? 51).map (·.comparable) = some true := by kernel_rfl
theorem info5s : (Ybaf.prog.info? 5).isSome = true := by kernel_rfl
theorem same_ptr (a : Addr) (w : World) : (binOp .neq 51 (.pointer (some a)) (.pointer (some a))).run Ybaf.prog w = .ok (.bool false) w := by
  obtain ⟨j, hj⟩ := Option.isSome_iff_exists.1 info5s
  have h : ∀ d : Nat, (Op.equalIn (d + 1) 51 (.pointer (some a)) (.pointer (some a))).run Ybaf.prog w = .ok true w := fun d => by
    simp [Op.equalIn, run_underlying Ybaf.underlying51, sizeOf, typeInfo, hj, run_sameAddr_same]
  simp only [binOp]
  simp [Op.equal, Op.maxDepth, h 9999]

set_option maxHeartbeats 8000000 in
theorem piece4b (F : Interp) (W0 w : World) (R g n c gw nw cw base B : Nat) (le : Bool) (t : Int) (gb cb lo hi : Nat) (link : Int) (bs : List Int) (fs : List (Int × Int)) (hF : F.answers w.tape) (hR : Rd w R le (.slice (some ⟨g, 0, none⟩) n c))
    (hown : w.ownsRow base 31 2 (.slice (some ⟨g, 0, none⟩) n c) n (flat fs)) (hn : n = fs.length) (hle : n ≤ 1024) (hbase : base ≤ w.heap.size) (hnc : n ≤ c) (hB : BodyIs w (.slice (some ⟨gb, 0, none⟩) bs.length cb) bs) (hl : bs.length ≤ 2000) (hfs : ∀ f ∈ fs, 0 ≤ f.2 ∧ f.2 ≤ 4294967295)
    (hw : w.ownsRow base 31 2 (.slice (some ⟨gw, 0, none⟩) nw cw) nw (flat (table le t bs fs).fs)) (hnw : nw = (table le t bs fs).fs.length) (hgw : gw ≠ g) (hb : Below W0.heap.size W0 w) (h0 : W0.heap.size ≤ B) (hRB : B ≤ R) (hgB : B ≤ g)
    (hE : (table le t bs fs).err = false) (hK : (table le t bs fs).ok = true) (hlk : (table le t bs fs).link = link) (hlo : (table le t bs fs).lo = lo) (hhi : (table le t bs fs).hi = hi) (hn5 : nw ≤ 1025) (hlh : lo ≤ hi) (hhl : hi ≤ bs.length) (hgb : gb < B) (hBw : B ≤ w.heap.size) (u0 u1 u2 u3 u4 u5 u6 u7 u8 u9 u10 u11 u12 u13 u14 u15 u16 u17 u18 u21 u22 u24 u25 u32 u33 u34 u35 u36 u37 u38 u39 u40 u41 u42 u43 u44 u45 u46 u47 u48 u49 u50 u51 u52 u53 u54 u55 u56 u57 u58 u59 u60 u61 u62 u63 u64 u65 u66 u67 u68 u69 u70 u71 u72 u73 u74 u75 u76 u77 u78 u79 u80 u81 u82 u83 u84 u85 u86 u87 u88 u89 u90 u91 u92 u93 u94 u95 u96 u97 u98 u99 u100 u101 u102 u103 u104 u105 u106 u107 u108 u109 u110 u111 u112 u113 u114 u115 u116 u117 u118 u119 u120 u121 u122 u123 u124 u125 u126 u127 u128 u129 u130 u131 u132 u133 u134 u135 u136 u137 u138 u139 u140 u141 u142 u143 u144 u145 u146 u147 u148 u149 u150 u151 u152 u153 u154 u155 u156 u157 u158 u159 u160 u161 u162 u163 u164 u165 u166 u167 u168 u169 u170 u171 u172 u173 u174 u175 u176 u177 u178 u179 u180 u181 u182 u183 u184 u185 u186 u187 u188 u189 u190 u191 u192 u193 u194 u195 u196 u197 u198 u199 u200 u201 u202 u203 u204 u205 u206 u207 u208 u209 u210 u211 u212 u213 u214 u215 u216 u217 u218 u219 u220 u221 u222 u223 u224 u225 u226 u227 u228 u229 u230 u231 u232 u233 u234 u235 u236 u237 u238 u239 u240 u241 u242 u243 u244 u245 u246 u247 u248 u249 u250 u251 u252 u253 u254 u255 u256 u257 u258 u259 u260 u261 u262 u263 u264 u265 u266 u267 u268 u269 u270 u271 u272 u273 u274 u275 u276 u277 u278 u279 u280 u281 u282 u283 u284 u285 u286 u287 u288 u289 u290 u291 u292 u293 u294 u295 u296 u297 u298 u299 u300 u301 u302 u303 u304 u305 u306 u307 u308 u309 u310 u311 u312 u313 u314 u315 u316 u317 u318 u319 u320 u321 u322 u323 u324 u325 u326 u327 u328 u329 u330 u331 u332 u333 u334 u335 u336 u337 u338 u339 u340 u341 u342 u343 u344 u345 u346 u347 u348 u349 u350 u351 : Value) :
    Code.wp Ybaf.prog ((Ybaf.f3.body.bind (codeFrom 75)).getD .skip) (bodyPost Ybaf.prog Ybaf.f3 fun e w' => e = .returned (.bool true) ∧ Below W0.heap.size W0 w') ⟨#[u0, u1, u2, u3, u4, u5, u6, u7, u8, u9, u10, u11, u12, u13, u14, u15, u16, u17, u18, .int .u32 t, .slice (some ⟨gb, 0, none⟩) bs.length cb, u21, u22, .slice (some ⟨gw, 0, none⟩) nw cw, u24, u25, .pointer (some ⟨R, 0, none⟩), .bool false, .bool true, .int .u16 link, .int .i64 (lo : Int), .int .i64 (hi : Int), u32, u33, u34, u35, u36, u37, u38, u39, u40, u41, u42, u43, u44, u45, u46, u47, u48, u49, u50, u51, u52, u53, u54, u55, u56, u57, u58, u59, u60, u61, u62, u63, u64, u65, u66, u67, u68, u69, u70, u71, u72, u73, u74, u75, u76, u77, u78, u79, u80, u81, u82, u83, u84, u85, u86, u87, u88, u89, u90, u91, u92, u93, u94, u95, u96, u97, u98, u99, u100, u101, u102, u103, u104, u105, u106, u107, u108, u109, u110, u111, u112, u113, u114, u115, u116, u117, u118, u119, u120, u121, u122, u123, u124, u125, u126, u127, u128, u129, u130, u131, u132, u133, u134, u135, u136, u137, u138, u139, u140, u141, u142, u143, u144, u145, u146, u147, u148, u149, u150, u151, u152, u153, u154, u155, u156, u157, u158, u159, u160, u161, u162, u163, u164, u165, u166, u167, u168, u169, u170, u171, u172, u173, u174, u175, u176, u177, u178, u179, u180, u181, u182, u183, u184, u185, u186, u187, u188, u189, u190, u191, u192, u193, u194, u195, u196, u197, u198, u199, u200, u201, u202, u203, u204, u205, u206, u207, u208, u209, u210, u211, u212, u213, u214, u215, u216, u217, u218, u219, u220, u221, u222, u223, u224, u225, u226, u227, u228, u229, u230, u231, u232, u233, u234, u235, u236, u237, u238, u239, u240, u241, u242, u243, u244, u245, u246, u247, u248, u249, u250, u251, u252, u253, u254, u255, u256, u257, u258, u259, u260, u261, u262, u263, u264, u265, u266, u267, u268, u269, u270, u271, u272, u273, u274, u275, u276, u277, u278, u279, u280, u281, u282, u283, u284, u285, u286, u287, u288, u289, u290, u291, u292, u293, u294, u295, u296, u297, u298, u299, u300, u301, u302, u303, u304, u305, u306, u307, u308, u309, u310, u311, u312, u313, u314, u315, u316, u317, u318, u319, u320, u321, u322, u323, u324, u325, u326, u327, u328, u329, u330, u331, u332, u333, u334, u335, u336, u337, u338, u339, u340, u341, u342, u343, u344, u345, u346, u347, u348, u349, u350, u351], []⟩ w := by
  conv => arg 2; whnf
  generalize ho : table le t bs fs = o at *
  have huse := use_any F le R g n c base t _ bs fs w hF hR hown hn hle hbase hnc hB hl hfs
  rw [ho] at huse
  have HU : Hid (Calls Ybaf.prog 7 #[.pointer (some ⟨R, 0, none⟩), .int .u32 t, .slice (some ⟨gb, 0, none⟩) bs.length cb] w (UsePost le R g base (.slice (some ⟨gb, 0, none⟩) bs.length cb) bs.length o w)) := huse
  have HX : Hid (∀ e w', UsePost le R g base (.slice (some ⟨gb, 0, none⟩) bs.length cb) bs.length o w e w' → ∃ ad cp, e = .returned (.tuple #[.agg #[.int .u16 link, .slice (some ad) (hi - lo) cp], .bool true, .nilIface]) ∧ (lo < hi → ad = ⟨gb, lo, none⟩) ∧ hi - lo ≤ cp ∧ Left5 W0 w' R gw nw cw base le o.fs ∧ W0.heap.size ≤ w'.heap.size ∧ gb < w'.heap.size ∧ ∀ j, j < bs.length → w'.cell? ⟨gb, j, none⟩ = some (.int .u8 (bs.getD j 0))) := by
    rintro e w' ⟨p, er, g', n', c', rfl, he1, he2, hp1, hp2, hR', hown', hn', hg', hkp⟩
    have hb' := hkp.below (B := W0.heap.size) hb.size (by omega) (by omega)
    have hbB := hkp.below (B := B) hBw hRB hgB
    obtain ⟨ad, cp, gb', cb', e1, rfl, e3, e4⟩ := hp2 hK
    obtain ⟨rfl, rfl⟩ : gb = gb' ∧ cb = cb' := by simpa using e1
    rw [hlk, hlo, hhi] at *
    refine ⟨ad, cp, by rw [hK, he2 hE], e3, e4, ⟨g', c', ?_, ?_, own_kp hw hR hkp hgw, hb.trans hb'⟩, Nat.le_trans hb.size hkp.size, by have := hkp.size; omega, ?_⟩
    · rw [hnw, ← hn']; exact hR'
    · rw [hnw, ← hn']; exact hown'
    · intro j hj
      rw [hbB.cell (p := ⟨gb, j, none⟩) hgb]
      rcases hB.2 with ⟨e1, _⟩ | ⟨g2, c2, e1, _, _, _, e5⟩
      · simp at e1
      · obtain ⟨rfl, rfl⟩ : gb = g2 ∧ cb = c2 := by simpa using e1
        exact e5 j hj
  have hcb : bs.length ≤ cb ∧ cb ≤ 9223372036854775807 := by
    rcases hB.2 with ⟨e1, _⟩ | ⟨g2, c2, e1, e2, e3, _⟩
    · simp at e1
    · obtain ⟨rfl, rfl⟩ : gb = g2 ∧ cb = c2 := by simpa using e1
      unfold maxLen at e3
      exact ⟨e2, e3⟩
  have hl2 := hl
  clear huse hF hR hown hn hle hbase hnc hB hl hfs hw hgw hb h0 hRB hgB hK hE hlk hlo hhi hgb hBw
  have HN : Hid (nw = o.fs.length) := hnw
  clear hnw ho
  have hsp := same_ptr
  go_wp2_with fail
  refine Calls.mono HU.out ?_
  intro e w' hpost
  obtain ⟨ad, cp, rfl, had, hcp, h5, hz5, hgbw, hcells⟩ := HX.out e w' hpost
  have H5 : Hid (Left5 W0 w' R gw nw cw base le o.fs) := h5
  have HC : Hid (∀ j, j < bs.length → w'.cell? ⟨gb, j, none⟩ = some (.int .u8 (bs.getD j 0))) := hcells
  have hgb1 : gb < w'.heap.size + 1 := by omega
  clear hpost h5 hcells
  go_upto_if 273 with fail
  go_cut [] from 400 (fun wx => Left5 W0 wx R gw nw cw base le o.fs)
  case first =>
    by_cases hlt : lo < hi
    · obtain rfl := had hlt
      have hd : (hi : Int) - (lo : Int) = ((hi - lo : Nat) : Int) := by omega
      have HD : Hid ((hi : Int) - (lo : Int) = ((hi - lo : Nat) : Int)) := hd
      go_wp2_with fail
      go_loopw [39] (fun i wr => ∃ k q : Nat, k ≤ hi - lo ∧ i = .int .i64 k ∧ wr = (w'.alloc (.cells #[.int .u16 link, .slice (some ⟨gb, lo, none⟩) (hi - lo) cp] 46)).drewN q) (fun i _ => (hi - lo) - (intOf i).toNat)
      case atStart => exact ⟨0, 0, Nat.zero_le _, rfl, rfl⟩
      case round =>
        obtain ⟨k, q, hk, rfl, rfl⟩ := hrel
        by_cases hlt2 : k < hi - lo
        · have a0 := HC.out (lo + k) (by omega)
          have hi0 : (0 : Int) ≤ (k : Int) := by omega
          have hi1 : (k : Int) < ((hi - lo : Nat) : Int) := by omega
          have hi2 : (k : Int) < (hi : Int) - (lo : Int) := by omega
          have hs0 : IntKind.i64.wrap ((lo : Int) + (k : Int)) = (lo : Int) + (k : Int) := by rw [IntKind.wrap_i64]; omega
          have hs1 : (lo : Int) + (k : Int) < (bs.length : Int) := by omega
          have hs2 : (0 : Int) ≤ (lo : Int) + (k : Int) := by omega
          have hs3 : ((lo : Int) + (k : Int)).toNat = lo + k := by omega
          go_wp2
          go_quiet (fail)
          go_wp2
          all_goals go_roundw
          case rel => exact ⟨k + 1, _, by omega, by go_num, rfl⟩
          case measure => simp [intOf]; omega
        · have hi3 : ¬ (k : Int) < (hi : Int) - (lo : Int) := by omega
          have hg1 : (lo : Int) < (hi : Int) := by omega
          have hg2 : (0 : Int) < ((hi - lo : Nat) : Int) := by omega
          have hg3 : (lo : Int) < (bs.length : Int) := by omega
          have hgd : decide ((lo : Int) < (hi : Int)) = true := decide_eq_true hg1
          go_wp2
          go_quiet (fail)
          go_wp2
          go_meet
          exact Left5.draws (Left5.draws (Left5.alloc H5.out hz5 _) _) _
    · have hg1 : ¬ (lo : Int) < (hi : Int) := by omega
      have hgd : decide ((lo : Int) < (hi : Int)) = false := decide_eq_false hg1
      have hd : (hi : Int) - (lo : Int) = ((hi - lo : Nat) : Int) := by omega
      have hg3 : ¬ (0 : Int) < (hi : Int) - (lo : Int) := by omega
      go_wp2_with fail
      go_loopw [39] (fun i wr => i = .int .i64 0 ∧ wr = w'.alloc (.cells #[.int .u16 link, .slice (some ad) (hi - lo) cp] 46)) (fun i _ => 0)
      case atStart => exact ⟨rfl, by simp⟩
      case round =>
        obtain ⟨rfl, rfl⟩ := hrel
        go_wp2
        go_quiet (fail)
        go_wp2
        go_meet
        exact Left5.draws (Left5.alloc H5.out hz5 _) _
  case rest =>
  obtain ⟨g', c', k1, k2, k3, k4⟩ := hcut
  apply_assumption
  exact piece5 W0 wc R g' gw nw c' cw base base le o.fs k1 k2 k3 HN.out hn5 k4 _ _ _ _ _ _ _ _ _ _ _ _ _ _ _ _ _ _ _ _ _ _ _ _ _ _ _ _ _ _ _ _ _ _ _ _ _ _ _ _ _ _ _ _ _ _ _ _ _ _ _ _ _ _ _ _ _ _ _ _ _ _ _ _ _ _ _ _ _ _ _ _ _ _ _ _ _ _ _ _ _ _ _ _ _ _ _ _ _ _ _ _ _ _ _ _ _ _ _ _ _ _ _ _ _ _ _ _ _ _ _ _ _ _ _ _ _ _ _ _ _ _ _ _ _ _ _ _ _ _ _ _ _ _ _ _ _ _ _ _ _ _ _ _ _ _ _ _ _ _ _ _ _ _ _ _ _ _ _ _ _ _ _ _ _ _ _ _ _ _ _ _ _ _ _ _ _ _ _ _ _ _ _ _ _ _ _ _ _ _ _ _ _ _ _ _ _ _ _ _ _ _ _ _ _ _ _ _ _ _ _ _ _ _ _ _ _ _ _ _ _ _ _ _ _ _ _ _ _ _ _ _ _ _ _ _ _ _ _ _ _ _ _ _ _ _ _ _ _ _ _ _ _ _ _ _ _ _ _ _ _ _ _ _ _ _ _ _ _ _ _ _ _ _ _ _ _ _ _ _ _ _ _ _ _ _ _ _ _ _ _ _ _ _ _ _ _ _ _ _ _ _ _ _ _ _ _ _ _ _ _ _ _ _ _ _ _ _ _ _ _ _ _ _ _ _ _ _ _ _ _ _ _ _ _ _ _ _ _ _ _ _ _ _ _ _ _ _ _ _

end Go.Proofs.YbulkcixwFmt
