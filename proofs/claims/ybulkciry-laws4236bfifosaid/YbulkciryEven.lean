/-
  THE WALK OF 'engine.LawS4236BFifo': a text is kept.
-/
import Derived.Test.YbulkcirySt
import Derived.Deep.CutBlock
import Derived.BigQuiet
namespace Go.Proofs.Ybulkciry
open Go.RowKit
set_option maxRecDepth 100000
set_option linter.unusedVariables false

def isTmp (t : Nat) : Operand → Bool
  | .tmp u => u == t
  | _ => false
/-- The two arms of the test on slot t. -/
def arms (t : Nat) : Code → Option (Code × Code)
  | .cond c a b => if isTmp t c then some (a, b) else match arms t a with | some r => some r | none => arms t b
  | .seq a b => match arms t a with | some r => some r | none => arms t b
  | .block _ c => arms t c
  | .loop c => arms t c
  | _ => none

theorem slnil22 (w : World) : (binOp .neq 22 (.slice none 0 0) (.slice none 0 0)).run Yba.prog w = .ok (.bool false) w := by kernel_rfl
theorem slnil37 (w : World) : (binOp .neq 37 (.slice none 0 0) (.slice none 0 0)).run Yba.prog w = .ok (.bool false) w := by kernel_rfl
theorem pnil36 (w : World) : (binOp .neq 36 (.pointer none) (.pointer none)).run Yba.prog w = .ok (.bool false) w := by kernel_rfl

set_option maxHeartbeats 8000000 in
theorem even_arm (W0 W : World) (S k N z : Nat) (T : Nat → ByteArray) (ids ss : List Nat) (tv kv : Value) (op ln pick : Int) (big : Bool)
    (hst : St W0 T W W0.heap.size k N ids ss tv kv) (hz : tot T ids = z) (hN : N ≤ k) (hk : k < 300) (c1 : W.cell? ⟨S, 1, none⟩ = some (.int .u16 ln)) (c2 : W.cell? ⟨S, 2, none⟩ = some (.bool big)) (o2 : 0 ≤ ln ∧ ln ≤ 65535)
    (u0 u1 u2 u7 u9 u10 u11 u12 u13 u14 u15 u16 u17 u18 u19 u20 u21 u22 u23 u24 u26 u27 u28 u29 u30 u31 u32 u33 u34 u35 u36 u37 u38 u39 u40 u41 u42 u43 u44 u45 u46 u47 u48 u49 u50 u51 u52 u53 u54 u55 u56 u57 u58 u59 u60 u61 u62 u63 u64 u65 u66 u67 u68 u69 u70 u71 u72 u73 u74 u75 u76 u77 u78 u79 u80 u81 u82 u83 u84 u85 u86 u87 u88 u89 u90 u91 u92 u93 u94 u95 u96 u97 u98 u99 u100 u101 u102 u103 u104 u105 u106 u107 u108 u109 u110 u111 u112 u113 u114 u115 u116 u117 u118 u119 u120 u121 u122 u123 u124 u125 u126 u127 u128 u129 u130 u131 u132 u133 u134 u135 u136 u137 u138 u139 u140 u141 u142 u143 u144 u145 u146 u147 u148 u149 u150 u151 u152 u153 u154 u155 u156 u157 u158 u159 u160 u161 u162 u163 u164 u165 u166 u167 u168 u169 u170 u171 u172 u173 u174 u175 u176 u177 u178 u179 u180 u181 u182 u183 u184 u185 u186 u187 u188 u189 u190 u191 u192 u193 u194 u195 u196 u197 u198 u199 u200 u201 u202 : Value) (Q : Exit → Act → World → Prop)
    (hQ : ∀ (v4 v5 v6 v9 v10 v11 v12 v13 v14 v15 v33 v34 v35 v36 v37 v38 v39 v40 v41 v42 v43 v44 v45 v46 v47 v48 v49 v50 v51 v52 v53 v54 v55 v56 v57 v58 v59 v60 v61 v62 v63 v64 v65 v66 v67 v68 v69 v70 v71 v72 v73 v74 v75 v76 v77 v78 v79 v80 v81 v82 v83 v84 v85 v86 v87 v88 v89 v90 v91 v92 v93 v94 v95 v96 v97 v98 v99 v100 v101 v102 v103 v104 v105 v106 v107 v108 v109 v110 v111 v112 v113 v114 v115 v116 v117 v118 v119 v120 v121 v122 v123 v124 v125 v126 v127 v128 v129 v130 v131 v132 v133 v134 v135 v136 v137 v138 v139 v140 : Value) (wx : World), (∃ (T' : Nat → ByteArray) (N' : Nat) (ids' ss' : List Nat), N' ≤ k + 1 ∧ St W0 T' wx W0.heap.size (k + 1) N' ids' ss' v4 v5 ∧ v6 = .int .i64 (tot T' ids')) → Q .normal ⟨#[u0, u1, u2, .pointer (some ⟨W0.heap.size, 0, none⟩), v4, v5, v6, u7, .pointer (some ⟨S, 0, none⟩), v9, v10, v11, v12, v13, v14, v15, u16, u17, u18, u19, u20, u21, u22, u23, u24, .int .i64 (k : Int), u26, u27, u28, u29, u30, u31, u32, v33, v34, v35, v36, v37, v38, v39, v40, v41, v42, v43, v44, v45, v46, v47, v48, v49, v50, v51, v52, v53, v54, v55, v56, v57, v58, v59, v60, v61, v62, v63, v64, v65, v66, v67, v68, v69, v70, v71, v72, v73, v74, v75, v76, v77, v78, v79, v80, v81, v82, v83, v84, v85, v86, v87, v88, v89, v90, v91, v92, v93, v94, v95, v96, v97, v98, v99, v100, v101, v102, v103, v104, v105, v106, v107, v108, v109, v110, v111, v112, v113, v114, v115, v116, v117, v118, v119, v120, v121, v122, v123, v124, v125, v126, v127, v128, v129, v130, v131, v132, v133, v134, v135, v136, v137, v138, v139, v140, u141, u142, u143, u144, u145, u146, u147, u148, u149, u150, u151, u152, u153, u154, u155, u156, u157, u158, u159, u160, u161, u162, u163, u164, u165, u166, u167, u168, u169, u170, u171, u172, u173, u174, u175, u176, u177, u178, u179, u180, u181, u182, u183, u184, u185, u186, u187, u188, u189, u190, u191, u192, u193, u194, u195, u196, u197, u198, u199, u200, u201, u202], []⟩ wx) :
    Code.wp Yba.prog (((Yba.f4.body.bind (arms 32)).map (·.1)).getD .skip) Q ⟨#[u0, u1, u2, .pointer (some ⟨W0.heap.size, 0, none⟩), tv, kv, .int .i64 (z : Int), u7, .pointer (some ⟨S, 0, none⟩), u9, u10, u11, u12, u13, u14, u15, u16, u17, u18, u19, u20, u21, u22, u23, u24, .int .i64 (k : Int), u26, u27, u28, u29, u30, u31, u32, u33, u34, u35, u36, u37, u38, u39, u40, u41, u42, u43, u44, u45, u46, u47, u48, u49, u50, u51, u52, u53, u54, u55, u56, u57, u58, u59, u60, u61, u62, u63, u64, u65, u66, u67, u68, u69, u70, u71, u72, u73, u74, u75, u76, u77, u78, u79, u80, u81, u82, u83, u84, u85, u86, u87, u88, u89, u90, u91, u92, u93, u94, u95, u96, u97, u98, u99, u100, u101, u102, u103, u104, u105, u106, u107, u108, u109, u110, u111, u112, u113, u114, u115, u116, u117, u118, u119, u120, u121, u122, u123, u124, u125, u126, u127, u128, u129, u130, u131, u132, u133, u134, u135, u136, u137, u138, u139, u140, u141, u142, u143, u144, u145, u146, u147, u148, u149, u150, u151, u152, u153, u154, u155, u156, u157, u158, u159, u160, u161, u162, u163, u164, u165, u166, u167, u168, u169, u170, u171, u172, u173, u174, u175, u176, u177, u178, u179, u180, u181, u182, u183, u184, u185, u186, u187, u188, u189, u190, u191, u192, u193, u194, u195, u196, u197, u198, u199, u200, u201, u202], []⟩ W := by
  conv => arg 2; whnf
  have htm : (ln * 4099).tmod 66000 = ln * 4099 % 66000 := Int.tmod_eq_emod_of_nonneg (by omega)
  have htm3 : ln.tmod 3 = ln % 3 := Int.tmod_eq_emod_of_nonneg o2.1
  obtain ⟨ta, tcap, rfl, htc⟩ := hst.shape
  have HI : Hid (St W0 T W W0.heap.size k N ids ss (.slice ta N tcap) kv ∧ tot T ids = z) := ⟨hst, hz⟩
  have HC : Hid _ := htc
  clear hst hz htc
  conv => arg 4; dsimp only
  go_upto_if 39 with fail
  go_cut [9] from 400 (fun s9 wx => wx = W ∧ ∃ n : Nat, n ≤ 66000 ∧ s9 = .int .i64 (n : Int))
  case first =>
    cases big
    · go_wp2_with fail
      go_meet
      exact ⟨rfl, (ln * 4099 % 66000).toNat, by omega, by rw [Int.toNat_of_nonneg (by omega)]⟩
    · go_wp2_with fail
      go_meet
      exact ⟨rfl, (65536 + ln % 3).toNat, by omega, by rw [Int.toNat_of_nonneg (by omega)]⟩
  case rest =>
  obtain ⟨rfl, n, hn, rfl⟩ := hcut
  clear c1 c2 o2 htm htm3
  have hrl : (Lib.repeatL [120] n).length = n := by rw [Lib.repeatL_length]; simp
  go_upto_region 16 with (first | (go_at_call 13; refine Calls.mono (Yba.strings_Repeat ⟨#[120]⟩ n _ (by omega) (by simp [ByteArray.size]; omega)) ?_; rintro e w2 ⟨rfl, hb2⟩) | (go_at_call 14; refine Calls.mono (digits_any N (by omega) _) ?_; rintro e w3 ⟨l, rfl, hv, hll, hb3⟩))
  obtain ⟨htx, hts⟩ := text_made n l
  generalize ((⟨(Lib.repeatL [120] n).toArray⟩ : ByteArray) ++ ⟨#[35]⟩ ++ ⟨l.toArray⟩) = t at htx hts ⊢
  rw [hv] at htx
  have hts' : t.size ≤ 100000 := by omega
  have hst3 : St W0 T w3 W0.heap.size k N ids ss (.slice ta N tcap) kv := (HI.out.1.later hb2).later hb3
  obtain ⟨tv', w5, hrun5, T', hT', hst5, htot⟩ := (hst3.alloc (.cells #[.string t] 9)).push (by omega) t htx hts' w3.heap.size 0 (by simp [go_sem]) 22
  have htot' : tot T' ids = z := htot.trans HI.out.2
  have hlt : ∀ i ∈ ids, i < N := HI.out.1.lt
  have HLT : Hid _ := hlt
  have H5 : Hid (St W0 T' w5 W0.heap.size k (N + 1) ids ss tv' kv ∧ tot T' ids = z ∧ T' N = t ∧ IsText t N ∧ t.size ≤ 100000) := ⟨hst5, htot', hT', htx, hts'⟩
  clear HI HC hb2 hb3 htx hts hst3 hT' hst5 htot htot' hlt hv hll hrl hn
  by_cases hbig : t.size ≤ 65536
  · have hbi : (t.size : Int) ≤ 65536 := by omega
    have hkeep : Calls Yba.prog 15 #[ptr ⟨W0.heap.size, 0, none⟩, .string t] w5 fun e w' => e = .returned (ptr ⟨w5.heap.size, 0, none⟩) ∧ SB w' w5.heap.size t ∧ (∃ ss', KS W0.heap.size T' w' W0.heap.size (k + 1) (trim T' t.size ids ++ [N]) (ss' ++ [w5.heap.size])) ∧ FrK W0.heap.size w5 w' := by
      obtain ⟨a1, a2, a3, a4, a5⟩ := H5.out
      have := a1.ks.keep (by omega) N (fun hm => by have := HLT.out N hm; omega) (fun i hi e => by
        have h1 := HLT.out i hi
        have := a1.inj (i := i) (j := N) (by omega) (by omega) e
        omega) (by rw [a3]; exact hbig)
      rw [a3] at this
      exact this
    have HK : Hid _ := hkeep
    have q1 := slnil22
    have q2 := slnil37
    have q3 := pnil36
    clear hkeep
    go_wp2_with (first | (at_builtin; refine wpList_append_run rfl (.tmp 53) (.tmp 55) 22 rfl rfl rfl hrun5 ?_) | (go_at_call 15; refine Calls.mono HK.out ?_; rintro e w6 ⟨rfl, hsb6, hks6, hf6⟩; have d0 := hsb6.cells.1; have d1 := hsb6.cells.2.1; have d2 := hsb6.cells.2.2.1; have d3 := hsb6.cells.2.2.2; have H6 : Hid _ := And.intro hsb6 (And.intro hks6 hf6); clear hsb6 hks6 hf6))
    clear d0 d1 d2 d3 hrun5 q1 q2 q3
    go_loopg [5, 6] ids.length (fun q kx sx wx => wx = w6 ∧ ∃ ids', ids'.length = q ∧ ids'.length ≤ ids.length ∧ Ids W0.heap.size w6 kx ids' ∧ trim T' t.size ids' = trim T' t.size ids ∧ (∀ i ∈ ids', i ∈ ids) ∧ sx = .int .i64 (tot T' ids'))
    case atStart =>
      obtain ⟨a1, a2, a3, a4, a5⟩ := H5.out
      exact ⟨rfl, ids, rfl, Nat.le_refl _, a1.ki.fk H6.out.2.2, rfl, fun _ h => h, by rw [a2]⟩
    case round =>
      obtain ⟨rfl, ids', rfl, hlen, hki, htr, hsub, rfl⟩ := hrel
      obtain ⟨a1, a2, a3, a4, a5⟩ := H5.out
      obtain ⟨b1, b2, b3, b4, b5, b6⟩ := a1.ks.facts
      have hb1 := tot_le ids' (fun i hi => b2 i (hsub i hi))
      have htx := own_fk a1.tx H6.out.2.2 (by decide) (by decide)
      by_cases hbig2 : 65536 < tot T' ids' + t.size
      · match ids' with
        | [] => exact absurd hbig2 (by simp [tot]; omega)
        | i :: l =>
          obtain ⟨_, h0⟩ | ⟨X, off, cap, cur, rfl, e2, e3, e4, e5, e6, e7⟩ := hki
          · simp at h0
          have htl := Ids.tail e2 e3 e4 e5 e6 e7
          have hi := HLT.out i (hsub i (by simp))
          obtain ⟨ta', tcap', rfl, htc⟩ := tx_shape htx
          obtain ⟨g, rfl, x2⟩ := htc i (by omega)
          have x1 : wr.cell? ⟨X, off, none⟩ = some (.int .i64 (i : Int)) := by rw [cell_of_row _ _ _ _ _ _ e3]; exact e7 0 (by simp)
          obtain ⟨ti, hti⟩ : ∃ ti, T' i = ti := ⟨_, rfl⟩
          obtain ⟨y, hy⟩ : ∃ y, tot T' l = y := ⟨_, rfl⟩
          have hzt : tot T' (i :: l) = ti.size + y := by simp only [tot]; rw [hti, hy]
          have htr' : trim T' t.size l = trim T' t.size ids := by
            rw [← htr]
            show _ = (if _ then _ else _)
            rw [if_pos hbig2]
          rw [hzt] at hb1 hbig2 ⊢
          rw [hti] at x2
          obtain ⟨L, hL⟩ : ∃ L, l.length = L := ⟨_, rfl⟩
          have hlc : (i :: l).length = L + 1 := by simp [hL]
          rw [hlc] at e4 hb1 hlen ⊢
          have HX : Hid ((Ids W0.heap.size wr (.slice (some ⟨X, off + 1, none⟩) l.length (cap - 1)) l ∧ (cap = 1 → Ids W0.heap.size wr (.slice (some ⟨X, off, none⟩) 0 0) l ∧ l.length = 0)) ∧ l.length = L ∧ trim T' t.size l = trim T' t.size ids ∧ (∀ j ∈ i :: l, j ∈ ids) ∧ tot T' l = y) := ⟨htl, hL, htr', hsub, hy⟩
          have g1 : (65536 : Int) < (ti.size : Int) + (y : Int) + (t.size : Int) := by omega
          have g2 : ((ti.size + y : Nat) : Int) = (ti.size : Int) + (y : Int) := by omega
          have g3 : (ti.size : Int) + (y : Int) ≤ 65536000 := by omega
          have g4 : (i : Int) < (N : Int) + 1 := by omega
          have g5 : (0 : Int) ≤ (i : Int) := by omega
          have g6 : (0 : Int) < (L : Int) + 1 := by omega
          have g7 : (1 : Int) ≤ (L : Int) + 1 := by omega
          have HLN : Hid (L + 1 ≤ ids.length) := hlen
          rw [g2]
          clear a1 a2 a3 a4 a5 b1 b2 b3 b4 b5 b6 hb1 htx hbig2 e2 e3 e5 e6 e7 htl hi htc hti hy hzt htr' hL hlc hsub htr hlen
          by_cases hc1 : cap = 1
          · subst hc1
            go_wp2_with fail
            go_roundg l.length
            case measure => simp
            case rel =>
              obtain ⟨⟨_, j2⟩, j3, j4, j5, j6⟩ := HX.out
              exact ⟨rfl, l, rfl, by have := HLN.out; omega, (j2 (by first | rfl | trivial)).1, j4, fun j hj => j5 j (List.mem_cons_of_mem _ hj), by rw [j6]; congr 1; omega⟩
          · go_wp2_with fail
            go_roundg l.length
            case measure => simp
            case rel =>
              obtain ⟨⟨j1, _⟩, j3, j4, j5, j6⟩ := HX.out
              rw [j3] at j1
              exact ⟨rfl, l, rfl, by have := HLN.out; omega, j1, j4, fun j hj => j5 j (List.mem_cons_of_mem _ hj), by rw [j6]; congr 1; omega⟩
      · have e1 : trim T' t.size ids = ids' := by
          rw [← htr]
          cases ids' with
          | nil => rfl
          | cons i l => simp only [trim]; rw [if_neg hbig2]
        obtain ⟨c1, ⟨ss', c2⟩, c3⟩ := H6.out
        rw [e1] at c2
        obtain ⟨ka, kcap, hkx, hkcap, _⟩ := hki.shape
        have hA6 : W0.heap.size ≤ wr.heap.size := Nat.le_trans a1.below.size c3.below.size
        have hfa : FrX 3 W0.heap.size wr (wr.alloc (.cells #[.int .i64 (N : Int)] 3)) := (FrX.refl _ _ _).alloc hA6 _
        have hkia : Ids W0.heap.size (wr.alloc (.cells #[.int .i64 (N : Int)] 3)) u5 ids' := hki.fx (ty := 0) ((FrX.refl _ _ _).alloc hA6 _) (by decide)
        obtain ⟨kv7, w7, hrun7, hki7, hf7⟩ := hkia.append (by simp; omega) (by omega) wr.heap.size 0 N (by simp [go_sem]) 47
        have hks7 := (c2.fx hfa (by decide) (by decide) (by decide)).fx hf7 (by decide) (by decide) (by decide)
        have hback := hks7.back
        have htx7 := own_fx (own_fx htx hfa (by decide)) hf7 (by decide)
        have hst7 : St W0 T' w7 W0.heap.size (k + 1) (N + 1) (ids' ++ [N]) (ss' ++ [w5.heap.size]) tv' kv7 :=
          ⟨((a1.below.trans c3.below).trans hfa.below).trans hf7.below, hks7, htx7, hki7, fun i hi => by
            rcases List.mem_append.1 hi with hi | hi
            · have := HLT.out i (hsub i hi); omega
            · simp at hi; omega, a1.text⟩
        obtain ⟨y, hy⟩ : ∃ y, tot T' ids' = y := ⟨_, rfl⟩
        have htot7 : tot T' (ids' ++ [N]) = y + t.size := by rw [tot_append, hy]; simp only [tot]; rw [a3]; rfl
        rw [hy] at hbig2 ⊢
        subst hkx
        have g1 : ¬ (65536 : Int) < (y : Int) + (t.size : Int) := by omega
        have g2 : (y : Int) ≤ 65536 := by omega
        have q1 := nes35
        have q2 := assert35_ok
        have HB : Hid _ := hback
        have H7 : Hid (St W0 T' w7 W0.heap.size (k + 1) (N + 1) (ids' ++ [N]) (ss' ++ [w5.heap.size]) tv' kv7 ∧ tot T' (ids' ++ [N]) = y + t.size) := ⟨hst7, htot7⟩
        clear a1 a2 a3 a4 a5 b1 b2 b3 b4 b5 b6 hb1 htx hbig2 e1 c1 c2 c3 hA6 hfa hkia hki7 hf7 hks7 hback htx7 hst7 hy htot7 hki htr hsub hlen hkcap
        go_wp2_with (first | (at_builtin; refine wpList_append_run rfl (.tmp 114) (.tmp 116) 47 rfl rfl rfl hrun7 ?_) | (go_at_call 11; refine Calls.mono HB.out ?_; rintro e w8 ⟨b, rfl, hw8, hb8⟩; subst hw8))
        obtain ⟨m1, m2⟩ := H7.out
        exact ⟨T', N + 1, ids' ++ [N], ss' ++ [w5.heap.size], by omega, m1, by rw [m2]; simp⟩
  · have hbi : (65536 : Int) < (t.size : Int) := by omega
    have hkeep := keep_big (w := w5) (K := W0.heap.size) hbi
    have HK : Hid _ := hkeep
    have q1 := slnil22
    have q2 := slnil37
    have q3 := pnil36
    clear hkeep
    go_wp2_with (first | (at_builtin; refine wpList_append_run rfl (.tmp 53) (.tmp 55) 22 rfl rfl rfl hrun5 ?_) | (go_at_call 15; refine Calls.mono HK.out ?_; rintro e w6 ⟨rfl, hw6⟩; subst hw6))
    obtain ⟨a1, a2, _⟩ := H5.out
    exact ⟨T', N + 1, ids, ss, by omega, (a1.mono (by omega)).alloc _, by rw [a2]⟩

end Go.Proofs.Ybulkciry
