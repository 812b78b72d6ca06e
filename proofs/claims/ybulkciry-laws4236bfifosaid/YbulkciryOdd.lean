/-
  THE WALK OF 'engine.LawS4236BFifo': a text is looked for.
-/
import Derived.Test.YbulkcirySt
import Derived.Deep.CutBlock
import Derived.BigQuiet
import Derived.Test.YbulkciryEven
namespace Go.Proofs.Ybulkciry
open Go.RowKit
set_option maxRecDepth 100000
set_option linter.unusedVariables false

/-- Q, and no panic. -/
def noPanic (Q : Exit → Act → World → Prop) : Exit → Act → World → Prop
  | .panic _, _, _ => False
  | e, a, w => Q e a w
theorem noPanic_out {Q : Exit → Act → World → Prop} {e : Exit} {a : Act} {w : World} (h : noPanic Q e a w) : Q e a w := by
  cases e with
  | panic c => exact h.elim
  | _ => exact h
theorem wrap_small (p : Nat) (h : p ≤ 1000) : IntKind.i64.wrap ((p : Int) + 1) = (p : Int) + 1 := by
  simp [IntKind.wrap, IntKind.bits, IntKind.signed]
  omega
/-- Behind the two appends of the odd arm. -/
theorem St.moved {W0 W wr w4 : World} {T : Nat → ByteArray} {K k N id p : Nat} {ids ss : List Nat} {tv kv v4 : Value} (a1 : St W0 T W K k N ids ss tv kv) (hks : KS W0.heap.size T wr K k (mv p ids) (mv p ss)) (hfk : FrK W0.heap.size W wr) (hf4 : FrX 3 W0.heap.size wr w4) (hki4 : Ids W0.heap.size w4 v4 (ids.eraseIdx p)) (p1 : p < ids.length) (p2 : ids.getD p 0 = id) (hlen : ids.length ≤ 300) :
    ∃ kv5 w5, (Builtin.append_ #[47, 47] 47 #[v4, .slice (some ⟨w4.heap.size, 0, none⟩) 1 1]).run Yba.prog (w4.alloc (.cells #[.int .i64 (id : Int)] 3)) = .ok kv5 w5 ∧ St W0 T w5 K (k + 1) N (mv p ids) (mv p ss) tv kv5 ∧ tot T (mv p ids) = tot T ids := by
  have hA4 : W0.heap.size ≤ w4.heap.size := by
    have h1 := a1.below.size
    have h2 := hfk.below.size
    have h4 := hf4.below.size
    omega
  have hfa : FrX 3 W0.heap.size w4 (w4.alloc (.cells #[.int .i64 (id : Int)] 3)) := (FrX.refl _ _ _).alloc hA4 _
  have hki4a : Ids W0.heap.size (w4.alloc (.cells #[.int .i64 (id : Int)] 3)) v4 (ids.eraseIdx p) := hki4.fx (ty := 0) ((FrX.refl _ _ _).alloc hA4 _) (by decide)
  obtain ⟨kv5, w5, hrun5, hki5, hf5⟩ := hki4a.append (by simp; omega) (by rw [List.length_eraseIdx_of_lt p1]; omega) w4.heap.size 0 id (by simp [go_sem]) 47
  have hfall : FrX 3 W0.heap.size wr w5 := (hf4.trans hfa).trans hf5
  have hmv : ids.eraseIdx p ++ [id] = mv p ids := by unfold mv; rw [p2]
  rw [hmv] at hki5
  exact ⟨kv5, w5, hrun5, ⟨(a1.below.trans hfk.below).trans hfall.below, (hks.fx hfall (by decide) (by decide) (by decide)).mono (by omega), own_fx (own_fk a1.tx hfk (by decide) (by decide)) hfall (by decide), hki5, fun i hi => a1.lt i ((mv_perm p1).mem_iff.1 hi), a1.text⟩, tot_perm T (mv_perm p1)⟩
/-- 'append(kept[:p], kept[p+1:]...)' where p is the last: nothing turns. -/
theorem Ids.erase_last {A : Nat} {w : World} {X off cap p : Nat} {cur : Array Value} {xs : List Nat} (e2 : A ≤ X) (e3 : w.heap[X]? = some (.cells cur 3 (0, 0))) (e4 : xs.length ≤ cap) (e5 : off + cap ≤ cur.size) (e6 : cap ≤ maxLen) (e7 : ∀ i, i < xs.length → cur[off + i]? = some (.int .i64 (xs.getD i 0))) (hp : p + 1 = xs.length) : Ids A w (.slice (some ⟨X, off, none⟩) p cap) (xs.eraseIdx p) := by
  have hel : (xs.eraseIdx p).length = p := by rw [List.length_eraseIdx_of_lt (by omega)]; omega
  refine .inr ⟨X, off, cap, cur, by rw [hel], e2, e3, by omega, e5, e6, fun i hi => ?_⟩
  rw [hel] at hi
  rw [e7 i (by omega), List.getD_eq_getElem?_getD, List.getD_eq_getElem?_getD, List.getElem?_eraseIdx, if_pos hi]
theorem pnil35 (w : World) : (binOp .neq 35 (.pointer none) (.pointer none)).run Yba.prog w = .ok (.bool false) w := by kernel_rfl

set_option maxHeartbeats 8000000 in
theorem odd_arm (W0 W : World) (S k N z : Nat) (T : Nat → ByteArray) (ids ss : List Nat) (tv kv : Value) (op ln pick : Int) (big : Bool)
    (hst : St W0 T W W0.heap.size k N ids ss tv kv) (hz : tot T ids = z) (hN : N ≤ k) (hk : k < 300) (hN0 : 0 < N) (c3 : W.cell? ⟨S, 3, none⟩ = some (.int .u8 pick)) (o3 : 0 ≤ pick ∧ pick ≤ 255)
    (u0 u1 u2 u7 u9 u10 u11 u12 u13 u14 u15 u16 u17 u18 u19 u20 u21 u22 u23 u24 u26 u27 u28 u29 u30 u31 u32 u33 u34 u35 u36 u37 u38 u39 u40 u41 u42 u43 u44 u45 u46 u47 u48 u49 u50 u51 u52 u53 u54 u55 u56 u57 u58 u59 u60 u61 u62 u63 u64 u65 u66 u67 u68 u69 u70 u71 u72 u73 u74 u75 u76 u77 u78 u79 u80 u81 u82 u83 u84 u85 u86 u87 u88 u89 u90 u91 u92 u93 u94 u95 u96 u97 u98 u99 u100 u101 u102 u103 u104 u105 u106 u107 u108 u109 u110 u111 u112 u113 u114 u115 u116 u117 u118 u119 u120 u121 u122 u123 u124 u125 u126 u127 u128 u129 u130 u131 u132 u133 u134 u135 u136 u137 u138 u139 u140 u141 u142 u143 u144 u145 u146 u147 u148 u149 u150 u151 u152 u153 u154 u155 u156 u157 u158 u159 u160 u161 u162 u163 u164 u165 u166 u167 u168 u169 u170 u171 u172 u173 u174 u175 u176 u177 u178 u179 u180 u181 u182 u183 u184 u185 u186 u187 u188 u189 u190 u191 u192 u193 u194 u195 u196 u197 u198 u199 u200 u201 u202 : Value) (Q : Exit → Act → World → Prop)
    (hQ : ∀ (v4 v5 v6 v16 v17 v18 v19 v141 v142 v143 v144 v145 v146 v147 v148 v149 v150 v151 v152 v153 v154 v155 v156 v157 v158 v159 v160 v161 v162 v163 v164 v165 v166 v167 v168 v169 v170 v171 v172 v173 v174 v175 v176 v177 v178 v179 v180 v181 v182 v183 v184 v185 v186 v187 v188 v189 v190 v191 v192 v193 v194 v195 v196 : Value) (wx : World), (∃ (T' : Nat → ByteArray) (N' : Nat) (ids' ss' : List Nat), N' ≤ k + 1 ∧ St W0 T' wx W0.heap.size (k + 1) N' ids' ss' v4 v5 ∧ v6 = .int .i64 (tot T' ids')) → Q .normal ⟨#[u0, u1, u2, .pointer (some ⟨W0.heap.size, 0, none⟩), v4, v5, v6, u7, .pointer (some ⟨S, 0, none⟩), u9, u10, u11, u12, u13, u14, u15, v16, v17, v18, v19, u20, u21, u22, u23, u24, .int .i64 (k : Int), u26, u27, u28, u29, u30, u31, u32, u33, u34, u35, u36, u37, u38, u39, u40, u41, u42, u43, u44, u45, u46, u47, u48, u49, u50, u51, u52, u53, u54, u55, u56, u57, u58, u59, u60, u61, u62, u63, u64, u65, u66, u67, u68, u69, u70, u71, u72, u73, u74, u75, u76, u77, u78, u79, u80, u81, u82, u83, u84, u85, u86, u87, u88, u89, u90, u91, u92, u93, u94, u95, u96, u97, u98, u99, u100, u101, u102, u103, u104, u105, u106, u107, u108, u109, u110, u111, u112, u113, u114, u115, u116, u117, u118, u119, u120, u121, u122, u123, u124, u125, u126, u127, u128, u129, u130, u131, u132, u133, u134, u135, u136, u137, u138, u139, u140, v141, v142, v143, v144, v145, v146, v147, v148, v149, v150, v151, v152, v153, v154, v155, v156, v157, v158, v159, v160, v161, v162, v163, v164, v165, v166, v167, v168, v169, v170, v171, v172, v173, v174, v175, v176, v177, v178, v179, v180, v181, v182, v183, v184, v185, v186, v187, v188, v189, v190, v191, v192, v193, v194, v195, v196, u197, u198, u199, u200, u201, u202], []⟩ wx) :
    Code.wp Yba.prog (((Yba.f4.body.bind (arms 32)).map (·.2)).getD .skip) (noPanic Q) ⟨#[u0, u1, u2, .pointer (some ⟨W0.heap.size, 0, none⟩), tv, kv, .int .i64 (z : Int), u7, .pointer (some ⟨S, 0, none⟩), u9, u10, u11, u12, u13, u14, u15, u16, u17, u18, u19, u20, u21, u22, u23, u24, .int .i64 (k : Int), u26, u27, u28, u29, u30, u31, u32, u33, u34, u35, u36, u37, u38, u39, u40, u41, u42, u43, u44, u45, u46, u47, u48, u49, u50, u51, u52, u53, u54, u55, u56, u57, u58, u59, u60, u61, u62, u63, u64, u65, u66, u67, u68, u69, u70, u71, u72, u73, u74, u75, u76, u77, u78, u79, u80, u81, u82, u83, u84, u85, u86, u87, u88, u89, u90, u91, u92, u93, u94, u95, u96, u97, u98, u99, u100, u101, u102, u103, u104, u105, u106, u107, u108, u109, u110, u111, u112, u113, u114, u115, u116, u117, u118, u119, u120, u121, u122, u123, u124, u125, u126, u127, u128, u129, u130, u131, u132, u133, u134, u135, u136, u137, u138, u139, u140, u141, u142, u143, u144, u145, u146, u147, u148, u149, u150, u151, u152, u153, u154, u155, u156, u157, u158, u159, u160, u161, u162, u163, u164, u165, u166, u167, u168, u169, u170, u171, u172, u173, u174, u175, u176, u177, u178, u179, u180, u181, u182, u183, u184, u185, u186, u187, u188, u189, u190, u191, u192, u193, u194, u195, u196, u197, u198, u199, u200, u201, u202], []⟩ W := by
  conv => arg 2; whnf
  obtain ⟨id, hid, hidN⟩ : ∃ id : Nat, pick.tmod (N : Int) = (id : Int) ∧ id < N := by
    have hp : pick.tmod (N : Int) = pick % (N : Int) := Int.tmod_eq_emod_of_nonneg o3.1
    have h1 := Int.emod_nonneg pick (show (N : Int) ≠ 0 by omega)
    have h2 := Int.emod_lt_of_pos pick (show (0 : Int) < (N : Int) by omega)
    exact ⟨(pick % (N : Int)).toNat, by rw [hp, Int.toNat_of_nonneg h1], by omega⟩
  have hN0i : ¬ (N : Int) = 0 := by omega
  have hN0j : ¬ N = 0 := by omega
  have hidi : (id : Int) < (N : Int) := by omega
  have hidj : (0 : Int) ≤ (id : Int) := by omega
  obtain ⟨b1, b2, b3, b4, b5, b6⟩ := hst.ks.facts
  have hki := hst.ki
  have hts := (hst.text id hidN).2
  obtain ⟨ta, tcap, rfl, htc⟩ := hst.shape
  obtain ⟨g, rfl, x2⟩ := htc id hidN
  obtain ⟨t, ht⟩ : ∃ t, T id = t := ⟨_, rfl⟩
  rw [ht] at x2 hts
  have HI : Hid (St W0 T W W0.heap.size k N ids ss (.slice (some ⟨g, 0, none⟩) N tcap) kv ∧ tot T ids = z ∧ T id = t) := ⟨hst, hz, ht⟩
  obtain ⟨L, hL⟩ : ∃ L, ids.length = L := ⟨_, rfl⟩
  have hL300 : (L : Int) ≤ 300 := by omega
  clear hst hz htc
  conv => arg 4; dsimp only
  by_cases hin : id ∈ ids
  · obtain ⟨p, hp, hpe⟩ : ∃ p, p < ids.length ∧ ids.getD p 0 = id := by
      obtain ⟨p, hp, e⟩ := List.mem_iff_getElem.1 hin
      exact ⟨p, hp, by rw [getD_get hp]; exact e⟩
    have hfind : Calls Yba.prog 6 #[ptr ⟨W0.heap.size, 0, none⟩, .string t] W fun e w' => ∃ s, e = .returned (ptr ⟨s, 0, none⟩) ∧ SB w' s t ∧ KS W0.heap.size T w' W0.heap.size k (mv p ids) (mv p ss) ∧ FrK W0.heap.size W w' := by
      have := HI.out.1.ks.find (by omega) p hp
      rw [hpe, ht] at this
      exact this
    obtain ⟨_, h0⟩ | ⟨X, off, cap, cur, rfl, e2, e3, e4, e5, e6, e7⟩ := hki
    · rw [h0] at hp; simp at hp
    have HF : Hid _ := hfind
    have HP : Hid (p < ids.length ∧ ids.getD p 0 = id ∧ ids.length = L ∧ ids.Nodup ∧ W0.heap.size ≤ X ∧ off + cap ≤ cur.size ∧ cap ≤ maxLen ∧ ∀ i, i < ids.length → cur[off + i]? = some (.int .i64 (ids.getD i 0))) := ⟨hp, hpe, hL, b1, e2, e5, e6, e7⟩
    have HE : Hid (W.heap[X]? = some (.cells cur 3 (0, 0))) := e3
    have HX : Hid (W.cell? ⟨g, id, none⟩ = some (.string t) ∧ W.heap[g]?.isSome = true) := ⟨x2, by
      have := World.block_lt_of_cell? _ _ x2
      simp at this
      simp [this]⟩
    rw [hL] at e4 hp ⊢
    have hpi : (p : Int) < (L : Int) := by omega
    have hpc : p < cap := by omega
    clear hfind hin hpe ht b1 b2 b3 b4 b5 b6 hL e2 e3 e5 e6 e7
    go_wp2_with (go_at_call 6; refine Calls.mono HF.out ?_; rintro e w2 ⟨s, rfl, hsb2, hks2, hf2⟩; have H2 : Hid _ := And.intro hsb2 (And.intro hks2 hf2); clear hsb2 hks2 hf2)
    have hrow2 : w2.heap[X]? = some (.cells cur 3 (0, 0)) := H2.out.2.2.row _ _ _ _ HE.out (by decide) (by decide)
    have HR2 : Hid _ := hrow2
    clear hrow2
    go_loopw [18, 19] (fun pos j wx => wx = w2 ∧ ∃ q : Nat, q ≤ L ∧ j = .int .i64 (q : Int) ∧ pos = .int .i64 (if p < q then (p : Int) else -1)) (fun _ j _ => L - (intOf j).toNat)
    case atStart => exact ⟨rfl, 0, Nat.zero_le _, rfl, rfl⟩
    case round =>
      obtain ⟨rfl, q, hq, rfl, rfl⟩ := hrel
      by_cases hlt : q < L
      · obtain ⟨p1, p2, p3, p4, p5, p6, p7, p8⟩ := HP.out
        obtain ⟨x, hx⟩ : ∃ x, ids.getD q 0 = x := ⟨_, rfl⟩
        have y1 : wr.cell? ⟨X, off + q, none⟩ = some (.int .i64 (x : Int)) := by rw [cell_of_row _ _ _ _ _ _ HR2.out, p8 q (by omega), hx]
        have hi0 : (0 : Int) ≤ (q : Int) := by omega
        have hi1 : (q : Int) < (L : Int) := by omega
        obtain ⟨v, hv⟩ : ∃ v : Int, (if p < q then (p : Int) else -1) = v := ⟨_, rfl⟩
        rw [hv]
        have HV : Hid _ := hv
        by_cases hqp : q = p
        · subst hqp
          have hxe : x = id := by rw [← hx]; exact p2
          subst hxe
          clear hx hv p1 p2 p3 p4 p5 p6 p7 p8
          go_wp2_with fail
          all_goals go_roundw
          case rel => exact ⟨by first | rfl | trivial, q + 1, by omega, by go_num, by rw [if_pos (by omega)]⟩
          case measure => simp [intOf]; omega
        · have hxe : ¬ x = id := fun e => getD_ne p4 (by omega) p1 hqp (by rw [hx, p2, e])
          have hxi : ¬ (x : Int) = (id : Int) := by omega
          have hxb : ((x : Int) == (id : Int)) = false := by simp; omega
          clear hx hv p1 p2 p3 p4 p5 p6 p7 p8
          go_wp2_with fail
          all_goals go_roundw
          case rel =>
            refine ⟨by first | rfl | trivial, q + 1, by omega, by go_num, ?_⟩
            rw [← HV.out]
            by_cases h : p < q
            · rw [if_pos h, if_pos (by omega)]
            · rw [if_neg h, if_neg (by omega)]
          case measure => simp [intOf]; omega
      · have hqL : q = L := by omega
        subst hqL
        rw [if_pos hp]
        obtain ⟨p1, p2, p3, p4, p5, p6, p7, p8⟩ := HP.out
        obtain ⟨a1, a2, a3⟩ := HI.out
        obtain ⟨d1, d2, d3⟩ := H2.out
        have htx2 := own_fk a1.tx d3 (by decide) (by decide)
        have y2 : wr.cell? ⟨g, id, none⟩ = some (.string t) := by
          rw [htx2.cellAt id (by omega)]
          simp [hidN, a3]
        have y3 := d1.cells.1
        have hp0 : (0 : Int) ≤ (p : Int) := by omega
        have hp1 : ¬ (p : Int) < 0 := by omega
        have HD : Hid (KS W0.heap.size T wr W0.heap.size k (mv p ids) (mv p ss)) := d2
        have HF2 : Hid _ := d3
        have HT2 : Hid _ := htx2
        clear a1 a2 a3 d1 d2 d3 htx2 p1 p2 p3 p4 p5 p6 p7 p8 c3 x2
        go_wp2_with fail
        go_quiet (fail)
        go_wp2_with fail
        obtain ⟨w3, hw3⟩ : ∃ w3, w3 = wr.drewN nq := ⟨_, rfl⟩
        rw [← hw3]
        have hs3 : Same wr w3 := by rw [hw3]; exact (Same.refl wr).drewN nq
        clear hw3 y2 y3
        obtain ⟨p1, p2, p3, p4, p5, p6, p7, p8⟩ := HP.out
        obtain ⟨a1, a2, a3⟩ := HI.out
        have e3d : w3.drew.heap[X]? = some (.cells cur 3 (0, 0)) := (hs3.drew.get X).trans HR2.out
        have hl300 : ids.length ≤ 300 := by omega
        have hpc1 : (p : Int) ≤ (cap : Int) := by omega
        have hwr : IntKind.i64.wrap ((p : Int) + 1) = (p : Int) + 1 := wrap_small p (by omega)
        have htn : ((p : Int) + 1).toNat = p + 1 := by omega
        have hpc3 : (0 : Int) ≤ (p : Int) + 1 := by omega
        by_cases hcp : cap = p + 1
        · have hqp : q = p + 1 := by omega
          have hki4 : Ids W0.heap.size w3.drew (.slice (some ⟨X, off, none⟩) p cap) (ids.eraseIdx p) := Ids.erase_last p5 e3d (by omega) p6 p7 p8 (by omega)
          obtain ⟨kv5, w5, hrun5, hst5, htot5⟩ := St.moved a1 HD.out HF2.out (FrX.of_same hs3.drew) hki4 p1 p2 hl300
          rw [a2] at htot5
          have H5 : Hid (St W0 T w5 W0.heap.size (k + 1) N (mv p ids) (mv p ss) (.slice (some ⟨g, 0, none⟩) N tcap) kv5 ∧ tot T (mv p ids) = z) := ⟨hst5, htot5⟩
          have hpc2 : (p : Int) ≤ (p : Int) + 1 := by omega
          clear hst5 htot5 hki4 e3d hs3 a1 a2 a3 p1 p2 p3 p4 p5 p6 p7 p8 hl300
          subst hcp
          subst hqp
          go_region
          all_goals go_wp2_with (at_builtin; refine wpList_append_run rfl (.tmp 193) (.tmp 195) 47 rfl rfl rfl hrun5 ?_)
          all_goals
            change Q .normal _ _
            apply hQ
            obtain ⟨m1, m2⟩ := H5.out
            exact ⟨T, N, mv p ids, mv p ss, by omega, m1, by rw [m2]⟩
        · obtain ⟨ad, hadv, had⟩ : ∃ ad : Addr, ad = ⟨X, off + (p + 1), none⟩ ∧ ∀ j, j < ids.length - (p + 1) → ad.add j = ⟨X, off + (p + 1) + j, none⟩ := ⟨_, rfl, fun j hj => add_at _ _ _⟩
          obtain ⟨w4, hrun4, hki4, hf4⟩ := Ids.erase (A := W0.heap.size) p5 e3d (by omega) p6 p7 p8 p p1 ad (cap - (p + 1)) had 47
          rw [p3] at hrun4 hki4
          obtain ⟨kv5, w5, hrun5, hst5, htot5⟩ := St.moved a1 HD.out HF2.out ((FrX.of_same hs3.drew).trans hf4) hki4 p1 p2 hl300
          rw [a2] at htot5
          have H5 : Hid (St W0 T w5 W0.heap.size (k + 1) N (mv p ids) (mv p ss) (.slice (some ⟨g, 0, none⟩) N tcap) kv5 ∧ tot T (mv p ids) = z) := ⟨hst5, htot5⟩
          have hpc2 : (p : Int) + 1 ≤ (q : Int) := by omega
          clear hst5 htot5 hki4 hf4 had e3d hs3 a1 a2 a3 p1 p2 p3 p4 p5 p6 p7 p8 hl300
          subst hadv
          go_region_law (refine step_append_run rfl (.tmp 187) (.tmp 191) 47 rfl (v1 := .slice (some ⟨X, off, none⟩) p cap) (v2 := .slice (some ⟨X, off + (p + 1), none⟩) (q - (p + 1)) (cap - (p + 1))) (by simp [Act.eval, Act.put]) (by simp [Act.eval, Act.put]) hrun4 ?_)
          all_goals go_wp2_with (at_builtin; refine wpList_append_run rfl (.tmp 193) (.tmp 195) 47 rfl rfl rfl hrun5 ?_)
          all_goals
            change Q .normal _ _
            apply hQ
            obtain ⟨m1, m2⟩ := H5.out
            exact ⟨T, N, mv p ids, mv p ss, by omega, m1, by rw [m2]⟩
  · have hfind : Calls Yba.prog 6 #[ptr ⟨W0.heap.size, 0, none⟩, .string t] W fun e w' => e = .returned (.pointer none) ∧ w' = W := by
      obtain ⟨a1, a2, a3⟩ := HI.out
      refine a1.ks.find_no t (by omega) (fun i hi e => hin ?_)
      have := a1.inj (a1.lt i hi) hidN (by rw [e, a3])
      rw [← this]; exact hi
    obtain ⟨ka, kcap, rfl, hkcap, hkc⟩ := hki.shape
    rw [hL] at hkc
    have HF : Hid _ := hfind
    have HKC : Hid _ := hkc
    have HIN : Hid (id ∉ ids ∧ ids.length = L) := ⟨hin, hL⟩
    have q1 := pnil35
    rw [hL]
    clear hfind hkc hin hki hkcap ht b1 b2 b3 b4 b5 b6 hL
    go_wp2_with (go_at_call 6; refine Calls.mono HF.out ?_; rintro e w2 ⟨rfl, hw2⟩; subst hw2)
    go_loopw [18, 19] (fun pos j wx => wx = w2 ∧ pos = .int .i64 (-1) ∧ ∃ q : Nat, q ≤ L ∧ j = .int .i64 (q : Int)) (fun _ j _ => L - (intOf j).toNat)
    case atStart => exact ⟨rfl, rfl, 0, Nat.zero_le _, rfl⟩
    case round =>
      obtain ⟨rfl, rfl, q, hq, rfl⟩ := hrel
      by_cases hlt : q < L
      · obtain ⟨X, off, rfl, y1⟩ := HKC.out q hlt
        obtain ⟨x, hx⟩ : ∃ x, ids.getD q 0 = x := ⟨_, rfl⟩
        have hxn : ¬ x = id := fun e => HIN.out.1 (by rw [← e, ← hx]; exact getD_mem0 (by rw [HIN.out.2]; exact hlt))
        rw [hx] at y1
        have hxi : ¬ (x : Int) = (id : Int) := by omega
        have hxb : ((x : Int) == (id : Int)) = false := by simp; omega
        have hi0 : (0 : Int) ≤ (q : Int) := by omega
        have hi1 : (q : Int) < (L : Int) := by omega
        clear hx
        go_wp2_with fail
        all_goals go_roundw
        case rel => exact ⟨by first | rfl | trivial, by first | rfl | trivial, q + 1, by omega, by go_num⟩
        case measure => simp [intOf]; omega
      · go_wp2_with fail
        obtain ⟨a1, a2, a3⟩ := HI.out
        apply hQ
        exact ⟨T, N, ids, ss, by omega, by rw [← HIN.out.2]; exact a1.mono (by omega), by rw [a2]⟩

end Go.Proofs.Ybulkciry
