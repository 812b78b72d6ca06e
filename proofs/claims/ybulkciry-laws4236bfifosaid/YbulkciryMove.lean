/-
  MoveToBack ON THE ROAD OF 'engine.LawS4236BFifo', against plain lists.
-/
import Derived.Test.YbulkciryRing
namespace Go.Proofs.Ybulkciry
open Go.RowKit
set_option maxRecDepth 100000
set_option linter.unusedVariables false
set_option linter.unusedSimpArgs false

/-- Number p goes last. -/
def mv (p : Nat) (l : List Nat) : List Nat := l.eraseIdx p ++ [l.getD p 0]
/-- Where number i of the moved list lay. -/
def sg (n p i : Nat) : Nat := if i + 1 < n then (if i < p then i else i + 1) else p
theorem mv_length {p : Nat} {l : List Nat} (hp : p < l.length) : (mv p l).length = l.length := by
  unfold mv
  rw [List.length_append, List.length_eraseIdx_of_lt hp]
  simp
  omega
theorem mv_getD {p i : Nat} {l : List Nat} (hp : p < l.length) (hi : i < l.length) : (mv p l).getD i 0 = l.getD (sg l.length p i) 0 := by
  unfold mv sg
  have hl : (l.eraseIdx p).length = l.length - 1 := List.length_eraseIdx_of_lt hp
  by_cases h : i + 1 < l.length
  · rw [if_pos h, getD_left (by omega), List.getD_eq_getElem?_getD, List.getElem?_eraseIdx]
    by_cases h2 : i < p
    · rw [if_pos h2, if_pos h2, List.getD_eq_getElem?_getD]
    · rw [if_neg h2, if_neg h2, List.getD_eq_getElem?_getD]
  · rw [if_neg h]
    have e : i = (l.eraseIdx p).length := by omega
    rw [e, getD_last]
theorem sg_lt {n p i : Nat} (hp : p < n) (hi : i < n) : sg n p i < n := by unfold sg; split <;> (try split) <;> omega
theorem getD_get {l : List Nat} {i : Nat} (hi : i < l.length) : l.getD i 0 = l[i] := by
  rw [List.getD_eq_getElem?_getD, List.getElem?_eq_getElem hi]; simp
theorem mv_nodup {p : Nat} {l : List Nat} (hp : p < l.length) (h : l.Nodup) : (mv p l).Nodup := by
  refine List.pairwise_iff_getElem.2 fun i j hi hj hij e => ?_
  have hi' : i < l.length := by rw [mv_length hp] at hi; exact hi
  have hj' : j < l.length := by rw [mv_length hp] at hj; exact hj
  refine getD_ne h (sg_lt hp hi') (sg_lt hp hj') ?_ (by rw [← mv_getD hp hi', ← mv_getD hp hj', getD_get hi, getD_get hj, e])
  unfold sg
  split <;> split <;> (try split) <;> (try split) <;> omega
theorem mv_last {p : Nat} {l : List Nat} (hp : p + 1 = l.length) : mv p l = l := by
  apply List.ext_getElem (mv_length (by omega))
  intro i h1 h2
  have := mv_getD (l := l) (p := p) (i := i) (by omega) h2
  rw [List.getD_eq_getElem?_getD, List.getD_eq_getElem?_getD, List.getElem?_eq_getElem h1] at this
  have hs : sg l.length p i = i := by unfold sg; split <;> (try split) <;> omega
  rw [hs, List.getElem?_eq_getElem h2] at this
  simpa using this

theorem EB.setN {w : World} {e K s : Nat} {nx pv : Value} (h : EB w e K s nx pv) (b : Nat) (v : Value) : EB (w.setCell ⟨b, 0, none⟩ v) e K s (if e = b then v else nx) pv := by
  by_cases hb : e = b
  · subst hb; rw [if_pos rfl]; exact h.next v
  · rw [if_neg hb]; exact h.other hb v
theorem EB.setP {w : World} {e K s : Nat} {nx pv : Value} (h : EB w e K s nx pv) (b : Nat) (v : Value) : EB (w.setCell ⟨b, 1, none⟩ v) e K s nx (if e = b then v else pv) := by
  by_cases hb : e = b
  · subst hb; rw [if_pos rfl]; exact h.prev v
  · rw [if_neg hb]; exact h.other hb v

theorem aMv {K p i : Nat} {es : List Nat} (hp : p < es.length) (hi : i < es.length) : nodeAt K (mv p es) i = ⟨es.getD (sg es.length p i) 0, 0, none⟩ := by
  unfold nodeAt
  rw [if_pos (by rw [mv_length hp]; exact hi), mv_getD hp hi]
theorem bMv {K p i : Nat} {es : List Nat} (hp : p < es.length) (h0 : i ≠ 0) (hi : i ≤ es.length) : nodeB K (mv p es) i = ⟨es.getD (sg es.length p (i - 1)) 0, 0, none⟩ := by
  unfold nodeB
  rw [if_neg h0, mv_getD hp (by omega)]

/-- The world behind MoveToBack of number p. -/
def moved (w : World) (K : Nat) (es : List Nat) (p : Nat) : World :=
  ((((((w.setCell (nodeB K es p) (ptr ⟨es.getD (p + 1) 0, 0, none⟩)).setCell ⟨es.getD (p + 1) 0, 1, none⟩ (ptr (nodeB K es p))).setCell ⟨es.getD p 0, 1, none⟩ (ptr ⟨es.getD (es.length - 1) 0, 0, none⟩)).setCell ⟨es.getD p 0, 0, none⟩ (ptr ⟨K, 1, none⟩)).setCell ⟨es.getD (es.length - 1) 0, 0, none⟩ (ptr ⟨es.getD p 0, 0, none⟩)).setCell ⟨K, 2, none⟩ (ptr ⟨es.getD p 0, 0, none⟩)).drew.drew

theorem Ring.move_walk {w : World} {K : Nat} {m : Value} {size : Int} {es ss : List Nat} (h : Ring w K m size es ss) (hn : es.length ≤ 1000) (p : Nat) (hp : p + 1 < es.length) :
    Calls Yba.prog 19 #[ptr ⟨K, 1, none⟩, ptr ⟨es.getD p 0, 0, none⟩] w fun e w' => e = .returned (.tuple #[]) ∧ w' = moved w K es p := by
  have hkb := h.kb
  have hf := h.eb p (by omega)
  have ha := h.eb (p + 1) hp
  have hl := h.eb (es.length - 1) (by omega)
  have e3 : nodeB K es es.length = ⟨es.getD (es.length - 1) 0, 0, none⟩ := by unfold nodeB; rw [if_neg (by omega)]
  have e4 : nodeAt K es (p + 1) = ⟨es.getD (p + 1) 0, 0, none⟩ := by unfold nodeAt; rw [if_pos hp]
  have e5 : nodeB K es (p + 1) = ⟨es.getD p 0, 0, none⟩ := by unfold nodeB; rw [if_neg (by omega)]; simp
  have e6 : nodeAt K es (es.length - 1 + 1) = ⟨K, 1, none⟩ := by unfold nodeAt; rw [if_neg (by omega)]
  rw [e3] at hkb
  rw [e4] at hf
  rw [e5] at ha
  rw [e6] at hl
  have hfa : ¬ es.getD p 0 = es.getD (p + 1) 0 := getD_ne h.nodup (by omega) hp (by omega)
  have hfl : ¬ es.getD p 0 = es.getD (es.length - 1) 0 := getD_ne h.nodup (by omega) (by omega) (by omega)
  unfold moved
  by_cases hp0 : p = 0
  · subst hp0
    have e1 : nodeB K es 0 = ⟨K, 1, none⟩ := rfl
    have e2 : nodeAt K es 0 = ⟨es.getD 0 0, 0, none⟩ := by unfold nodeAt; rw [if_pos (by omega)]
    rw [e1] at hf ⊢
    rw [e2] at hkb
    by_cases hal : 0 + 1 = es.length - 1
    · rw [← hal] at hkb hl ⊢
      rw [e5] at hl
      exact toback_ra K _ _ _ _ hfa m _ size (by omega) w hkb hf hl
    · exact toback_rl K _ _ _ _ _ _ _ _ hfa hfl (getD_ne h.nodup hp (by omega) hal) m _ size (by omega) w hkb hf ha hl
  · have hpp := h.eb (p - 1) (by omega)
    have e1 : nodeB K es p = ⟨es.getD (p - 1) 0, 0, none⟩ := by unfold nodeB; rw [if_neg hp0]
    have e2 : nodeAt K es (p - 1 + 1) = ⟨es.getD p 0, 0, none⟩ := by rw [show p - 1 + 1 = p by omega]; unfold nodeAt; rw [if_pos (by omega)]
    rw [e1] at hf ⊢
    rw [e2] at hpp
    have hpf : ¬ es.getD (p - 1) 0 = es.getD p 0 := getD_ne h.nodup (by omega) (by omega) (by omega)
    have hpa : ¬ es.getD (p - 1) 0 = es.getD (p + 1) 0 := getD_ne h.nodup (by omega) (by omega) (by omega)
    by_cases hal : p + 1 = es.length - 1
    · rw [← hal] at hkb hl ⊢
      rw [e5] at hl
      exact toback_pa K _ _ _ _ _ _ _ _ hfa hpf hpa m _ size (by omega) w hkb hpp hf hl
    · exact toback_pl K _ _ _ _ _ _ _ _ _ _ _ _ hfa hpf hpa hfl (getD_ne h.nodup hp (by omega) hal) (getD_ne h.nodup (by omega) (by omega) (by omega)) m _ size (by omega) w hkb hpp hf ha hl

set_option maxHeartbeats 1000000 in
theorem Ring.moved {w : World} {K : Nat} {m : Value} {size : Int} {es ss : List Nat} (h : Ring w K m size es ss) (p : Nat) (hp : p + 1 < es.length) :
    Ring (moved w K es p) K m size (mv p es) (mv p ss) ∧ Fr w (moved w K es p) (K :: es) ∧ (moved w K es p).heap.size = w.heap.size := by
  have hml : (mv p es).length = es.length := mv_length (by omega)
  have hsl : (mv p ss).length = ss.length := mv_length (by rw [h.len]; omega)
  have hmem : ∀ i, i < es.length → es.getD i 0 ∈ es := fun i hi => getD_mem0 hi
  have hK : ∀ i, i < es.length → ¬ es.getD i 0 = K := fun i hi => (h.not_mem (hmem i hi)).2
  have hinj : ∀ i j, i < es.length → j < es.length → i ≠ j → ¬ es.getD i 0 = es.getD j 0 := fun i j hi hj hne => getD_ne h.nodup hi hj hne
  have hPR : (nodeB K es p).block ∈ K :: es := by
    unfold nodeB
    by_cases hp0 : p = 0
    · simp [hp0]
    · rw [if_neg hp0]; exact List.mem_cons_of_mem _ (hmem _ (by omega))
  refine ⟨⟨by rw [hml, hsl, h.len], mv_nodup (by omega) h.nodup, ?_, ?_⟩, ?_, by simp [Ybulkciry.moved]⟩
  · have f2 : nodeB K (mv p es) (mv p es).length = ⟨es.getD p 0, 0, none⟩ := by
      rw [hml, bMv (by omega) (by omega) (Nat.le_refl _)]
      have : sg es.length p (es.length - 1) = p := by unfold sg; rw [if_neg (by omega)]
      rw [this]
    rw [f2, hml]
    have hkb := h.kb
    have hs := fun i (hi : i < es.length) (e : K = es.getD i 0) => hK i hi e.symm
    unfold Ybulkciry.moved
    by_cases hp0 : p = 0
    · subst hp0
      have f1 : nodeAt K (mv 0 es) 0 = ⟨es.getD (0 + 1) 0, 0, none⟩ := by
        rw [aMv (by omega) (by omega)]
        have : sg es.length 0 0 = 0 + 1 := by unfold sg; rw [if_pos (by omega)]; simp
        rw [this]
      rw [f1]
      exact ((((((hkb.next _).other (a := ⟨es.getD (0 + 1) 0, 1, none⟩) (hs _ hp) _).other (a := ⟨es.getD 0 0, 1, none⟩) (hs _ (by omega)) _).other (a := ⟨es.getD 0 0, 0, none⟩) (hs _ (by omega)) _).other (a := ⟨es.getD (es.length - 1) 0, 0, none⟩) (hs _ (by omega)) _).prev _).drew.drew
    · have f1 : nodeAt K (mv p es) 0 = nodeAt K es 0 := by
        rw [aMv (by omega) (by omega)]
        have : sg es.length p 0 = 0 := by unfold sg; rw [if_pos (by omega), if_pos (by omega)]
        rw [this]
        unfold nodeAt
        rw [if_pos (by omega)]
      have e1 : nodeB K es p = ⟨es.getD (p - 1) 0, 0, none⟩ := by unfold nodeB; rw [if_neg hp0]
      rw [f1, e1]
      exact ((((((hkb.other (a := ⟨es.getD (p - 1) 0, 0, none⟩) (hs _ (by omega)) _).other (a := ⟨es.getD (p + 1) 0, 1, none⟩) (hs _ hp) _).other (a := ⟨es.getD p 0, 1, none⟩) (hs _ (by omega)) _).other (a := ⟨es.getD p 0, 0, none⟩) (hs _ (by omega)) _).other (a := ⟨es.getD (es.length - 1) 0, 0, none⟩) (hs _ (by omega)) _).prev _).drew.drew
  · intro i hi
    rw [hml] at hi
    have hj := sg_lt (p := p) (by omega : p < es.length) hi
    rw [mv_getD (by omega) hi, mv_getD (l := ss) (by rw [h.len]; omega) (by rw [h.len]; exact hi), h.len]
    have he := h.eb _ hj
    have hjK := hK _ hj
    generalize hjd : sg es.length p i = j at *
    -- the element through the six stores
    have key : EB (Ybulkciry.moved w K es p) (es.getD j 0) K (ss.getD j 0)
        (if es.getD j 0 = es.getD (es.length - 1) 0 then ptr ⟨es.getD p 0, 0, none⟩ else if es.getD j 0 = es.getD p 0 then ptr ⟨K, 1, none⟩ else if p ≠ 0 ∧ es.getD j 0 = es.getD (p - 1) 0 then ptr ⟨es.getD (p + 1) 0, 0, none⟩ else ptr (nodeAt K es (j + 1)))
        (if es.getD j 0 = es.getD p 0 then ptr ⟨es.getD (es.length - 1) 0, 0, none⟩ else if es.getD j 0 = es.getD (p + 1) 0 then ptr (nodeB K es p) else ptr (nodeB K es j)) := by
      unfold Ybulkciry.moved
      by_cases hp0 : p = 0
      · subst hp0
        have e1 : nodeB K es 0 = ⟨K, 1, none⟩ := rfl
        have c1 : ∀ q : Prop, ((0 ≠ 0 ∧ q) ↔ False) := fun q => by simp
        rw [if_neg (c := (0 : Nat) ≠ 0 ∧ _) (by simp)]
        rw [e1]
        exact ((((((he.other (a := ⟨K, 1, none⟩) hjK _).setP _ _).setP _ _).setN _ _).setN _ _).other (a := ⟨K, 2, none⟩) hjK _).drew.drew
      · have e1 : nodeB K es p = ⟨es.getD (p - 1) 0, 0, none⟩ := by unfold nodeB; rw [if_neg hp0]
        have e2 : (if p ≠ 0 ∧ es.getD j 0 = es.getD (p - 1) 0 then ptr ⟨es.getD (p + 1) 0, 0, none⟩ else ptr (nodeAt K es (j + 1))) = (if es.getD j 0 = es.getD (p - 1) 0 then ptr ⟨es.getD (p + 1) 0, 0, none⟩ else ptr (nodeAt K es (j + 1))) := by simp [hp0]
        rw [e1, e2]
        exact ((((((he.setN _ _).setP _ _).setP _ _).setN _ _).setN _ _).other (a := ⟨K, 2, none⟩) hjK _).drew.drew
    have atE : ∀ k, k < es.length → nodeAt K es k = ⟨es.getD k 0, 0, none⟩ := fun k hk => by unfold nodeAt; rw [if_pos hk]
    have bE : ∀ k, k ≠ 0 → nodeB K es k = ⟨es.getD (k - 1) 0, 0, none⟩ := fun k hk => by unfold nodeB; rw [if_neg hk]
    by_cases hA : i + 1 < es.length
    · by_cases hB : i < p
      · -- ahead of the one that goes
        obtain rfl : i = j := by rw [← hjd]; unfold sg; rw [if_pos hA, if_pos hB]
        rw [if_neg (hinj i _ (by omega) (by omega) (by omega)), if_neg (hinj i p (by omega) (by omega) (by omega)), if_neg (hinj i p (by omega) (by omega) (by omega)), if_neg (hinj i (p + 1) (by omega) (by omega) (by omega))] at key
        have r2 : nodeB K (mv p es) i = nodeB K es i := by
          by_cases hz : i = 0
          · subst hz; rfl
          · rw [bMv (by omega) hz (by omega), bE i hz]
            have : sg es.length p (i - 1) = i - 1 := by unfold sg; rw [if_pos (by omega), if_pos (by omega)]
            rw [this]
        rw [r2, aMv (by omega) hA]
        by_cases hq : i + 1 = p
        · have : sg es.length p (i + 1) = p + 1 := by unfold sg; rw [if_pos (by omega), if_neg (by omega)]; omega
          rw [this]
          rw [if_pos ⟨by omega, by rw [show p - 1 = i by omega]⟩] at key
          exact key
        · have : sg es.length p (i + 1) = i + 1 := by unfold sg; rw [if_pos (by omega), if_pos (by omega)]
          rw [this]
          rw [if_neg (fun hc => hinj i (p - 1) (by omega) (by omega) (by omega) hc.2), atE (i + 1) hA] at key
          exact key
      · -- behind it
        obtain rfl : i + 1 = j := by rw [← hjd]; unfold sg; rw [if_pos hA, if_neg hB]
        rw [if_neg (c := es.getD (i + 1) 0 = es.getD p 0) (hinj (i + 1) p (by omega) (by omega) (by omega)), if_neg (c := es.getD (i + 1) 0 = es.getD p 0) (hinj (i + 1) p (by omega) (by omega) (by omega)), if_neg (c := p ≠ 0 ∧ _) (fun hc => hinj (i + 1) (p - 1) (by omega) (by omega) (by omega) hc.2)] at key
        have r2 : (if es.getD (i + 1) 0 = es.getD (p + 1) 0 then ptr (nodeB K es p) else ptr (nodeB K es (i + 1))) = ptr (nodeB K (mv p es) i) := by
          by_cases hq : i = p
          · subst hq
            rw [if_pos rfl]
            by_cases hz : i = 0
            · subst hz; rfl
            · rw [bMv (by omega) hz (by omega), bE i hz]
              have : sg es.length i (i - 1) = i - 1 := by unfold sg; rw [if_pos (by omega), if_pos (by omega)]
              rw [this]
          · rw [if_neg (hinj (i + 1) (p + 1) (by omega) (by omega) (by omega)), bMv (by omega) (by omega) (by omega), bE (i + 1) (by omega)]
            have : sg es.length p (i - 1) = i := by unfold sg; rw [if_pos (by omega), if_neg (by omega)]; omega
            rw [this]
            simp
        rw [r2] at key
        rw [aMv (by omega) hA]
        by_cases hq : i + 1 = es.length - 1
        · have : sg es.length p (i + 1) = p := by unfold sg; rw [if_neg (by omega)]
          rw [this]
          rw [if_pos (by rw [← hq])] at key
          exact key
        · have : sg es.length p (i + 1) = i + 1 + 1 := by unfold sg; rw [if_pos (by omega), if_neg (by omega)]
          rw [this]
          rw [if_neg (hinj (i + 1) _ (by omega) (by omega) hq), atE (i + 1 + 1) (by omega)] at key
          exact key
    · -- the one that goes
      obtain rfl : p = j := by rw [← hjd]; unfold sg; rw [if_neg hA]
      rw [if_neg (hinj p _ (by omega) (by omega) (by omega)), if_pos rfl, if_pos rfl] at key
      have r1 : nodeAt K (mv p es) (i + 1) = ⟨K, 1, none⟩ := by unfold nodeAt; rw [if_neg (by rw [hml]; exact hA)]
      have r2 : nodeB K (mv p es) i = ⟨es.getD (es.length - 1) 0, 0, none⟩ := by
        rw [bMv (by omega) (by omega) (by omega)]
        have : sg es.length p (i - 1) = es.length - 1 := by unfold sg; rw [if_pos (by omega), if_neg (by omega)]; omega
        rw [this]
      rw [r1, r2]
      exact key
  · unfold Ybulkciry.moved
    exact ((((((((Fr.refl w (K :: es)).set hPR _).set (List.mem_cons_of_mem _ (hmem _ hp)) _).set (List.mem_cons_of_mem _ (hmem _ (by omega))) _).set (List.mem_cons_of_mem _ (hmem _ (by omega))) _).set (List.mem_cons_of_mem _ (hmem _ (by omega))) _).set (by simp) _).drew).drew

theorem Ring.move {w : World} {K : Nat} {m : Value} {size : Int} {es ss : List Nat} (h : Ring w K m size es ss) (hn : es.length ≤ 1000) (p : Nat) (hp : p < es.length) :
    Calls Yba.prog 19 #[ptr ⟨K, 1, none⟩, ptr ⟨es.getD p 0, 0, none⟩] w fun e w' => e = .returned (.tuple #[]) ∧ Ring w' K m size (mv p es) (mv p ss) ∧ Fr w w' (K :: es) ∧ w'.heap.size = w.heap.size := by
  by_cases hl : p + 1 = es.length
  · have hkb := h.kb
    have hf := h.eb p hp
    have e1 : nodeB K es es.length = ⟨es.getD p 0, 0, none⟩ := by unfold nodeB; rw [if_neg (by omega), show es.length - 1 = p by omega]
    have e2 : nodeAt K es (p + 1) = ⟨K, 1, none⟩ := by unfold nodeAt; rw [if_neg (by omega)]
    rw [e1] at hkb
    rw [e2] at hf
    refine (toback_last K _ _ _ _ m _ size (by omega) w hkb hf).mono ?_
    rintro e w' ⟨rfl, rfl⟩
    refine ⟨rfl, ?_, Fr.refl _ _, rfl⟩
    rw [mv_last hl, mv_last (by rw [h.len]; exact hl)]
    exact h
  · refine (h.move_walk hn p (by omega)).mono ?_
    rintro e w' ⟨rfl, rfl⟩
    exact ⟨rfl, h.moved p (by omega)⟩

end Go.Proofs.Ybulkciry
