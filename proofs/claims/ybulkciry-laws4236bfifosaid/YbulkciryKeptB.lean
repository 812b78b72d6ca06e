/-
  'find' AND 'Back' AGAINST THE STATE BETWEEN TWO STEPS OF 'engine.LawS4236BFifo'.
-/
import Derived.Test.YbulkciryKept
namespace Go.Proofs.Ybulkciry
open Go.RowKit
set_option maxRecDepth 100000
set_option linter.unusedVariables false

theorem erase_perm : ∀ (p : Nat) (l : List Nat), p < l.length → (l.getD p 0 :: l.eraseIdx p).Perm l
  | _, [], h => by simp at h
  | 0, a :: l, _ => by simp
  | p + 1, a :: l, h => by
    have := erase_perm p l (by simpa using h)
    have e1 : (a :: l).getD (p + 1) 0 = l.getD p 0 := rfl
    have e2 : (a :: l).eraseIdx (p + 1) = a :: l.eraseIdx p := rfl
    rw [e1, e2]
    exact (List.Perm.swap _ _ _).trans (this.cons a)
theorem mv_perm {p : Nat} {l : List Nat} (hp : p < l.length) : (mv p l).Perm l :=
  List.perm_append_comm.trans (erase_perm p l hp)
theorem tot_perm (T : Nat → ByteArray) {l m : List Nat} (h : l.Perm m) : tot T l = tot T m := by
  induction h with
  | nil => rfl
  | cons x _ ih => simp [tot, ih]
  | swap x y l => simp [tot]; omega
  | trans _ _ h1 h2 => rw [h1, h2]

theorem pairs_mv (T : Nat → ByteArray) {p : Nat} {ids es : List Nat} (hl : ids.length = es.length) (hp : p < es.length) (t : List UInt8) (b : Nat) : (t, b) ∈ pairs T (mv p ids) (mv p es) ↔ (t, b) ∈ pairs T ids es := by
  have hp' : p < ids.length := by omega
  rw [pairs_mem T t b _ _ (by rw [mv_length hp, mv_length hp', hl]), pairs_mem T t b _ _ hl, mv_length hp]
  constructor
  · rintro ⟨i, hi, h1, h2⟩
    refine ⟨sg es.length p i, sg_lt hp hi, ?_, ?_⟩
    · rw [h1, mv_getD hp' (by omega), hl]
    · rw [h2, mv_getD hp hi]
  · rintro ⟨i, hi, h1, h2⟩
    obtain ⟨j, hj, e⟩ : ∃ j, j < es.length ∧ sg es.length p j = i := by
      by_cases h : i = p
      · exact ⟨es.length - 1, by omega, by unfold sg; rw [if_neg (by omega), h]⟩
      · by_cases h' : i < p
        · exact ⟨i, hi, by unfold sg; rw [if_pos (by omega), if_pos h']⟩
        · exact ⟨i - 1, by omega, by unfold sg; rw [if_pos (by omega), if_neg (by omega)]; omega⟩
    refine ⟨j, hj, ?_, ?_⟩
    · rw [h1, mv_getD hp' (by omega), hl, e]
    · rw [h2, mv_getD hp hj, e]

theorem Kept.find {A : Nat} {T : Nat → ByteArray} {w : World} {K M n : Nat} {es ss ids : List Nat} (h : Kept A T w K M n es ss ids) (hn : es.length ≤ 1000) (p : Nat) (hp : p < ids.length) :
    Calls Yba.prog 6 #[ptr ⟨K, 0, none⟩, .string (T (ids.getD p 0))] w fun e w' => ∃ s, e = .returned (ptr ⟨s, 0, none⟩) ∧ SB w' s (T (ids.getD p 0)) ∧ Kept A T w' K M n (mv p es) (mv p ss) (mv p ids) ∧ FrK A w w' ∧ w'.heap.size = w.heap.size := by
  have hp' : p < es.length := by rw [← h.len]; exact hp
  have hps : p < ss.length := by rw [h.ring.len]; exact hp'
  have hle := h.le _ (getD_mem0 hp)
  refine (find_in h.ring hn h.mp (by unfold maxLen; omega) p _ _ hp' rfl rfl ((pairs_mem T _ _ _ _ h.len).2 ⟨p, hp', rfl, rfl⟩)).mono ?_
  rintro e w' ⟨rfl, hr, hf, hsz⟩
  have hfk : FrK A w w' := FrK.of_fr hf (Nat.le_trans h.aK (Nat.le_of_lt h.ring.kb.lt)) (fun b hb => ⟨by
    rcases List.mem_cons.1 hb with rfl | hb
    · exact h.aK
    · exact h.aes b hb, h.ring.kind hb⟩)
  obtain ⟨es', cl, hM⟩ := h.mp.block
  refine ⟨_, rfl, (h.sb p hp').of hfk, ?_, hfk, hsz⟩
  refine ⟨?_, ?_, ?_, ?_, mv_nodup hp h.nodup, ?_, ?_, h.aK, h.aM, ?_⟩
  · rw [tot_perm T (mv_perm hp)]; exact hr
  · refine (h.mp.of_block (hf.block M (lt_of_get hM) h.apart)).congr ?_ (pairs_mv T h.len hp')
    rw [pairs_length _ _ _ h.len, pairs_length _ _ _ (by rw [mv_length hp, mv_length hp', h.len]), mv_length hp']
  · rw [mv_length hp, mv_length hp', h.len]
  · intro i hi
    rw [mv_length hp'] at hi
    rw [mv_getD hps (by rw [h.ring.len]; exact hi), mv_getD hp (by rw [h.len]; exact hi), h.ring.len, h.len]
    exact (h.sb _ (sg_lt hp' hi)).of hfk
  · intro i hi j hj
    exact h.inj i ((mv_perm hp).mem_iff.1 hi) j ((mv_perm hp).mem_iff.1 hj)
  · intro i hi
    exact h.le i ((mv_perm hp).mem_iff.1 hi)
  · intro e he
    exact h.aes e ((mv_perm hp').mem_iff.1 he)

theorem KS.find {A : Nat} {T : Nat → ByteArray} {w : World} {K c : Nat} {ids ss : List Nat} (h : KS A T w K c ids ss) (hc : c ≤ 1000) (p : Nat) (hp : p < ids.length) :
    Calls Yba.prog 6 #[ptr ⟨K, 0, none⟩, .string (T (ids.getD p 0))] w fun e w' => ∃ s, e = .returned (ptr ⟨s, 0, none⟩) ∧ SB w' s (T (ids.getD p 0)) ∧ KS A T w' K c (mv p ids) (mv p ss) ∧ FrK A w w' := by
  obtain ⟨hA, ⟨rfl, _⟩ | ⟨M, n, es, hk, k1, k2⟩⟩ := h
  · simp at hp
  · refine (hk.find (by omega) p hp).mono ?_
    rintro e w' ⟨s, rfl, hs, hk', hf, _⟩
    exact ⟨s, rfl, hs, ⟨hA, .inr ⟨M, n, _, hk', k1, by rw [mv_length (by rw [← hk.len]; exact hp)]; exact k2⟩⟩, hf⟩

theorem KS.find_no {A : Nat} {T : Nat → ByteArray} {w : World} {K c : Nat} {ids ss : List Nat} (h : KS A T w K c ids ss) (t : ByteArray) (ht : t.size ≤ 1000000) (hno : ∀ i ∈ ids, T i ≠ t) :
    Calls Yba.prog 6 #[ptr ⟨K, 0, none⟩, .string t] w fun e w' => e = .returned (.pointer none) ∧ w' = w := by
  obtain ⟨hA, ⟨rfl, rfl, hkb⟩ | ⟨M, n, es, hk, k1, k2⟩⟩ := h
  · exact find_nil hkb (by unfold maxLen; omega)
  · refine find_out hk.ring.kb hk.mp (by unfold maxLen; omega) (fun b hb => ?_)
    obtain ⟨i, hi, h1, _⟩ := (pairs_mem T _ _ _ _ hk.len).1 hb
    exact hno _ (getD_mem0 (by rw [hk.len]; exact hi)) (bytes_inj h1).symm

/-- Back: the statement that was kept last. -/
theorem KS.back {A : Nat} {T : Nat → ByteArray} {w : World} {K c : Nat} {ids ss : List Nat} {g : Nat} (h : KS A T w K c ids (ss ++ [g])) :
    Calls Yba.prog 11 #[ptr ⟨K, 1, none⟩] w fun e w' => ∃ b, e = .returned (ptr ⟨b, 0, none⟩) ∧ w' = w ∧ w.cell? ⟨b, 3, none⟩ = some (.iface 35 (ptr ⟨g, 0, none⟩)) := by
  obtain ⟨hA, ⟨_, h0, _⟩ | ⟨M, n, es, hk, k1, k2⟩⟩ := h
  · simp at h0
  · have hl := hk.ring.len
    simp at hl
    have hkb := hk.ring.kb
    have e3 : nodeB K es es.length = ⟨es.getD (es.length - 1) 0, 0, none⟩ := by unfold nodeB; rw [if_neg (by omega)]
    rw [e3] at hkb
    have he := hk.ring.eb (es.length - 1) (by omega)
    have hs : (ss ++ [g]).getD (es.length - 1) 0 = g := by
      rw [show es.length - 1 = ss.length by omega, getD_last]
    rw [hs] at he
    refine (back_some K _ _ _ _ _ (by omega) w hkb).mono ?_
    rintro e w' ⟨rfl, rfl⟩
    exact ⟨_, rfl, rfl, he.cells.1.2.2.2⟩

end Go.Proofs.Ybulkciry
