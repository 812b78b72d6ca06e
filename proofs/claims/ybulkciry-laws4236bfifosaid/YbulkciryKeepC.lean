/-
  'keptStatements.keep' AGAINST THE STATE BETWEEN TWO STEPS.
-/
import Derived.Test.YbulkciryKeepB
namespace Go.Proofs.Ybulkciry
open Go.RowKit Go.Maps
set_option maxRecDepth 100000
set_option linter.unusedVariables false

theorem MapIs.made (w : World) : MapIs (w.alloc (.map #[] 0)) w.heap.size 0 [] :=
  ⟨.map [], World.ownsMap_made w Yba.prog 9 rdP, rfl, fun t b h => by simp at h, fun t _ => rfl⟩

/-- From the walk's end to the state. -/
theorem Post.kept {A : Nat} {T : Nat → ByteArray} {w W1 w' : World} {K M n g e0 id : Nat} {es ss ids : List Nat} (h : Post W1.drew w' K M n g e0 (tot T ids) (T id) es ss (pairs T ids es))
    (hf : FrK A w W1) (hg : SB W1 g (T id)) (hkind : ∀ b ∈ K :: es, ∃ (cs : Array Value) (ty : TypeId) (z : Nat × Nat), W1.heap[b]? = some (.cells cs ty z) ∧ (ty = 28 ∨ ty = 32)) (hA : A ≤ W1.heap.size) (he0 : A ≤ e0)
    (hl : ids.length = es.length) (hs : ss.length = es.length) (hsb : ∀ i, i < es.length → SB W1 (ss.getD i 0) (T (ids.getD i 0)))
    (hnd : ids.Nodup) (hid : id ∉ ids) (hinj : ∀ i ∈ ids, ∀ j ∈ ids, T i = T j → i = j) (hinj2 : ∀ i ∈ ids, T i ≠ T id) (hle : ∀ i ∈ ids, (T i).size ≤ 65536) (hle2 : (T id).size ≤ 65536)
    (aK : A ≤ K) (aM : A ≤ M) (aes : ∀ e ∈ es, A ≤ e) :
    Kept A T w' K M (n + 1) (es ++ [e0]) (ss ++ [g]) (ids ++ [id]) ∧ FrK A w w' ∧ SB w' g (T id) := by
  obtain ⟨w2, w3, r1, r2, r3, r4, rfl⟩ := h
  have hf2 : FrK A W1 w2 := (FrK.refl A W1).drew.trans (FrK.of_fr r2 hA (fun b hb => ⟨by
    rcases List.mem_cons.1 hb with rfl | hb
    · exact aK
    · exact aes b hb, hkind b hb⟩))
  obtain ⟨k1, k2⟩ := Kept.add (A := A) (T := T) (w0 := w) (w1 := W1) (m := .pointer none) (size := 0) (id := id) (g := g) r1 r3 r4 hl hs (fun i hi => (hsb i hi).of hf2) (hg.of hf2) hnd hid hinj hinj2 hle hle2 aK aM aes he0
  exact ⟨k1, (hf.trans hf2).trans k2, (hg.of hf2).of k2⟩

theorem trim_nodup {T : Nat → ByteArray} {n : Nat} : ∀ (ids : List Nat), ids.Nodup → (trim T n ids).Nodup
  | [], h => h
  | i :: l, h => by
    unfold trim
    split
    · exact trim_nodup l (List.nodup_cons.1 h).2
    · exact h

theorem KS.keep {A : Nat} {T : Nat → ByteArray} {w : World} {K c : Nat} {ids ss : List Nat} (h : KS A T w K c ids ss) (hc : c ≤ 999) (id : Nat) (hid : id ∉ ids) (hnew : ∀ i ∈ ids, T i ≠ T id) (ht : (T id).size ≤ 65536) :
    Calls Yba.prog 15 #[ptr ⟨K, 0, none⟩, .string (T id)] w fun e w' => e = .returned (ptr ⟨w.heap.size, 0, none⟩) ∧ SB w' w.heap.size (T id) ∧ (∃ ss', KS A T w' K (c + 1) (trim T (T id).size ids ++ [id]) (ss' ++ [w.heap.size])) ∧ FrK A w w' := by
  obtain ⟨hA, ⟨rfl, rfl, hkb⟩ | ⟨M, n, es, hk, k1, k2⟩⟩ := h
  · have hlt := hkb.lt
    have hne : ¬ K = w.heap.size := by omega
    obtain ⟨W1, hW⟩ : ∃ W1, W1 = (((w.setCell ⟨K, 0, none⟩ (.map (some (w.heap.size + 1)))).alloc (.cells #[.string (T id), .slice none 0 0, .pointer none, .slice none 0 0] 39)).alloc (.map #[] 0)) := ⟨_, rfl⟩
    have hkb1 : KB W1 K (.map (some (w.heap.size + 1))) (.pointer none) (.pointer none) 0 0 := by rw [hW]; exact ((hkb.map _).alloc _).alloc _
    have hf1 : FrK A w W1 := by
      rw [hW]
      have := FrK.setK hkb hA 0 (.map (some (w.heap.size + 1)))
      exact (this.alloc (by simp; omega) _).alloc (by simp; omega) _
    have hsb1 : SB W1 w.heap.size (T id) := by
      rw [hW]
      unfold SB
      rw [heap_alloc_old _ _ (by simp)]
      have := heap_alloc_new (w.setCell ⟨K, 0, none⟩ (.map (some (w.heap.size + 1)))) (.cells #[.string (T id), .slice none 0 0, .pointer none, .slice none 0 0] 39)
      simpa using this
    have hmp1 : MapIs W1 (w.heap.size + 1) 0 [] := by
      have := MapIs.made ((w.setCell ⟨K, 0, none⟩ (.map (some (w.heap.size + 1)))).alloc (.cells #[.string (T id), .slice none 0 0, .pointer none, .slice none 0 0] 39))
      rw [hW]
      simpa using this
    have hsz : W1.heap.size = w.heap.size + 2 := by rw [hW]; simp
    have hpre : Pre W1.drew K (w.heap.size + 1) 0 w.heap.size (w.heap.size + 2) 0 (T id) [] [] [] := by
      refine ⟨(Ring_first (w := W1.drew) hkb1 w.heap.size).mono (fun e w' hp => ?_), hkb1.cells.1.1, fun w2 hf2 => ?_⟩
      · have e1 : W1.drew.heap.size = w.heap.size + 2 := hsz
        rw [e1] at hp
        exact ⟨hp.1, hp.2.1, hp.2.2.1⟩
      · have hm2 : MapIs w2 (w.heap.size + 1) 0 [] := hmp1.of_block (hf2.block _ (show w.heap.size + 1 < W1.heap.size by omega) (by simp; omega))
        exact hm2.store (by unfold maxLen; omega) (by unfold maxLen; omega) (by simp) _
    refine (keep_fresh hkb (by omega) W1 hW _ hpre).mono ?_
    rintro e w' ⟨rfl, hp⟩
    have hp' : Post W1.drew w' K (w.heap.size + 1) 0 w.heap.size (w.heap.size + 2) (tot T []) (T id) [] [] (pairs T [] []) := hp
    have hkind : ∀ b ∈ [K], ∃ (cs : Array Value) (ty : TypeId) (z : Nat × Nat), W1.heap[b]? = some (.cells cs ty z) ∧ (ty = 28 ∨ ty = 32) := by
      intro b hb
      obtain rfl : b = K := by simpa using hb
      exact ⟨_, _, _, hkb1, .inr rfl⟩
    obtain ⟨r1, r2, r3⟩ := hp'.kept hf1 hsb1 hkind (by omega) (by omega) rfl rfl (fun i hi => by simp at hi) (by simp) (by simp) (by simp) (by simp) (by simp) ht hA (by omega) (by simp)
    exact ⟨rfl, r3, ⟨[], hA, .inr ⟨_, _, _, r1, by omega, by simp⟩⟩, r2⟩
  · refine (keep_kept (t := T id) hk (by omega) (by omega) hnew ht).mono ?_
    rintro e w' ⟨rfl, W1, es1, ss1, ⟨q1, q2, q3, q4, q5, q6⟩, hp⟩
    have hltK := q1.ring.kb.lt
    have haK := q1.aK
    obtain ⟨r1, r2, r3⟩ := hp.kept q5 q6 (fun b hb => q1.ring.kind hb) (by omega) (by omega) q1.len q1.ring.len q1.sb q1.nodup (fun hm => hid (q3 _ hm)) q1.inj (fun i hi => hnew i (q3 i hi)) q1.le ht q1.aK q1.aM q1.aes
    exact ⟨rfl, r3, ⟨ss1, hA, .inr ⟨M, n + 1, _, r1, by omega, by simp; omega⟩⟩, r2⟩

end Go.Proofs.Ybulkciry
