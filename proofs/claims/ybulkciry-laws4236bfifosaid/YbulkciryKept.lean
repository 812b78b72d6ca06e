/-
  WHAT THE LIST, THE MAP AND THE STATEMENTS ARE BETWEEN TWO STEPS OF 'engine.LawS4236BFifo'.
-/
import Derived.Test.YbulkciryFind
namespace Go.Proofs.Ybulkciry
open Go.RowKit Go.Maps Go.WideMaps Go.ChangeMaps
set_option maxRecDepth 100000
set_option linter.unusedVariables false

/-- A statement's block. -/
def SB (w : World) (s : Nat) (t : ByteArray) : Prop :=
  w.heap[s]? = some (.cells #[.string t, .slice none 0 0, .pointer none, .slice none 0 0] 39 (0, 0))

theorem SB.cells {w : World} {s : Nat} {t : ByteArray} (h : SB w s t) :
    w.cell? ⟨s, 0, none⟩ = some (.string t) ∧ w.cell? ⟨s, 1, none⟩ = some (.slice none 0 0) ∧ w.cell? ⟨s, 2, none⟩ = some (.pointer none) ∧ w.cell? ⟨s, 3, none⟩ = some (.slice none 0 0) := by
  refine ⟨?_, ?_, ?_, ?_⟩
  all_goals (rw [cell_of_row _ _ _ _ _ _ h]; rfl)

/-- Below A nothing has turned; no row of another type than the list's own has turned. -/
structure FrK (A : Nat) (w w' : World) : Prop where
  below : Below A w w'
  row : ∀ (b : Nat) (cs : Array Value) (T : TypeId) (z : Nat × Nat), w.heap[b]? = some (.cells cs T z) → T ≠ 28 → T ≠ 32 → w'.heap[b]? = some (.cells cs T z)
theorem FrK.refl (A : Nat) (w : World) : FrK A w w := ⟨Below.refl _ _, fun _ _ _ _ h _ _ => h⟩
theorem FrK.trans {A : Nat} {a b c : World} (h : FrK A a b) (k : FrK A b c) : FrK A a c :=
  ⟨h.below.trans k.below, fun x cs T z hx h1 h2 => k.row x cs T z (h.row x cs T z hx h1 h2) h1 h2⟩
theorem FrK.drew {A : Nat} {a b : World} (h : FrK A a b) : FrK A a b.drew := ⟨h.below.drew, h.row⟩
theorem lt_of_get {w : World} {b : Nat} {o : Obj} (h : w.heap[b]? = some o) : b < w.heap.size := (Array.getElem?_eq_some_iff.1 h).1
theorem FrK.alloc {A : Nat} {a b : World} (h : FrK A a b) (hA : A ≤ b.heap.size) (o : Obj) : FrK A a (b.alloc o) :=
  ⟨h.below.alloc hA o, fun x cs T z hx h1 h2 => by
    have := h.row x cs T z hx h1 h2
    rw [heap_alloc_old _ _ (lt_of_get this)]; exact this⟩
theorem FrK.of_fr {A : Nat} {w w' : World} {bs : List Nat} (h : Fr w w' bs) (hA : A ≤ w.heap.size) (hb : ∀ b ∈ bs, A ≤ b ∧ ∃ (cs : Array Value) (T : TypeId) (z : Nat × Nat), w.heap[b]? = some (.cells cs T z) ∧ (T = 28 ∨ T = 32)) : FrK A w w' :=
  ⟨⟨h.os, h.tape, h.output, h.size, fun k hk => h.block k (by omega) (fun hm => by have := (hb k hm).1; omega)⟩, fun x cs T z hx h1 h2 => by
    rw [h.block x (lt_of_get hx) (fun hm => ?_)]
    · exact hx
    · obtain ⟨_, cs', T', z', e, hT⟩ := hb x hm
      rw [hx] at e
      obtain ⟨_, rfl, _⟩ : cs = cs' ∧ T = T' ∧ z = z' := by simpa using e
      rcases hT with hT | hT
      · exact h1 hT
      · exact h2 hT⟩
theorem FrK.turned {A : Nat} {w w' : World} {M : Nat} (h : w.mapTurned w' M) (hM : A ≤ M) : FrK A w w' := by
  obtain ⟨es, cl, es', cl', hb, rfl⟩ := h
  refine ⟨⟨rfl, rfl, rfl, by simp [setBlock], fun k hk => heap_setBlock_other hb _ (by omega)⟩, fun x cs T z hx _ _ => ?_⟩
  rw [heap_setBlock_other hb _ (fun e => ?_)]
  · exact hx
  · rw [e, hb] at hx; simp at hx
theorem FrK.setK {A : Nat} {w : World} {K : Nat} {m nx pv : Value} {len size : Int} (h : KB w K m nx pv len size) (hK : A ≤ K) (o : Nat) (v : Value) : FrK A w (w.setCell ⟨K, o, none⟩ v) :=
  ⟨(Below.refl _ _).setCell hK v, fun x cs T z hx _ h2 => by
    rw [heap_setCell_other _ _ _ _ (fun e => ?_)]
    · exact hx
    · simp at e
      unfold KB at h
      rw [e, h] at hx
      simp at hx
      exact h2 hx.2.1.symm⟩

theorem SB.of {A : Nat} {w w' : World} {s : Nat} {t : ByteArray} (h : SB w s t) (hf : FrK A w w') : SB w' s t := hf.row _ _ _ _ h (by decide) (by decide)

/-- The lengths' sum. -/
def tot (T : Nat → ByteArray) : List Nat → Nat
  | [] => 0
  | i :: l => (T i).size + tot T l
/-- Text and element, in the ring's order. -/
def pairs (T : Nat → ByteArray) : List Nat → List Nat → List (List UInt8 × Nat)
  | i :: ids, e :: es => ((T i).data.toList, e) :: pairs T ids es
  | _, _ => []
/-- The texts used longest ago go, until a text of length n fits. -/
def trim (T : Nat → ByteArray) (n : Nat) : List Nat → List Nat
  | [] => []
  | i :: l => if 65536 < tot T (i :: l) + n then trim T n l else i :: l

theorem pairs_length (T : Nat → ByteArray) : ∀ (ids es : List Nat), ids.length = es.length → (pairs T ids es).length = es.length
  | [], [], _ => rfl
  | [], _ :: _, h => by simp at h
  | _ :: _, [], h => by simp at h
  | i :: ids, e :: es, h => by simp [pairs, pairs_length T ids es (by simpa using h)]
theorem pairs_mem (T : Nat → ByteArray) (t : List UInt8) (b : Nat) : ∀ (ids es : List Nat), ids.length = es.length → ((t, b) ∈ pairs T ids es ↔ ∃ i, i < es.length ∧ t = (T (ids.getD i 0)).data.toList ∧ b = es.getD i 0)
  | [], [], _ => by simp [pairs]
  | [], _ :: _, h => by simp at h
  | _ :: _, [], h => by simp at h
  | i :: ids, e :: es, h => by
    simp only [pairs, List.mem_cons]
    rw [pairs_mem T t b ids es (by simpa using h)]
    constructor
    · rintro (h1 | ⟨j, hj, h1, h2⟩)
      · simp at h1; exact ⟨0, by simp, h1.1, h1.2⟩
      · exact ⟨j + 1, by simpa using hj, h1, h2⟩
    · rintro ⟨j, hj, h1, h2⟩
      cases j with
      | zero => left; rw [h1, h2]; rfl
      | succ j => right; exact ⟨j, by simpa using hj, h1, h2⟩
theorem pairs_append (T : Nat → ByteArray) (i e : Nat) : ∀ (ids es : List Nat), ids.length = es.length → pairs T (ids ++ [i]) (es ++ [e]) = pairs T ids es ++ [((T i).data.toList, e)]
  | [], [], _ => rfl
  | [], _ :: _, h => by simp at h
  | _ :: _, [], h => by simp at h
  | _ :: ids, _ :: es, h => by simp [pairs, pairs_append T i e ids es (by simpa using h)]
theorem tot_append (T : Nat → ByteArray) (l m : List Nat) : tot T (l ++ m) = tot T l + tot T m := by
  induction l with
  | nil => simp [tot]
  | cons a l ih => simp [tot, ih]; omega
theorem bytes_inj {a b : ByteArray} (h : a.data.toList = b.data.toList) : a = b := by
  cases a; cases b; simp at h; rw [h]
theorem pairs_congr {T T' : Nat → ByteArray} : ∀ (ids es : List Nat), (∀ i ∈ ids, T i = T' i) → pairs T ids es = pairs T' ids es
  | [], _, _ => by simp [pairs]
  | _ :: _, [], _ => by simp [pairs]
  | i :: ids, e :: es, h => by simp [pairs, h i (by simp), pairs_congr ids es (fun j hj => h j (by simp [hj]))]
theorem tot_congr {T T' : Nat → ByteArray} : ∀ (ids : List Nat), (∀ i ∈ ids, T i = T' i) → tot T ids = tot T' ids
  | [], _ => rfl
  | i :: ids, h => by simp [tot, h i (by simp), tot_congr ids (fun j hj => h j (by simp [hj]))]

theorem MapIs.of_block {w w' : World} {M n : Nat} {mp : List (List UInt8 × Nat)} (h : MapIs w M n mp) (e : w'.heap[M]? = w.heap[M]?) : MapIs w' M n mp := by
  obtain ⟨D, ⟨es, cl, hb, r⟩, h2⟩ := h
  exact ⟨D, ⟨es, cl, by rw [e]; exact hb, r⟩, h2⟩
theorem MapIs.block {w : World} {M n : Nat} {mp : List (List UInt8 × Nat)} (h : MapIs w M n mp) : ∃ es cl, w.heap[M]? = some (.map es cl) := by
  obtain ⟨D, ⟨es, cl, hb, r⟩, h2⟩ := h
  exact ⟨es, cl, hb⟩
theorem MapIs.congr {w : World} {M n : Nat} {mp mp' : List (List UInt8 × Nat)} (h : MapIs w M n mp) (hl : mp'.length = mp.length) (hm : ∀ t b, (t, b) ∈ mp' ↔ (t, b) ∈ mp) : MapIs w M n mp' := by
  obtain ⟨D, h1, h2, h3, h4⟩ := h
  exact ⟨D, h1, by rw [h2, hl], fun t b hb => h3 t b ((hm t b).1 hb), fun t hno => h4 t (fun b hb => hno b ((hm t b).2 hb))⟩
theorem MapIs.mono {w : World} {M n n' : Nat} {mp : List (List UInt8 × Nat)} (h : MapIs w M n mp) (hn : n ≤ n') : MapIs w M n' mp := by
  obtain ⟨D, h1, h2⟩ := h
  exact ⟨D, h1.mono hn, h2⟩

theorem Ring.of_blocks {w w' : World} {K : Nat} {m : Value} {size : Int} {es ss : List Nat} (h : Ring w K m size es ss) (he : ∀ b, b ∈ K :: es → w'.heap[b]? = w.heap[b]?) : Ring w' K m size es ss :=
  ⟨h.len, h.nodup, by have := h.kb; unfold KB at *; rw [he _ (by simp)]; exact this, fun i hi => by
    have := h.eb i hi; unfold EB at *; rw [he _ (List.mem_cons_of_mem _ (getD_mem0 hi))]; exact this⟩
theorem Ring.setSize {w : World} {K : Nat} {m : Value} {size : Int} {es ss : List Nat} (h : Ring w K m size es ss) (n : Int) : Ring (w.setCell ⟨K, 6, none⟩ (.int .i64 n)) K m n es ss :=
  ⟨h.len, h.nodup, h.kb.size n, fun i hi => (h.eb i hi).other (fun e => (h.not_mem (getD_mem0 hi)).2 e) _⟩
theorem Ring.kind {w : World} {K : Nat} {m : Value} {size : Int} {es ss : List Nat} (h : Ring w K m size es ss) {b : Nat} (hb : b ∈ K :: es) : ∃ (cs : Array Value) (T : TypeId) (z : Nat × Nat), w.heap[b]? = some (.cells cs T z) ∧ (T = 28 ∨ T = 32) := by
  rcases List.mem_cons.1 hb with rfl | hb
  · exact ⟨_, _, _, h.kb, .inr rfl⟩
  · obtain ⟨i, hi, rfl⟩ := List.mem_iff_getElem.1 hb
    have he := h.eb i hi
    have e : es.getD i 0 = es[i] := by rw [List.getD_eq_getElem?_getD, List.getElem?_eq_getElem hi]; simp
    rw [e] at he
    exact ⟨_, _, _, he, .inl rfl⟩

structure Kept (A : Nat) (T : Nat → ByteArray) (w : World) (K M n : Nat) (es ss ids : List Nat) : Prop where
  ring : Ring w K (.map (some M)) (tot T ids) es ss
  mp : MapIs w M n (pairs T ids es)
  len : ids.length = es.length
  sb : ∀ i, i < es.length → SB w (ss.getD i 0) (T (ids.getD i 0))
  nodup : ids.Nodup
  inj : ∀ i ∈ ids, ∀ j ∈ ids, T i = T j → i = j
  le : ∀ i ∈ ids, (T i).size ≤ 65536
  aK : A ≤ K
  aM : A ≤ M
  aes : ∀ e ∈ es, A ≤ e

/-- The map's block is none of the ring's. -/
theorem Kept.apart {A : Nat} {T : Nat → ByteArray} {w : World} {K M n : Nat} {es ss ids : List Nat} (h : Kept A T w K M n es ss ids) : M ∉ K :: es := by
  intro hm
  obtain ⟨cs, t, z, e, _⟩ := h.ring.kind hm
  obtain ⟨es', cl, e'⟩ := h.mp.block
  rw [e] at e'
  simp at e'

/-- As long as the ring's and the map's blocks, and the statements, stay. -/
theorem Kept.of {A : Nat} {T : Nat → ByteArray} {w w' : World} {K M n : Nat} {es ss ids : List Nat} (h : Kept A T w K M n es ss ids) (hb : ∀ b, b < w.heap.size → w'.heap[b]? = w.heap[b]?) : Kept A T w' K M n es ss ids := by
  refine ⟨h.ring.of_blocks (fun b hm => ?_), h.mp.of_block ?_, h.len, fun i hi => ?_, h.nodup, h.inj, h.le, h.aK, h.aM, h.aes⟩
  · obtain ⟨cs, t, z, e, _⟩ := h.ring.kind hm
    exact hb b (lt_of_get e)
  · obtain ⟨es', cl, e'⟩ := h.mp.block
    exact hb _ (lt_of_get e')
  · have := h.sb i hi
    unfold SB at *
    rw [hb _ (lt_of_get this)]; exact this

/-- The same where only other rows turn. -/
theorem Kept.other {A : Nat} {T : Nat → ByteArray} {w w' : World} {K M n : Nat} {es ss ids : List Nat} (h : Kept A T w K M n es ss ids) {X : Nat} {cs : Array Value} {ty : TypeId} {z : Nat × Nat} (hX : w.heap[X]? = some (.cells cs ty z)) (h1 : ty ≠ 28) (h2 : ty ≠ 32) (h3 : ty ≠ 39) (hb : ∀ b, b < w.heap.size → b ≠ X → w'.heap[b]? = w.heap[b]?) : Kept A T w' K M n es ss ids := by
  refine ⟨h.ring.of_blocks (fun b hm => ?_), h.mp.of_block ?_, h.len, fun i hi => ?_, h.nodup, h.inj, h.le, h.aK, h.aM, h.aes⟩
  · obtain ⟨cs', t, z', e, ht⟩ := h.ring.kind hm
    refine hb b (lt_of_get e) (fun eX => ?_)
    rw [eX, hX] at e
    simp at e
    rcases ht with ht | ht
    · exact h1 (e.2.1.trans ht)
    · exact h2 (e.2.1.trans ht)
  · obtain ⟨es', cl, e'⟩ := h.mp.block
    refine hb _ (lt_of_get e') (fun eX => ?_)
    rw [eX, hX] at e'
    simp at e'
  · have := h.sb i hi
    unfold SB at *
    rw [hb _ (lt_of_get this) (fun eX => ?_)]
    · exact this
    · rw [eX, hX] at this
      simp at this
      exact h3 this.2.1

theorem Kept.congr {A : Nat} {T T' : Nat → ByteArray} {w : World} {K M n : Nat} {es ss ids : List Nat} (h : Kept A T w K M n es ss ids) (hT : ∀ i ∈ ids, T i = T' i) : Kept A T' w K M n es ss ids := by
  refine ⟨?_, ?_, h.len, fun i hi => ?_, h.nodup, fun i hi j hj e => h.inj i hi j hj (by rw [hT i hi, hT j hj]; exact e), fun i hi => by rw [← hT i hi]; exact h.le i hi, h.aK, h.aM, h.aes⟩
  · rw [← tot_congr ids hT]; exact h.ring
  · rw [← pairs_congr ids es hT]; exact h.mp
  · rw [← hT _ (getD_mem0 (by rw [h.len]; exact hi))]; exact h.sb i hi

/-- Between two steps: the zero list, or Kept; c: how often 'keep' has been called, at most. -/
def KS (A : Nat) (T : Nat → ByteArray) (w : World) (K c : Nat) (ids ss : List Nat) : Prop :=
  A ≤ K ∧ ((ids = [] ∧ ss = [] ∧ KB w K (.map none) (.pointer none) (.pointer none) 0 0) ∨ ∃ M n es, Kept A T w K M n es ss ids ∧ n ≤ c ∧ es.length ≤ c)

theorem KS.of {A : Nat} {T : Nat → ByteArray} {w w' : World} {K c : Nat} {ids ss : List Nat} (h : KS A T w K c ids ss) (hb : ∀ b, b < w.heap.size → w'.heap[b]? = w.heap[b]?) : KS A T w' K c ids ss := by
  obtain ⟨hA, h | ⟨M, n, es, hk, h1, h2⟩⟩ := h
  · exact ⟨hA, .inl ⟨h.1, h.2.1, by have := h.2.2; have hl := this.lt; unfold KB at *; rw [hb _ hl]; exact this⟩⟩
  · exact ⟨hA, .inr ⟨M, n, es, hk.of hb, h1, h2⟩⟩
theorem KS.other {A : Nat} {T : Nat → ByteArray} {w w' : World} {K c : Nat} {ids ss : List Nat} (h : KS A T w K c ids ss) {X : Nat} {cs : Array Value} {ty : TypeId} {z : Nat × Nat} (hX : w.heap[X]? = some (.cells cs ty z)) (h1 : ty ≠ 28) (h2 : ty ≠ 32) (h3 : ty ≠ 39) (hb : ∀ b, b < w.heap.size → b ≠ X → w'.heap[b]? = w.heap[b]?) : KS A T w' K c ids ss := by
  obtain ⟨hA, h | ⟨M, n, es, hk, k1, k2⟩⟩ := h
  · refine ⟨hA, .inl ⟨h.1, h.2.1, ?_⟩⟩
    have := h.2.2
    have hl := this.lt
    unfold KB at *
    rw [hb _ hl (fun eX => ?_)]
    · exact this
    · rw [eX, hX] at this
      simp at this
      exact h2 this.2.1
  · exact ⟨hA, .inr ⟨M, n, es, hk.other hX h1 h2 h3 hb, k1, k2⟩⟩
theorem KS.congr {A : Nat} {T T' : Nat → ByteArray} {w : World} {K c : Nat} {ids ss : List Nat} (h : KS A T w K c ids ss) (hT : ∀ i ∈ ids, T i = T' i) : KS A T' w K c ids ss := by
  obtain ⟨hA, h | ⟨M, n, es, hk, k1, k2⟩⟩ := h
  · exact ⟨hA, .inl h⟩
  · exact ⟨hA, .inr ⟨M, n, es, hk.congr hT, k1, k2⟩⟩
theorem KS.mono {A : Nat} {T : Nat → ByteArray} {w : World} {K c c' : Nat} {ids ss : List Nat} (h : KS A T w K c ids ss) (hc : c ≤ c') : KS A T w K c' ids ss := by
  obtain ⟨hA, h | ⟨M, n, es, hk, k1, k2⟩⟩ := h
  · exact ⟨hA, .inl h⟩
  · exact ⟨hA, .inr ⟨M, n, es, hk, by omega, by omega⟩⟩

end Go.Proofs.Ybulkciry
