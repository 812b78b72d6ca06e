/-
  THE STATE OF 'engine.LawS4236BFifo' AT THE HEAD OF ITS LOOP, AND ITS STEPS.
-/
import Derived.Test.YbulkciryIds
import Derived.Test.YbulkciryShelf
namespace Go.Proofs.Ybulkciry
open Go.RowKit
set_option maxRecDepth 100000
set_option linter.unusedVariables false

/-- 'xx..x#' and the digits of id. -/
def IsText (t : ByteArray) (id : Nat) : Prop := ∃ n l, t.data.toList = List.replicate n (120 : UInt8) ++ 35 :: l ∧ val l = id
theorem rep_inj : ∀ (n m : Nat) (a b : List UInt8), List.replicate n (120 : UInt8) ++ 35 :: a = List.replicate m 120 ++ 35 :: b → a = b
  | 0, 0, a, b, h => by simpa using h
  | 0, m + 1, a, b, h => by simp [List.replicate_succ] at h
  | n + 1, 0, a, b, h => by simp [List.replicate_succ] at h
  | n + 1, m + 1, a, b, h => rep_inj n m a b (by simpa [List.replicate_succ] using h)
theorem IsText.inj {t : ByteArray} {i j : Nat} (h : IsText t i) (k : IsText t j) : i = j := by
  obtain ⟨n, a, h1, rfl⟩ := h
  obtain ⟨m, b, h2, rfl⟩ := k
  rw [rep_inj n m a b (by rw [← h1, ← h2])]
theorem repeat_x : ∀ n, Lib.repeatL [120] n = List.replicate n (120 : UInt8)
  | 0 => rfl
  | n + 1 => by simp [Lib.repeatL, repeat_x n, List.replicate_succ]
theorem text_made (n : Nat) (l : List UInt8) : IsText ((⟨(Lib.repeatL [120] n).toArray⟩ : ByteArray) ++ ⟨#[35]⟩ ++ ⟨l.toArray⟩) (val l) ∧ ((⟨(Lib.repeatL [120] n).toArray⟩ : ByteArray) ++ ⟨#[35]⟩ ++ ⟨l.toArray⟩).size = n + 1 + l.length := by
  refine ⟨⟨n, l, ?_, rfl⟩, ?_⟩
  · rw [repeat_x]
    simp [ByteArray.data_append]
  · rw [repeat_x]
    simp [ByteArray.size]
    omega

theorem KS.facts {A : Nat} {T : Nat → ByteArray} {w : World} {K c : Nat} {ids ss : List Nat} (h : KS A T w K c ids ss) : ids.Nodup ∧ (∀ i ∈ ids, (T i).size ≤ 65536) ∧ ids.length ≤ c ∧ K < w.heap.size ∧ A ≤ K ∧ tot T ids ≤ 65536 * c := by
  obtain ⟨hA, ⟨rfl, rfl, hkb⟩ | ⟨M, n, es, hk, k1, k2⟩⟩ := h
  · exact ⟨by simp, by simp, by simp, hkb.lt, hA, by simp [tot]⟩
  · have hl := hk.len
    have ht := tot_le ids hk.le
    exact ⟨hk.nodup, hk.le, by omega, hk.ring.kb.lt, hA, by omega⟩

/-- The texts made so far. -/
abbrev strs (T : Nat → ByteArray) (N : Nat) : List Value := (List.range N).map fun i => .string (T i)

structure St (W0 : World) (T : Nat → ByteArray) (w : World) (K c N : Nat) (ids ss : List Nat) (tv kv : Value) : Prop where
  below : Below W0.heap.size W0 w
  ks : KS W0.heap.size T w K c ids ss
  tx : w.ownsRow W0.heap.size 9 1 tv N (strs T N)
  ki : Ids W0.heap.size w kv ids
  lt : ∀ i ∈ ids, i < N
  text : ∀ i, i < N → IsText (T i) i ∧ (T i).size ≤ 100000

theorem St.fx {ty : TypeId} {W0 : World} {T : Nat → ByteArray} {w w' : World} {K c N : Nat} {ids ss : List Nat} {tv kv : Value} (h : St W0 T w K c N ids ss tv kv) (hf : FrX ty W0.heap.size w w') (h1 : (28 : TypeId) ≠ ty) (h2 : (32 : TypeId) ≠ ty) (h3 : (39 : TypeId) ≠ ty) (h4 : (9 : TypeId) ≠ ty) (h5 : (3 : TypeId) ≠ ty) : St W0 T w' K c N ids ss tv kv :=
  ⟨h.below.trans hf.below, h.ks.fx hf h1 h2 h3, own_fx h.tx hf h4, h.ki.fx hf h5, h.lt, h.text⟩
theorem St.later {W0 : World} {T : Nat → ByteArray} {w w' : World} {K c N : Nat} {ids ss : List Nat} {tv kv : Value} (h : St W0 T w K c N ids ss tv kv) (hb : Below w.heap.size w w') : St W0 T w' K c N ids ss tv kv :=
  h.fx (ty := 0) (FrX.of_below hb h.below.size) (by decide) (by decide) (by decide) (by decide) (by decide)
theorem St.alloc {W0 : World} {T : Nat → ByteArray} {w : World} {K c N : Nat} {ids ss : List Nat} {tv kv : Value} (h : St W0 T w K c N ids ss tv kv) (o : Obj) : St W0 T (w.alloc o) K c N ids ss tv kv := h.later ((Below.refl _ w).alloc (Nat.le_refl _) o)
theorem St.same {W0 : World} {T : Nat → ByteArray} {w w' : World} {K c N : Nat} {ids ss : List Nat} {tv kv : Value} (h : St W0 T w K c N ids ss tv kv) (hs : Same w w') : St W0 T w' K c N ids ss tv kv :=
  h.fx (ty := 0) (FrX.of_same hs) (by decide) (by decide) (by decide) (by decide) (by decide)
theorem St.mono {W0 : World} {T : Nat → ByteArray} {w : World} {K c c' N : Nat} {ids ss : List Nat} {tv kv : Value} (h : St W0 T w K c N ids ss tv kv) (hc : c ≤ c') : St W0 T w K c' N ids ss tv kv := ⟨h.below, h.ks.mono hc, h.tx, h.ki, h.lt, h.text⟩

/-- The texts' slice as the walk takes it. -/
theorem tx_shape {A : Nat} {T : Nat → ByteArray} {w : World} {N : Nat} {tv : Value} (h : w.ownsRow A 9 1 tv N (strs T N)) : ∃ a cap, tv = .slice a N cap ∧ ∀ j, j < N → ∃ g, a = some ⟨g, 0, none⟩ ∧ w.cell? ⟨g, j, none⟩ = some (.string (T j)) := by
  have htx := h
  obtain ⟨h0, ⟨rfl, rfl⟩ | ⟨g, cap, cur, rfl, r⟩⟩ := h
  · exact ⟨none, 0, rfl, fun j hj => by omega⟩
  · refine ⟨_, cap, rfl, fun j hj => ⟨g, rfl, ?_⟩⟩
    rw [htx.cellAt j (by omega)]
    simp [hj]
theorem St.shape {W0 : World} {T : Nat → ByteArray} {w : World} {K c N : Nat} {ids ss : List Nat} {tv kv : Value} (h : St W0 T w K c N ids ss tv kv) : ∃ a cap, tv = .slice a N cap ∧ ∀ j, j < N → ∃ g, a = some ⟨g, 0, none⟩ ∧ w.cell? ⟨g, j, none⟩ = some (.string (T j)) := tx_shape h.tx

/-- 'kept[1:]'. -/
theorem Ids.tail {A : Nat} {w : World} {X off cap i : Nat} {cur : Array Value} {l : List Nat} (e2 : A ≤ X) (e3 : w.heap[X]? = some (.cells cur 3 (0, 0))) (e4 : (i :: l).length ≤ cap) (e5 : off + cap ≤ cur.size) (e6 : cap ≤ maxLen) (e7 : ∀ j, j < (i :: l).length → cur[off + j]? = some (.int .i64 ((i :: l).getD j 0))) :
    Ids A w (.slice (some ⟨X, off + 1, none⟩) l.length (cap - 1)) l ∧ (cap = 1 → Ids A w (.slice (some ⟨X, off, none⟩) 0 0) l ∧ l.length = 0) := by
  simp at e4
  refine ⟨.inr ⟨X, off + 1, cap - 1, cur, rfl, e2, e3, by omega, by omega, by omega, fun j hj => ?_⟩, fun hc => ?_⟩
  · have := e7 (j + 1) (by simpa using hj)
    rw [show off + 1 + j = off + (j + 1) by omega, this]
    rfl
  · have hl : l = [] := List.eq_nil_of_length_eq_zero (by omega)
    subst hl
    exact ⟨.inr ⟨X, off, 0, cur, rfl, e2, e3, Nat.le_refl _, by omega, by omega, fun j hj => by simp at hj⟩, rfl⟩

/-- A new text. -/
theorem St.push {W0 : World} {T : Nat → ByteArray} {w : World} {K c N : Nat} {ids ss : List Nat} {tv kv : Value} (h : St W0 T w K c N ids ss tv kv) (hN : N ≤ 1000) (t : ByteArray) (ht : IsText t N) (hts : t.size ≤ 100000) (b o : Nat) (hc : w.cell? ⟨b, o, none⟩ = some (.string t)) (ty : TypeId) :
    ∃ tv' w', (Builtin.append_ #[22, 22] ty #[tv, .slice (some ⟨b, o, none⟩) 1 1]).run Yba.prog w = .ok tv' w' ∧ ∃ T', T' N = t ∧ St W0 T' w' K c (N + 1) ids ss tv' kv ∧ tot T' ids = tot T ids := by
  obtain ⟨i9, hi9, hz0, hz1, hz2⟩ := info_parts info9
  have hn1 : ∀ j u, [Value.string t][j]? = some u → w.cell? ((⟨b, o, none⟩ : Addr).add j) = some u := by
    intro j u hj
    match j, hj with
    | 0, hj => simp at hj; rw [← hj, add_at]; exact hc
    | j + 1, hj => simp at hj
  obtain ⟨tv', w', hrun, hown, hg, _⟩ := run_append_own (P := Yba.prog) w W0.heap.size 22 ty 9 i9 (.string ⟨#[]⟩) 1 16 Yba.underlying22 hi9 hz0 hz1 hz2 rfl (by decide) tv N (strs T N) h.tx ⟨b, o, none⟩ 1 1 [.string t] rfl hn1 (by simp [Value.oneCell']) (by unfold maxLen; omega) (by omega) h.below.size
  have hf : FrX 9 W0.heap.size w w' := FrX.of_grown hg h.below.size (fun g hg => by
    obtain ⟨h0, ⟨rfl, _⟩ | ⟨g', cap, cur, rfl, r1, r2, _⟩⟩ := h.tx
    · simp [Value.ownBlock] at hg
    · simp [Value.ownBlock] at hg
      subst hg
      exact ⟨r1, _, _, r2⟩)
  obtain ⟨T', hT'⟩ : ∃ T' : Nat → ByteArray, T' = fun i => if i = N then t else T i := ⟨_, rfl⟩
  have hTN : T' N = t := by rw [hT']; simp
  have hTo : ∀ i, i < N → T i = T' i := fun i hi => by rw [hT']; simp; intro e; omega
  refine ⟨tv', w', hrun, T', hTN, ⟨h.below.trans hf.below, (h.ks.fx hf (by decide) (by decide) (by decide)).congr (fun i hi => hTo i (h.lt i hi)), ?_, h.ki.fx hf (by decide), fun i hi => Nat.lt_succ_of_lt (h.lt i hi), ?_⟩, (tot_congr ids (fun i hi => hTo i (h.lt i hi))).symm⟩
  · have e : strs T' (N + 1) = strs T N ++ [.string t] := by
      unfold strs
      rw [List.range_succ, List.map_append]
      congr 1
      · exact List.map_congr_left (fun i hi => by rw [hTo i (List.mem_range.1 hi)])
      · simp [hTN]
    rw [e]
    exact hown
  · intro i hi
    by_cases hin : i = N
    · rw [hin, hTN]; exact ⟨ht, hts⟩
    · rw [← hTo i (by omega)]; exact h.text i (by omega)

theorem St.inj {W0 : World} {T : Nat → ByteArray} {w : World} {K c N : Nat} {ids ss : List Nat} {tv kv : Value} (h : St W0 T w K c N ids ss tv kv) {i j : Nat} (hi : i < N) (hj : j < N) (e : T i = T j) : i = j :=
  (h.text i hi).1.inj (by rw [e]; exact (h.text j hj).1)

end Go.Proofs.Ybulkciry
