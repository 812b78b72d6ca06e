/-
  THE TWO SLICES OF 'engine.LawS4236BFifo': the texts (a row of its own) and the numbers of those kept (a slice at an offset).
-/
import Derived.Test.YbulkciryDigits
import Derived.Deep.RegionLawGrows
namespace Go.Proofs.Ybulkciry
open Go.RowKit
set_option maxRecDepth 100000
set_option linter.unusedVariables false

/-- Nothing has turned but rows of type ty, from A on. -/
structure FrX (ty : TypeId) (A : Nat) (w w' : World) : Prop where
  below : Below A w w'
  obj : ∀ (b : Nat) (o : Obj), w.heap[b]? = some o → (∀ (cs : Array Value) (z : Nat × Nat), o ≠ .cells cs ty z) → w'.heap[b]? = some o

theorem FrX.refl (ty : TypeId) (A : Nat) (w : World) : FrX ty A w w := ⟨Below.refl _ _, fun _ _ h _ => h⟩
theorem FrX.trans {ty : TypeId} {A : Nat} {a b c : World} (h : FrX ty A a b) (k : FrX ty A b c) : FrX ty A a c := ⟨h.below.trans k.below, fun x o hx hn => k.obj x o (h.obj x o hx hn) hn⟩
theorem FrX.of_below {ty : TypeId} {A : Nat} {w w' : World} (h : Below w.heap.size w w') (hA : A ≤ w.heap.size) : FrX ty A w w' :=
  ⟨h.mono hA, fun b o hb _ => by rw [h.block b (lt_of_get hb)]; exact hb⟩
theorem FrX.alloc {ty : TypeId} {A : Nat} {a b : World} (h : FrX ty A a b) (hA : A ≤ b.heap.size) (o : Obj) : FrX ty A a (b.alloc o) :=
  h.trans (FrX.of_below ((Below.refl _ b).alloc (Nat.le_refl _) o) hA)
theorem FrX.of_same {ty : TypeId} {A : Nat} {w w' : World} (h : Same w w') : FrX ty A w w' :=
  ⟨⟨h.os, h.tape, h.output, by rw [h.heap]; exact Nat.le_refl _, fun k _ => h.get k⟩, fun b o hb _ => by rw [h.get]; exact hb⟩
theorem FrX.of_grown {ty : TypeId} {A : Nat} {w w' : World} {row : Option Nat} (h : w.grownBy w' row) (hA : A ≤ w.heap.size) (hr : ∀ g, row = some g → A ≤ g ∧ ∃ (cs : Array Value) (z : Nat × Nat), w.heap[g]? = some (.cells cs ty z)) : FrX ty A w w' := by
  refine ⟨⟨h.os, h.tape, h.output, h.size, fun k hk => h.block k (by omega) (fun e => by have := (hr k e.symm).1; omega)⟩, fun b o hb hn => ?_⟩
  rw [h.block b (lt_of_get hb) (fun e => ?_)]
  · exact hb
  · obtain ⟨_, cs, z, hg⟩ := hr b e.symm
    rw [hb] at hg
    exact hn cs z (by simpa using hg)

theorem ne_cells {cs cs' : Array Value} {t t' : TypeId} {z z' : Nat × Nat} (h : t ≠ t') : (Obj.cells cs t z) ≠ .cells cs' t' z' := fun e => h (by simp at e; exact e.2.1)
theorem ne_map {cs : Array Value} {t : TypeId} {z : Nat × Nat} {es : Array MapEntry} {c : Nat} : (Obj.map es c) ≠ .cells cs t z := fun e => by simp at e

theorem SB.fx {ty : TypeId} {A : Nat} {w w' : World} {s : Nat} {t : ByteArray} (h : SB w s t) (hf : FrX ty A w w') (h3 : (39 : TypeId) ≠ ty) : SB w' s t := hf.obj _ _ h (fun _ _ => ne_cells h3)
theorem Kept.fx {ty : TypeId} {A : Nat} {T : Nat → ByteArray} {w w' : World} {K M n : Nat} {es ss ids : List Nat} (h : Kept A T w K M n es ss ids) (hf : FrX ty A w w') (h1 : (28 : TypeId) ≠ ty) (h2 : (32 : TypeId) ≠ ty) (h3 : (39 : TypeId) ≠ ty) : Kept A T w' K M n es ss ids := by
  refine ⟨h.ring.of_blocks (fun b hm => ?_), h.mp.of_block ?_, h.len, fun i hi => (h.sb i hi).fx hf h3, h.nodup, h.inj, h.le, h.aK, h.aM, h.aes⟩
  · obtain ⟨cs, t, z, e, ht⟩ := h.ring.kind hm
    rw [e]
    exact hf.obj _ _ e (fun _ _ => ne_cells (by rcases ht with rfl | rfl; exact h1; exact h2))
  · obtain ⟨es', cl, e⟩ := h.mp.block
    rw [e]
    exact hf.obj _ _ e (fun _ _ => ne_map)
theorem KS.fx {ty : TypeId} {A : Nat} {T : Nat → ByteArray} {w w' : World} {K c : Nat} {ids ss : List Nat} (h : KS A T w K c ids ss) (hf : FrX ty A w w') (h1 : (28 : TypeId) ≠ ty) (h2 : (32 : TypeId) ≠ ty) (h3 : (39 : TypeId) ≠ ty) : KS A T w' K c ids ss := by
  obtain ⟨hA, h | ⟨M, n, es, hk, k1, k2⟩⟩ := h
  · exact ⟨hA, .inl ⟨h.1, h.2.1, hf.obj _ _ h.2.2 (fun _ _ => ne_cells h2)⟩⟩
  · exact ⟨hA, .inr ⟨M, n, es, hk.fx hf h1 h2 h3, k1, k2⟩⟩

theorem own_fx {ty : TypeId} {A : Nat} {w w' : World} {base : Nat} {e : TypeId} {size n : Nat} {v : Value} {xs : List Value} (h : w.ownsRow base e size v n xs) (hf : FrX ty A w w') (hne : e ≠ ty) : w'.ownsRow base e size v n xs := by
  obtain ⟨h1, h2 | ⟨g, cap, cur, e1, e2, e3, e4⟩⟩ := h
  · exact ⟨h1, .inl h2⟩
  · exact ⟨h1, .inr ⟨g, cap, cur, e1, e2, hf.obj _ _ e3 (fun _ _ => ne_cells hne), e4⟩⟩
theorem own_fk {A : Nat} {w w' : World} {base : Nat} {e : TypeId} {size n : Nat} {v : Value} {xs : List Value} (h : w.ownsRow base e size v n xs) (hf : FrK A w w') (h1 : e ≠ 28) (h2 : e ≠ 32) : w'.ownsRow base e size v n xs := by
  obtain ⟨h0, h2' | ⟨g, cap, cur, e1, e2, e3, e4⟩⟩ := h
  · exact ⟨h0, .inl h2'⟩
  · exact ⟨h0, .inr ⟨g, cap, cur, e1, e2, hf.row _ _ _ _ e3 h1 h2, e4⟩⟩

/-- The slice v reads these numbers; it may lie at an offset of its row. -/
def Ids (A : Nat) (w : World) (v : Value) (xs : List Nat) : Prop :=
  (v = .slice none 0 0 ∧ xs = []) ∨ ∃ (X off cap : Nat) (cur : Array Value), v = .slice (some ⟨X, off, none⟩) xs.length cap ∧ A ≤ X ∧ w.heap[X]? = some (.cells cur 3 (0, 0)) ∧ xs.length ≤ cap ∧ off + cap ≤ cur.size ∧ cap ≤ maxLen ∧ ∀ i, i < xs.length → cur[off + i]? = some (.int .i64 (xs.getD i 0))

theorem Ids.fx {ty : TypeId} {A : Nat} {w w' : World} {v : Value} {xs : List Nat} (h : Ids A w v xs) (hf : FrX ty A w w') (hne : (3 : TypeId) ≠ ty) : Ids A w' v xs := by
  obtain h | ⟨X, off, cap, cur, e1, e2, e3, e4⟩ := h
  · exact .inl h
  · exact .inr ⟨X, off, cap, cur, e1, e2, hf.obj _ _ e3 (fun _ _ => ne_cells hne), e4⟩
theorem Ids.fk {A : Nat} {w w' : World} {v : Value} {xs : List Nat} (h : Ids A w v xs) (hf : FrK A w w') : Ids A w' v xs := by
  obtain h | ⟨X, off, cap, cur, e1, e2, e3, e4⟩ := h
  · exact .inl h
  · exact .inr ⟨X, off, cap, cur, e1, e2, hf.row _ _ _ _ e3 (by decide) (by decide), e4⟩

theorem Ids.shape {A : Nat} {w : World} {v : Value} {xs : List Nat} (h : Ids A w v xs) : ∃ a cap, v = .slice a xs.length cap ∧ xs.length ≤ cap ∧ ∀ j, j < xs.length → ∃ X off, a = some ⟨X, off, none⟩ ∧ w.cell? ⟨X, off + j, none⟩ = some (.int .i64 (xs.getD j 0)) := by
  obtain ⟨rfl, rfl⟩ | ⟨X, off, cap, cur, e1, e2, e3, e4, e5, e6, e7⟩ := h
  · exact ⟨none, 0, rfl, Nat.le_refl _, fun j hj => by simp at hj⟩
  · exact ⟨_, cap, e1, e4, fun j hj => ⟨X, off, rfl, by rw [cell_of_row _ _ _ _ _ _ e3]; exact e7 j hj⟩⟩

theorem ints_getD {xs : List Nat} {i : Nat} (hi : i < xs.length) : (xs.map fun x : Nat => Value.int .i64 (x : Int))[i]? = some (.int .i64 (xs.getD i 0)) := by
  rw [List.getElem?_map, List.getElem?_eq_getElem hi, getD_get hi]
  rfl
theorem Ids.of_own {A B : Nat} {w : World} {v : Value} {xs : List Nat} (h : w.ownsRow B 3 1 v xs.length (xs.map fun x : Nat => .int .i64 (x : Int))) (hAB : A ≤ B) : Ids A w v xs := by
  obtain ⟨h0, ⟨rfl, h1⟩ | ⟨g, cap, cur, e1, e2, e3, e4, e5, e6, e7⟩⟩ := h
  · exact .inl ⟨rfl, List.eq_nil_of_length_eq_zero h1⟩
  · refine .inr ⟨g, 0, cap, cur, e1, by omega, e3, e4, by omega, e5, fun i hi => ?_⟩
    have := ints_getD hi
    rw [← e7, List.getElem?_take, if_pos (by omega)] at this
    simpa using this

theorem Ids.olds {A : Nat} {w : World} {X off cap : Nat} {cur : Array Value} {xs : List Nat} (e3 : w.heap[X]? = some (.cells cur 3 (0, 0))) (e7 : ∀ i, i < xs.length → cur[off + i]? = some (.int .i64 (xs.getD i 0))) (j : Nat) (u : Value) (hj : (xs.map fun x : Nat => Value.int .i64 (x : Int))[j]? = some u) : w.cell? ⟨X, off + j, none⟩ = some u := by
  have hjl : j < xs.length := by
    have := (List.getElem?_eq_some_iff.1 hj).1
    simpa using this
  rw [ints_getD hjl] at hj
  rw [cell_of_row _ _ _ _ _ _ e3, e7 j hjl]
  exact hj

theorem add_at (b o j : Nat) : (⟨b, o, none⟩ : Addr).add j = ⟨b, o + j, none⟩ := by
  by_cases h : j = 0 <;> simp [Addr.add, h]

theorem Ids.append {A : Nat} {w : World} {v : Value} {xs : List Nat} (h : Ids A w v xs) (hA : A ≤ w.heap.size) (hl : xs.length < 1000) (b o id : Nat) (hc : w.cell? ⟨b, o, none⟩ = some (.int .i64 id)) (ty : TypeId) :
    ∃ v' w', (Builtin.append_ #[47, 47] ty #[v, .slice (some ⟨b, o, none⟩) 1 1]).run Yba.prog w = .ok v' w' ∧ Ids A w' v' (xs ++ [id]) ∧ FrX 3 A w w' := by
  obtain ⟨i3, hi3, hz0, hz1, hz2⟩ := info_parts info3
  have hn1 : ∀ j u, [Value.int .i64 (id : Int)][j]? = some u → w.cell? ((⟨b, o, none⟩ : Addr).add j) = some u := by
    intro j u hj
    match j, hj with
    | 0, hj => simp at hj; rw [← hj, add_at]; exact hc
    | j + 1, hj => simp at hj
  obtain ⟨rfl, rfl⟩ | ⟨X, off, cap, cur, rfl, e2, e3, e4, e5, e6, e7⟩ := h
  · obtain ⟨v', w', hrun, hown, hg, _⟩ := run_append_own (P := Yba.prog) w A 47 ty 3 i3 (.int .i64 0) 1 8 Yba.underlying47 hi3 hz0 hz1 hz2 rfl (by decide) (.slice none 0 0) 0 [] (World.ownsRow_nil w A 3 1) ⟨b, o, none⟩ 1 1 [.int .i64 (id : Int)] rfl hn1 (by simp [Value.oneCell']) (by unfold maxLen; omega) (by omega) hA
    exact ⟨v', w', hrun, Ids.of_own (xs := [id]) hown (Nat.le_refl _), FrX.of_grown hg hA (fun g hg => by simp [Value.ownBlock] at hg)⟩
  · by_cases hroom : xs.length + 1 ≤ cap
    · have hsp : off + xs.length < cur.size := by omega
      have hrun := run_append_room_cells (P := Yba.prog) w 47 ty 3 i3 Yba.underlying47 hi3 X off xs.length cap ⟨b, o, none⟩ 1 1 [.int .i64 (id : Int)] (by simp [hz1]) hn1 (by simp [Value.oneCell']) hroom
        (fun j hj => by
          obtain rfl : j = 0 := by simpa using hj
          rw [hz1, cell_of_row _ _ _ _ _ _ e3]
          simp
          omega)
        (fun j hj => frozen_of_row _ _ _ _ _ e3)
      rw [hz1, Nat.mul_one] at hrun
      refine ⟨_, _, hrun, .inr ⟨X, off, cap, cur.setIfInBounds (off + xs.length) (.int .i64 (id : Int)), by simp, e2, heap_setCell_same _ _ _ _ _ _ e3, by simpa using hroom, by simpa using e5, e6, ?_⟩, ?_⟩
      · intro i hi
        simp at hi
        by_cases hin : i = xs.length
        · subst hin
          rw [getD_last]
          simp [hsp]
        · rw [getD_left (by omega), ← e7 i (by omega)]
          rw [Array.getElem?_setIfInBounds_ne (by omega)]
      · refine ⟨(Below.refl _ _).setCell e2 _, fun x ob hx hn => ?_⟩
        show (w.setCell ⟨X, off + xs.length, none⟩ _).heap[x]? = _
        rw [heap_setCell_other _ _ _ _ (fun e => ?_)]
        · exact hx
        · simp at e
          rw [e, e3] at hx
          exact hn _ _ (by simpa using hx.symm)
    · obtain ⟨v', w', hrun, hown, hg⟩ := run_append_arg_grows (P := Yba.prog) w 47 ty 3 i3 (.int .i64 0) 1 8 Yba.underlying47 hi3 hz0 hz1 hz2 rfl (by decide) ⟨X, off, none⟩ xs.length cap (xs.map fun x : Nat => .int .i64 (x : Int)) (by simp) (fun j u hj => by rw [add_at]; exact Ids.olds (A := A) (cap := cap) e3 e7 j u hj) ⟨b, o, none⟩ 1 1 [.int .i64 (id : Int)] rfl hn1 (by omega) (by unfold maxLen; omega) (by omega)
      refine ⟨v', w', hrun, Ids.of_own (xs := xs ++ [id]) ?_ hA, FrX.of_grown hg hA (fun g hg => by simp at hg)⟩
      simpa using hown

/-- A row under setCells. -/
theorem setCells_row : ∀ (vs : List Value) (o : Nat) (w : World) (b : Nat) (cur : Array Value) (ty : TypeId), w.heap[b]? = some (.cells cur ty (0, 0)) → o + vs.length ≤ cur.size →
    (∃ cur', (w.setCells b o vs).heap[b]? = some (.cells cur' ty (0, 0)) ∧ cur'.size = cur.size ∧ (∀ i, i < o ∨ o + vs.length ≤ i → cur'[i]? = cur[i]?) ∧ ∀ j, j < vs.length → cur'[o + j]? = vs[j]?) ∧ (∀ k, k ≠ b → (w.setCells b o vs).heap[k]? = w.heap[k]?) ∧ (w.setCells b o vs).os = w.os ∧ (w.setCells b o vs).tape = w.tape ∧ (w.setCells b o vs).output = w.output ∧ (w.setCells b o vs).heap.size = w.heap.size
  | [], o, w, b, cur, ty, h, hl => ⟨⟨cur, h, rfl, fun _ _ => rfl, fun j hj => by simp at hj⟩, fun _ _ => rfl, rfl, rfl, rfl, rfl⟩
  | v :: r, o, w, b, cur, ty, h, hl => by
    have hl' : o + (r.length + 1) ≤ cur.size := by simpa using hl
    have h1 := heap_setCell_same w b o cur ty v h
    obtain ⟨⟨cur', a1, a2, a3, a4⟩, a5, a6, a7, a8, a9⟩ := setCells_row r (o + 1) (w.setCell ⟨b, o, none⟩ v) b (cur.setIfInBounds o v) ty h1 (by simp; omega)
    refine ⟨⟨cur', a1, by rw [a2]; simp, ?_, ?_⟩, ?_, a6, a7, a8, a9.trans (by simp)⟩
    · intro i hi
      simp at hi
      rw [a3 i (by omega), Array.getElem?_setIfInBounds_ne (by omega)]
    · intro j hj
      cases j with
      | zero =>
        rw [a3 (o + 0) (by omega)]
        simp [show o < cur.size by omega]
      | succ j =>
        have := a4 j (by simpa using hj)
        rw [show o + (j + 1) = o + 1 + j by omega, this]
        simp
    · intro k hk
      exact (a5 k hk).trans (heap_setCell_other _ _ _ _ hk)

/-- 'append(kept[:p], kept[p+1:]...)'. -/
theorem Ids.erase {A : Nat} {w : World} {X off cap : Nat} {cur : Array Value} {xs : List Nat} (e2 : A ≤ X) (e3 : w.heap[X]? = some (.cells cur 3 (0, 0))) (e4 : xs.length ≤ cap) (e5 : off + cap ≤ cur.size) (e6 : cap ≤ maxLen) (e7 : ∀ i, i < xs.length → cur[off + i]? = some (.int .i64 (xs.getD i 0)))
    (p : Nat) (hp : p < xs.length) (ad : Addr) (c : Nat) (had : ∀ j, j < xs.length - (p + 1) → ad.add j = ⟨X, off + (p + 1) + j, none⟩) (ty : TypeId) :
    ∃ w', (Builtin.append_ #[47, 47] ty #[.slice (some ⟨X, off, none⟩) p cap, .slice (some ad) (xs.length - (p + 1)) c]).run Yba.prog w = .ok (.slice (some ⟨X, off, none⟩) (p + (xs.length - (p + 1))) cap) w' ∧ Ids A w' (.slice (some ⟨X, off, none⟩) (p + (xs.length - (p + 1))) cap) (xs.eraseIdx p) ∧ FrX 3 A w w' := by
  obtain ⟨i3, hi3, hz0, hz1, hz2⟩ := info_parts info3
  obtain ⟨ys, hys⟩ : ∃ ys, ys = (xs.drop (p + 1)).map (fun x : Nat => Value.int .i64 (x : Int)) := ⟨_, rfl⟩
  have hyl : ys.length = xs.length - (p + 1) := by rw [hys]; simp
  have hyg : ∀ j, j < xs.length - (p + 1) → ys[j]? = some (.int .i64 (xs.getD (p + 1 + j) 0)) := by
    intro j hj
    rw [hys, List.getElem?_map, List.getElem?_drop, List.getElem?_eq_getElem (by omega), getD_get (by omega)]
    rfl
  have hrow := setCells_row ys (off + p) w X cur 3 e3 (by omega)
  have hrun := run_append_room_cells (P := Yba.prog) w 47 ty 3 i3 Yba.underlying47 hi3 X off p cap ad (xs.length - (p + 1)) c ys (by rw [hz1, hyl]; omega)
    (fun j u hj => by
      have hjl : j < xs.length - (p + 1) := by
        have := (List.getElem?_eq_some_iff.1 hj).1
        omega
      rw [hyg j hjl] at hj
      rw [had j hjl, cell_of_row _ _ _ _ _ _ e3, Nat.add_assoc, e7 (p + 1 + j) (by omega)]
      exact hj)
    (fun u hu => by rw [hys] at hu; obtain ⟨a, _, rfl⟩ := List.mem_map.1 hu; rfl) (by omega)
    (fun j hj => by
      rw [hz1, cell_of_row _ _ _ _ _ _ e3]
      simp
      omega)
    (fun j hj => frozen_of_row _ _ _ _ _ e3)
  rw [hz1, Nat.mul_one] at hrun
  obtain ⟨⟨cur', a1, a2, a3, a4⟩, a5, a6, a7, a8, a9⟩ := hrow
  have hel : (xs.eraseIdx p).length = p + (xs.length - (p + 1)) := by rw [List.length_eraseIdx_of_lt hp]; omega
  refine ⟨_, hrun, .inr ⟨X, off, cap, cur', by rw [hel], e2, a1, by omega, by omega, e6, ?_⟩, ⟨⟨a6, a7, a8, by rw [a9]; exact Nat.le_refl _, fun k hk => a5 k (by omega)⟩, fun x ob hx hn => ?_⟩⟩
  · intro i hi
    rw [hel] at hi
    rw [List.getD_eq_getElem?_getD, List.getElem?_eraseIdx]
    by_cases hip : i < p
    · rw [if_pos hip, a3 _ (by omega), e7 i (by omega), List.getD_eq_getElem?_getD]
    · rw [if_neg hip]
      have := a4 (i - p) (by omega)
      rw [show off + p + (i - p) = off + i by omega, hyg (i - p) (by omega), show p + 1 + (i - p) = i + 1 by omega, List.getD_eq_getElem?_getD] at this
      exact this
  · rw [a5 x (fun e => ?_)]
    · exact hx
    · rw [e, e3] at hx
      exact hn _ _ (by simpa using hx.symm)

/-- append by its run, for the walk. -/
theorem wpList_append_run {P : Program} {w w' : World} {ops : Array Oper} {rest : List Oper} {o : Oper} {a : Act} {Q : Exit → Act → World → Prop}
    (hg : o.guard = none) (s x : Operand) (t : TypeId) (hop : o.op = Op.call { callee := Callee.builtin Builtin.append, args := #[s, x], argTypes := #[t, t] })
    {v1 v2 v' : Value} (hs : a.eval s = v1) (hx : a.eval x = v2) (hrun : (Builtin.append_ #[t, t] o.type #[v1, v2]).run P w = .ok v' w')
    (h : wpList P ops Q rest (a.put o.dst v') w') : wpList P ops Q (o :: rest) a w := by
  refine wpList_plain hg fun K hK => ?_
  unfold Oper.wp
  simp [execOp, hop, resolve, invoke, builtin, hs, hx, hrun, Result.andThen]
  exact hK _ _ h
theorem step_append_run {P : Program} {ops : Array Oper} {o : Oper} {a : Act} {w w' : World} {K : Act → World → Prop} {Q : Exit → Act → World → Prop} {E : Prop}
    (hg : o.guard = none) (s x : Operand) (t : TypeId) (hop : o.op = Op.call { callee := Callee.builtin Builtin.append, args := #[s, x], argTypes := #[t, t] })
    {v1 v2 v' : Value} (hs : a.eval s = v1) (hx : a.eval x = v2) (hrun : (Builtin.append_ #[t, t] o.type #[v1, v2]).run P w = .ok v' w')
    (hK : K (a.put o.dst v') w') :
    if Region.wanted o (yielded ops a.tmps) = true then Oper.wp P o a w K Q else E := by
  have hw : Region.wanted o (yielded ops a.tmps) = true := by simp [Region.wanted, hg]
  rw [if_pos hw]
  unfold Oper.wp
  simp [execOp, hop, resolve, invoke, builtin, hs, hx, hrun, Result.andThen]
  exact hK

end Go.Proofs.Ybulkciry
