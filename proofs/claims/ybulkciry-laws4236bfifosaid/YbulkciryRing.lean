/-
  THE RING OF container/list ON THE ROAD OF 'engine.LawS4236BFifo': PushBack, Remove of the front, MoveToBack against plain lists.
-/
import Derived.Test.YbulkciryList
import Derived.Below
namespace Go.Proofs.Ybulkciry
open Go.RowKit
set_option maxRecDepth 100000
set_option linter.unusedVariables false
set_option linter.unusedSimpArgs false

theorem KB.other {w : World} {K : Nat} {m nx pv : Value} {len size : Int} (h : KB w K m nx pv len size) {a : Addr} (hne : ¬ K = a.block) (v : Value) : KB (w.setCell a v) K m nx pv len size := by
  unfold KB at *
  rw [heap_setCell_other _ _ _ _ (by simpa using hne)]; exact h
theorem KB.next {w : World} {K : Nat} {m nx pv : Value} {len size : Int} (h : KB w K m nx pv len size) (v : Value) : KB (w.setCell ⟨K, 1, none⟩ v) K m v pv len size := heap_setCell_same w K 1 _ 32 v h
theorem KB.prev {w : World} {K : Nat} {m nx pv : Value} {len size : Int} (h : KB w K m nx pv len size) (v : Value) : KB (w.setCell ⟨K, 2, none⟩ v) K m nx v len size := heap_setCell_same w K 2 _ 32 v h
theorem KB.len {w : World} {K : Nat} {m nx pv : Value} {len size : Int} (h : KB w K m nx pv len size) (n : Int) : KB (w.setCell ⟨K, 5, none⟩ (.int .i64 n)) K m nx pv n size := heap_setCell_same w K 5 _ 32 (.int .i64 n) h
theorem KB.map {w : World} {K : Nat} {m nx pv : Value} {len size : Int} (h : KB w K m nx pv len size) (v : Value) : KB (w.setCell ⟨K, 0, none⟩ v) K v nx pv len size := heap_setCell_same w K 0 _ 32 v h
theorem KB.size {w : World} {K : Nat} {m nx pv : Value} {len size : Int} (h : KB w K m nx pv len size) (n : Int) : KB (w.setCell ⟨K, 6, none⟩ (.int .i64 n)) K m nx pv len n := heap_setCell_same w K 6 _ 32 (.int .i64 n) h
theorem KB.lt {w : World} {K : Nat} {m nx pv : Value} {len size : Int} (h : KB w K m nx pv len size) : K < w.heap.size := (Array.getElem?_eq_some_iff.1 h).1
theorem KB.alloc {w : World} {K : Nat} {m nx pv : Value} {len size : Int} (h : KB w K m nx pv len size) (o : Obj) : KB (w.alloc o) K m nx pv len size := by
  have := h.lt
  unfold KB at *
  rw [heap_alloc_old _ _ this]; exact h
theorem KB.drew {w : World} {K : Nat} {m nx pv : Value} {len size : Int} (h : KB w K m nx pv len size) : KB w.drew K m nx pv len size := by
  unfold KB at *; exact h
theorem EB.drew {w : World} {e K s : Nat} {nx pv : Value} (h : EB w e K s nx pv) : EB w.drew e K s nx pv := by
  unfold EB at *; exact h
theorem EB.other {w : World} {e K s : Nat} {nx pv : Value} (h : EB w e K s nx pv) {a : Addr} (hne : ¬ e = a.block) (v : Value) : EB (w.setCell a v) e K s nx pv := by
  unfold EB at *
  rw [heap_setCell_other _ _ _ _ (by simpa using hne)]; exact h
theorem EB.next {w : World} {e K s : Nat} {nx pv : Value} (h : EB w e K s nx pv) (v : Value) : EB (w.setCell ⟨e, 0, none⟩ v) e K s v pv := heap_setCell_same w e 0 _ 28 v h
theorem EB.prev {w : World} {e K s : Nat} {nx pv : Value} (h : EB w e K s nx pv) (v : Value) : EB (w.setCell ⟨e, 1, none⟩ v) e K s nx v := heap_setCell_same w e 1 _ 28 v h
theorem EB.lt {w : World} {e K s : Nat} {nx pv : Value} (h : EB w e K s nx pv) : e < w.heap.size := (Array.getElem?_eq_some_iff.1 h).1
theorem EB.alloc {w : World} {e K s : Nat} {nx pv : Value} (h : EB w e K s nx pv) (o : Obj) : EB (w.alloc o) e K s nx pv := by
  have := h.lt
  unfold EB at *
  rw [heap_alloc_old _ _ this]; exact h

/-- Of what was there nothing but these blocks has turned. -/
structure Fr (w w' : World) (bs : List Nat) : Prop where
  os : w'.os = w.os
  tape : w'.tape = w.tape
  output : w'.output = w.output
  size : w.heap.size ≤ w'.heap.size
  block : ∀ b, b < w.heap.size → b ∉ bs → w'.heap[b]? = w.heap[b]?
theorem Fr.refl (w : World) (bs : List Nat) : Fr w w bs := ⟨rfl, rfl, rfl, Nat.le_refl _, fun _ _ _ => rfl⟩
theorem Fr.set {w w' : World} {bs : List Nat} (h : Fr w w' bs) {a : Addr} (ha : a.block ∈ bs) (v : Value) : Fr w (w'.setCell a v) bs :=
  ⟨h.os, h.tape, h.output, by simpa using h.size, fun b hb hn => by
    have hne : b ≠ a.block := fun e => hn (by rw [e]; exact ha)
    rw [heap_setCell_other _ _ _ _ hne]; exact h.block b hb hn⟩
theorem Fr.alloc {w w' : World} {bs : List Nat} (h : Fr w w' bs) (o : Obj) : Fr w (w'.alloc o) bs :=
  ⟨h.os, h.tape, h.output, by have := h.size; simp; omega, fun b hb hn => by rw [heap_alloc_old _ _ (Nat.lt_of_lt_of_le hb h.size)]; exact h.block b hb hn⟩
theorem Fr.drew {w w' : World} {bs : List Nat} (h : Fr w w' bs) : Fr w w'.drew bs := ⟨h.os, h.tape, h.output, h.size, h.block⟩
theorem Fr.mono {w w' : World} {bs cs : List Nat} (h : Fr w w' bs) (hs : ∀ b ∈ bs, b ∈ cs) : Fr w w' cs := ⟨h.os, h.tape, h.output, h.size, fun b hb hn => h.block b hb (fun hm => hn (hs b hm))⟩

abbrev ptr (a : Addr) : Value := .pointer (some a)
/-- Node number i; behind the last: the root. -/
def nodeAt (K : Nat) (es : List Nat) (i : Nat) : Addr := if i < es.length then ⟨es.getD i 0, 0, none⟩ else ⟨K, 1, none⟩
/-- The node ahead of number i; ahead of the first: the root. -/
def nodeB (K : Nat) (es : List Nat) (i : Nat) : Addr := if i = 0 then ⟨K, 1, none⟩ else ⟨es.getD (i - 1) 0, 0, none⟩

structure Ring (w : World) (K : Nat) (m : Value) (size : Int) (es ss : List Nat) : Prop where
  len : ss.length = es.length
  nodup : es.Nodup
  kb : KB w K m (ptr (nodeAt K es 0)) (ptr (nodeB K es es.length)) es.length size
  eb : ∀ i, i < es.length → EB w (es.getD i 0) K (ss.getD i 0) (ptr (nodeAt K es (i + 1))) (ptr (nodeB K es i))

theorem getD_ne {es : List Nat} (h : es.Nodup) {i j : Nat} (hi : i < es.length) (hj : j < es.length) (hne : i ≠ j) : ¬ es.getD i 0 = es.getD j 0 := by
  intro e
  rw [List.getD_eq_getElem?_getD, List.getD_eq_getElem?_getD, List.getElem?_eq_getElem hi, List.getElem?_eq_getElem hj] at e
  simp only [Option.getD_some] at e
  have hp := List.pairwise_iff_getElem.1 h
  rcases Nat.lt_or_gt_of_ne hne with hij | hij
  · exact hp i j hi hj hij e
  · exact hp j i hj hi hij e.symm
theorem getD_mem0 {es : List Nat} {i : Nat} (hi : i < es.length) : es.getD i 0 ∈ es := by
  rw [List.getD_eq_getElem?_getD, List.getElem?_eq_getElem hi]
  simp
theorem getD_left {es fs : List Nat} {i : Nat} (hi : i < es.length) : (es ++ fs).getD i 0 = es.getD i 0 := by
  rw [List.getD_eq_getElem?_getD, List.getD_eq_getElem?_getD, List.getElem?_append_left hi]
theorem getD_last (es : List Nat) (b : Nat) : (es ++ [b]).getD es.length 0 = b := by
  rw [List.getD_eq_getElem?_getD]; simp

theorem Ring.not_mem {w : World} {K : Nat} {m : Value} {size : Int} {es ss : List Nat} (h : Ring w K m size es ss) {b : Nat} (hb : b ∈ es) : b < w.heap.size ∧ ¬ b = K := by
  obtain ⟨i, hi, rfl⟩ := List.mem_iff_getElem.1 hb
  have he := h.eb i hi
  have e : es.getD i 0 = es[i] := by rw [List.getD_eq_getElem?_getD, List.getElem?_eq_getElem hi]; simp
  rw [e] at he
  exact ⟨he.lt, (h.kb.ne he).2.1⟩

set_option maxHeartbeats 1000000 in
theorem Ring.push {w : World} {K : Nat} {m : Value} {size : Int} {es ss : List Nat} (h : Ring w K m size es ss) (s' : Nat) (hn : es.length ≤ 1000) :
    Calls Yba.prog 5 #[ptr ⟨K, 1, none⟩, .iface 35 (ptr ⟨s', 0, none⟩)] w fun e w' => e = .returned (ptr ⟨w.heap.size, 0, none⟩) ∧ Ring w' K m size (es ++ [w.heap.size]) (ss ++ [s']) ∧ Fr w w' (K :: es) ∧ w'.heap.size = w.heap.size + 1 := by
  have hkb := h.kb
  have hnd : (es ++ [w.heap.size]).Nodup := by
    rw [List.nodup_append]
    refine ⟨h.nodup, by simp, ?_⟩
    intro a ha b hb
    simp at hb
    have := (h.not_mem ha).1
    omega
  by_cases h0 : es.length = 0
  · obtain rfl : es = [] := List.eq_nil_of_length_eq_zero h0
    obtain rfl : ss = [] := List.eq_nil_of_length_eq_zero (by rw [h.len]; rfl)
    have hkb' : KB w K m (.pointer (some ⟨K, 1, none⟩)) (.pointer (some ⟨K, 1, none⟩)) 0 size := by simpa [nodeAt, nodeB] using hkb
    refine (push_empty K s' m 0 size (by omega) w hkb').mono ?_
    rintro e w' ⟨rfl, rfl⟩
    refine ⟨rfl, ⟨rfl, hnd, ?_, ?_⟩, ?_, by simp⟩
    · have := (((hkb'.next (ptr ⟨w.heap.size, 0, none⟩)).prev (ptr ⟨w.heap.size, 0, none⟩)).len 1).alloc (.cells #[.pointer (some ⟨K, 1, none⟩), .pointer (some ⟨K, 1, none⟩), .pointer (some ⟨K, 1, none⟩), .iface 35 (.pointer (some ⟨s', 0, none⟩))] 28)
      simpa [nodeAt, nodeB] using this
    · intro i hi
      obtain rfl : i = 0 := by simpa using hi
      have := heap_alloc_new (((w.setCell ⟨K, 1, none⟩ (ptr ⟨w.heap.size, 0, none⟩)).setCell ⟨K, 2, none⟩ (ptr ⟨w.heap.size, 0, none⟩)).setCell ⟨K, 5, none⟩ (.int .i64 1)) (.cells #[.pointer (some ⟨K, 1, none⟩), .pointer (some ⟨K, 1, none⟩), .pointer (some ⟨K, 1, none⟩), .iface 35 (.pointer (some ⟨s', 0, none⟩))] 28)
      simpa [EB, nodeAt, nodeB] using this
    · exact ((((Fr.refl w _).set (by simp) _).set (by simp) _).set (by simp) _).alloc _
  · have hl := h.eb (es.length - 1) (by omega)
    have e1 : nodeAt K es (es.length - 1 + 1) = ⟨K, 1, none⟩ := by unfold nodeAt; rw [if_neg (by omega)]
    have e2 : nodeAt K es 0 = ⟨es.getD 0 0, 0, none⟩ := by unfold nodeAt; rw [if_pos (by omega)]
    have e3 : nodeB K es es.length = ⟨es.getD (es.length - 1) 0, 0, none⟩ := by simp [nodeB, h0]
    rw [e1] at hl
    rw [e2, e3] at hkb
    refine (push_more K _ _ _ s' _ m es.length size (by omega) w hkb hl).mono ?_
    rintro e w' ⟨rfl, rfl⟩
    have hmem : es.getD (es.length - 1) 0 ∈ es := getD_mem0 (by omega)
    have hnK := (h.not_mem hmem).2
    refine ⟨rfl, ⟨by simp [h.len], hnd, ?_, ?_⟩, ?_, by simp⟩
    · have := (((hkb.other (a := ⟨es.getD (es.length - 1) 0, 0, none⟩) (fun e => hnK e.symm) (ptr ⟨w.heap.size, 0, none⟩)).prev (ptr ⟨w.heap.size, 0, none⟩)).len (es.length + 1)).alloc (.cells #[.pointer (some ⟨K, 1, none⟩), .pointer (some ⟨es.getD (es.length - 1) 0, 0, none⟩), .pointer (some ⟨K, 1, none⟩), .iface 35 (.pointer (some ⟨s', 0, none⟩))] 28)
      have f1 : nodeAt K (es ++ [w.heap.size]) 0 = ⟨es.getD 0 0, 0, none⟩ := by simp only [nodeAt, List.length_append]; rw [if_pos (by simp), getD_left (by omega)]
      have f2 : nodeB K (es ++ [w.heap.size]) (es ++ [w.heap.size]).length = ⟨w.heap.size, 0, none⟩ := by simp only [nodeB, List.length_append, List.length_singleton, Nat.add_sub_cancel]; rw [if_neg (by omega), getD_last]
      rw [f1, f2, List.length_append]
      simpa using this
    · intro i hi
      simp at hi
      by_cases hin : i = es.length
      · subst hin
        have f1 : nodeAt K (es ++ [w.heap.size]) (es.length + 1) = ⟨K, 1, none⟩ := by simp [nodeAt]
        have f2 : nodeB K (es ++ [w.heap.size]) es.length = ⟨es.getD (es.length - 1) 0, 0, none⟩ := by simp only [nodeB]; rw [if_neg h0, getD_left (by omega)]
        have f3 : (ss ++ [s']).getD es.length 0 = s' := by rw [← h.len, getD_last]
        rw [getD_last, f1, f2, f3]
        have := heap_alloc_new (((w.setCell ⟨es.getD (es.length - 1) 0, 0, none⟩ (ptr ⟨w.heap.size, 0, none⟩)).setCell ⟨K, 2, none⟩ (ptr ⟨w.heap.size, 0, none⟩)).setCell ⟨K, 5, none⟩ (.int .i64 ((es.length : Int) + 1))) (.cells #[.pointer (some ⟨K, 1, none⟩), .pointer (some ⟨es.getD (es.length - 1) 0, 0, none⟩), .pointer (some ⟨K, 1, none⟩), .iface 35 (.pointer (some ⟨s', 0, none⟩))] 28)
        simpa [EB] using this
      · have hi' : i < es.length := by omega
        have he := h.eb i hi'
        have hiK := (h.not_mem (getD_mem0 hi')).2
        have f3 : (ss ++ [s']).getD i 0 = ss.getD i 0 := getD_left (by rw [h.len]; exact hi')
        have f2 : nodeB K (es ++ [w.heap.size]) i = nodeB K es i := by
          simp only [nodeB]
          by_cases hz : i = 0
          · simp [hz]
          · rw [if_neg hz, if_neg hz, getD_left (by omega)]
        rw [getD_left hi', f3, f2]
        by_cases hil : i = es.length - 1
        · subst hil
          have f1 : nodeAt K (es ++ [w.heap.size]) (es.length - 1 + 1) = ⟨w.heap.size, 0, none⟩ := by
            rw [show es.length - 1 + 1 = es.length by omega]
            simp only [nodeAt, List.length_append]
            rw [if_pos (by simp), getD_last]
          rw [f1]
          exact (((he.next _).other hiK _).other hiK _).alloc _
        · have f1 : nodeAt K (es ++ [w.heap.size]) (i + 1) = nodeAt K es (i + 1) := by
            simp only [nodeAt, List.length_append]
            rw [if_pos (by simp; omega), if_pos (by omega), getD_left (by omega)]
          rw [f1]
          exact (((he.other (getD_ne h.nodup hi' (by omega) hil) _).other hiK _).other hiK _).alloc _
    · exact ((((Fr.refl w _).set (List.mem_cons_of_mem _ hmem) _).set (by simp) _).set (by simp) _).alloc _

theorem nodeAt_cons (K f : Nat) (es : List Nat) (i : Nat) : nodeAt K (f :: es) (i + 1) = nodeAt K es i := by
  unfold nodeAt
  by_cases h : i < es.length
  · rw [if_pos (by simpa using h), if_pos h]; rfl
  · rw [if_neg (by simpa using h), if_neg h]
theorem nodeB_cons (K f : Nat) (es : List Nat) (i : Nat) (hi : i ≠ 0) : nodeB K (f :: es) (i + 1) = nodeB K es i := by
  unfold nodeB
  rw [if_neg (by omega), if_neg hi]
  obtain ⟨j, rfl⟩ : ∃ j, i = j + 1 := ⟨i - 1, by omega⟩
  rfl

set_option maxHeartbeats 1000000 in
theorem Ring.pop {w : World} {K : Nat} {m : Value} {size : Int} {f s : Nat} {es ss : List Nat} (h : Ring w K m size (f :: es) (s :: ss)) (hn : es.length < 1000) :
    Calls Yba.prog 26 #[ptr ⟨K, 1, none⟩, ptr ⟨f, 0, none⟩] w fun e w' => e = .returned (.iface 35 (ptr ⟨s, 0, none⟩)) ∧ Ring w' K m size es ss ∧ Fr w w' (K :: f :: es) ∧ w'.heap.size = w.heap.size := by
  have hkb := h.kb
  have h0 := h.eb 0 (by simp)
  have hnd := List.nodup_cons.1 h.nodup
  have hfK := (h.not_mem (b := f) (by simp)).2
  have e1 : nodeAt K (f :: es) 0 = ⟨f, 0, none⟩ := rfl
  have e2 : nodeB K (f :: es) 0 = ⟨K, 1, none⟩ := rfl
  rw [e1] at hkb
  rw [nodeAt_cons, e2] at h0
  by_cases hz : es.length = 0
  · obtain rfl : es = [] := List.eq_nil_of_length_eq_zero hz
    obtain rfl : ss = [] := List.eq_nil_of_length_eq_zero (by have := h.len; simpa using this)
    have hkb' : KB w K m (.pointer (some ⟨f, 0, none⟩)) (.pointer (some ⟨f, 0, none⟩)) 1 size := hkb
    refine (remove_last K f s m 1 size (by omega) w hkb' h0).mono ?_
    rintro e w' ⟨rfl, rfl⟩
    refine ⟨rfl, ⟨rfl, by simp, ?_, fun i hi => by simp at hi⟩, ?_, by simp⟩
    · have := ((((((hkb'.next (ptr ⟨K, 1, none⟩)).prev (ptr ⟨K, 1, none⟩)).other (a := ⟨f, 0, none⟩) (fun e => hfK e.symm) (.pointer none)).other (a := ⟨f, 1, none⟩) (fun e => hfK e.symm) (.pointer none)).other (a := ⟨f, 2, none⟩) (fun e => hfK e.symm) (.pointer none)).len (1 - 1)).drew.drew
      exact this
    · exact ((((((((Fr.refl w _).set (by simp) _).set (by simp) _).set (by simp) _).set (by simp) _).set (by simp) _).set (by simp) _).drew).drew
  · obtain ⟨a, es, rfl⟩ : ∃ a t, es = a :: t := List.exists_cons_of_length_pos (by omega)
    obtain ⟨s2, ss, rfl⟩ : ∃ a t, ss = a :: t := List.exists_cons_of_length_pos (by have := h.len; simp at this; omega)
    have h1 := h.eb 1 (by simp)
    have haK := (h.not_mem (b := a) (by simp)).2
    have hfa : ¬ f = a := fun e => hnd.1 (by simp [e])
    have e3 : nodeB K (f :: a :: es) 1 = ⟨f, 0, none⟩ := rfl
    rw [e3] at h1
    refine (remove_more K f a s s2 _ _ hfa m _ size ?_ w hkb h0 h1).mono ?_
    · simp at hn ⊢; omega
    rintro e w' ⟨rfl, rfl⟩
    refine ⟨rfl, ⟨by have := h.len; simpa using this, hnd.2, ?_, ?_⟩, ?_, by simp⟩
    · have := ((((((hkb.next (ptr ⟨a, 0, none⟩)).other (a := ⟨a, 1, none⟩) (fun e => haK e.symm) (ptr ⟨K, 1, none⟩)).other (a := ⟨f, 0, none⟩) (fun e => hfK e.symm) (.pointer none)).other (a := ⟨f, 1, none⟩) (fun e => hfK e.symm) (.pointer none)).other (a := ⟨f, 2, none⟩) (fun e => hfK e.symm) (.pointer none)).len (((f :: a :: es).length : Int) - 1)).drew.drew
      have f2 : nodeB K (f :: a :: es) (f :: a :: es).length = nodeB K (a :: es) (a :: es).length := nodeB_cons K f (a :: es) _ (by simp)
      have f3 : ((f :: a :: es).length : Int) - 1 = ((a :: es).length : Int) := by simp
      rw [← f2, ← f3]
      exact this
    · intro i hi
      have he := h.eb (i + 1) (by simpa using hi)
      rw [nodeAt_cons] at he
      have hx : (f :: a :: es).getD (i + 1) 0 = (a :: es).getD i 0 := rfl
      have hy : (s :: s2 :: ss).getD (i + 1) 0 = (s2 :: ss).getD i 0 := rfl
      rw [hx, hy] at he
      have hmem : (a :: es).getD i 0 ∈ a :: es := getD_mem0 hi
      have hxK := (h.not_mem (List.mem_cons_of_mem f hmem)).2
      have hxf : ¬ (a :: es).getD i 0 = f := fun e => hnd.1 (by rw [← e]; exact hmem)
      by_cases hz : i = 0
      · subst hz
        exact ((((((he.other (a := ⟨K, 1, none⟩) hxK _).prev (ptr ⟨K, 1, none⟩)).other (a := ⟨f, 0, none⟩) hxf _).other (a := ⟨f, 1, none⟩) hxf _).other (a := ⟨f, 2, none⟩) hxf _).other (a := ⟨K, 5, none⟩) hxK _).drew.drew
      · rw [nodeB_cons K f (a :: es) i hz] at he
        have hxa : ¬ (a :: es).getD i 0 = a := getD_ne (es := a :: es) (j := 0) hnd.2 hi (by simp) hz
        exact ((((((he.other (a := ⟨K, 1, none⟩) hxK _).other (a := ⟨a, 1, none⟩) hxa _).other (a := ⟨f, 0, none⟩) hxf _).other (a := ⟨f, 1, none⟩) hxf _).other (a := ⟨f, 2, none⟩) hxf _).other (a := ⟨K, 5, none⟩) hxK _).drew.drew
    · exact ((((((((Fr.refl w _).set (by simp) _).set (by simp) _).set (by simp) _).set (by simp) _).set (by simp) _).set (by simp) _).drew).drew

end Go.Proofs.Ybulkciry
