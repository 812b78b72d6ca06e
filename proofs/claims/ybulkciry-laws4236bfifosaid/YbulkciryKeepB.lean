/-
  'keptStatements.keep': THE WALK WHERE THE LIST STANDS.
-/
import Derived.Test.YbulkciryKeepA
namespace Go.Proofs.Ybulkciry
open Go.RowKit
set_option maxRecDepth 100000
set_option linter.unusedVariables false

/-- What holds at the head of keep's loop. -/
def Lp (A : Nat) (T : Nat → ByteArray) (w wr : World) (K M n g : Nat) (t : ByteArray) (ids es' ss' ids' : List Nat) (L : Nat) : Prop :=
  Kept A T wr K M n es' ss' ids' ∧ trim T t.size ids' = trim T t.size ids ∧ (∀ i ∈ ids', i ∈ ids) ∧ es'.length ≤ L ∧ FrK A w wr ∧ SB wr g t

set_option maxHeartbeats 4000000 in
theorem keep_kept {A : Nat} {T : Nat → ByteArray} {w : World} {K M n : Nat} {es ss ids : List Nat} {t : ByteArray} (h : Kept A T w K M n es ss ids) (hn : n ≤ 1000) (hes : es.length ≤ 1000) (hnew : ∀ i ∈ ids, T i ≠ t) (ht : t.size ≤ 65536) :
    Calls Yba.prog 15 #[ptr ⟨K, 0, none⟩, .string t] w fun e w' => e = .returned (ptr ⟨w.heap.size, 0, none⟩) ∧ ∃ W1 es1 ss1, Lp A T w W1 K M n w.heap.size t ids es1 ss1 (trim T t.size ids) es.length ∧ Post W1.drew w' K M n w.heap.size W1.heap.size (tot T (trim T t.size ids)) t es1 ss1 (pairs T (trim T t.size ids) es1) := by
  have hA : A ≤ w.heap.size := Nat.le_trans h.aK (Nat.le_of_lt h.ring.kb.lt)
  have HI : Hid (Lp A T w (w.alloc (.cells #[.string t, .slice none 0 0, .pointer none, .slice none 0 0] 39)) K M n w.heap.size t ids es ss ids es.length) :=
    ⟨h.of (fun b hb => heap_alloc_old _ _ hb), rfl, fun _ h => h, Nat.le_refl _, (FrK.refl A w).alloc hA _, heap_alloc_new _ _⟩
  have HH : Hid (n ≤ 1000 ∧ es.length ≤ 1000 ∧ (∀ i ∈ ids, T i ≠ t) ∧ t.size ≤ 65536) := ⟨hn, hes, hnew, ht⟩
  have hti : (t.size : Int) ≤ 65536 := by omega
  have q1 := mapsome
  have q3 := assert35
  clear h hn hes hnew ht hA
  go_enter Yba.func15, Yba.ntmps15
  go_wp2_with fail
  go_loopg [] ids.length (fun k wr => ∃ es' ss' ids', k = ids'.length ∧ Lp A T w wr K M n w.heap.size t ids es' ss' ids' es.length)
  case atStart => exact ⟨es, ss, ids, rfl, HI.out⟩
  case round =>
    obtain ⟨es', ss', ids', rfl, hlp⟩ := hrel
    have hlp' := hlp
    obtain ⟨hk, htr, hsub, hlen, hfr, hsb⟩ := hlp'
    have hb1 := tot_le ids' hk.le
    have hl1 : ids'.length ≤ 1000 := by have := hk.len; have := HH.out.2.1; omega
    obtain ⟨⟨c0, c1, c2, c5, c6⟩, f0, f1, f2, f5, f6⟩ := hk.ring.kb.cells
    by_cases hbig : 65536 < tot T ids' + t.size
    · match ids', es', ss' with
      | [], _, _ => exact absurd hbig (by have := HH.out.2.2.2; simp [tot]; omega)
      | i :: ids', [], _ => exact absurd hk.len (by simp)
      | i :: ids', f :: es', [] => exact absurd hk.ring.len (by simp)
      | i :: ids', f :: es', s :: ss' =>
        have htr' : trim T t.size ids' = trim T t.size ids := by
          rw [← htr]
          show _ = (if _ then _ else _)
          rw [if_pos hbig]
        have hr0 : Ring wr.drew K (.map (some M)) (tot T (i :: ids')) (f :: es') (s :: ss') := hk.ring.of_blocks (fun _ _ => rfl)
        have hfront := front_some K f (.map (some M)) _ _ _ (by simp; omega) wr.drew hr0.kb
        have hpop := hr0.pop (by have := HH.out.2.1; simp at hlen; omega)
        obtain ⟨z, hz⟩ : ∃ z, tot T (i :: ids') = z := ⟨_, rfl⟩
        obtain ⟨ti, hti'⟩ : ∃ ti, T i = ti := ⟨_, rfl⟩
        have hzi : z = ti.size + tot T ids' := by rw [← hz, ← hti']; rfl
        obtain ⟨y, hy⟩ : ∃ y, tot T ids' = y := ⟨_, rfl⟩
        rw [hy] at hzi
        rw [hz] at c6 hbig hb1
        have hbi : (65536 : Int) < (z : Int) + (t.size : Int) := by omega
        have hbz : (z : Int) ≤ 65536000 := by simp at hl1 hb1; omega
        have HF : Hid _ := hfront
        have HO : Hid _ := hpop
        have HE : Hid (trim T t.size ids' = trim T t.size ids ∧ tot T (i :: ids') = z ∧ T i = ti ∧ tot T ids' = y ∧ (∀ j ∈ i :: ids', j ∈ ids) ∧ (f :: es').length ≤ es.length ∧ FrK A w wr ∧ SB wr w.heap.size t) := ⟨htr', hz, hti', hy, hsub, hlen, hfr, hsb⟩
        have HK : Hid _ := hk
        have hzi' : (z : Int) - (ti.size : Int) = (y : Int) := by omega
        have hti2 : (ti.size : Int) ≤ 65536000 := by omega
        clear htr htr' hr0 hfront hpop hz hti' hzi hy hk hlp hsub hlen hfr hsb hb1 hl1 hbig c1 c2 c5
        go_wp2_with fail
        go_region_with (first | (go_at_call 8; refine Calls.mono HF.out ?_; rintro e w' ⟨rfl, rfl⟩) | (go_at_call 26; refine Calls.mono HO.out ?_; rintro e w1 ⟨rfl, hr1, hf1, hs1⟩))
        clear c0 c6 f0 f1 f2 f5 f6
        obtain ⟨p1, p2, p3, p4⟩ := HK.out.popped hr1 hf1
        obtain ⟨⟨c0, c1, c2, c5, c6⟩, f0, f1, f2, f5, f6⟩ := hr1.kb.cells
        have s0 := p2.cells.1
        rw [HE.out.2.1] at c6
        rw [HE.out.2.2.1] at s0 p3 p4
        have hle : ti.size ≤ maxLen := by unfold maxLen; omega
        obtain ⟨w2, hrun, hm2, ht2⟩ := (MapIs.of_block (w' := w1.drew) p3 rfl).drop hle p4 0
        have HD : Hid (Ring w1 K (.map (some M)) (tot T (i :: ids')) es' ss' ∧ Fr wr.drew w1 (K :: f :: es') ∧ MapIs w2 M n (pairs T ids' es') ∧ w1.drew.mapTurned w2 M) := ⟨hr1, hf1, hm2, ht2⟩
        have d6 : w2.cell? ⟨K, 6, none⟩ = some (.int .i64 z) := turned_cell ht2 (by simpa using c6)
        have d6f : w2.frozen? ⟨K, 6, none⟩ = false := (World.mapTurned.frozen ht2 _).trans (by simpa using f6)
        have d0 : w2.cell? ⟨s, 0, none⟩ = some (.string ti) := turned_cell ht2 (by simpa using s0)
        clear hr1 hf1 hm2 ht2 p1 p2 p3 p4 c1 c2 c5
        go_wp2_with fail
        go_region_law (refine step_delete rfl (.tmp 34) (.tmp 38) 24 9 rfl (by rfl) (by rfl) hrun ?_)
        all_goals go_wp2_with fail
        all_goals go_region
        all_goals go_wp2_with fail
        all_goals go_roundg ids'.length
        all_goals first
          | (case measure => simp)
          | (case rel =>
              obtain ⟨r1, r2, r3, r4⟩ := HD.out
              obtain ⟨g1, g2, g3, g4, g5, g6, g7, g8⟩ := HE.out
              obtain ⟨k1, k2⟩ := HK.out.dropped r1 r2 r3 r4
              rw [g4] at k1 k2
              exact ⟨es', ss', ids', rfl, k1, g1, fun j hj => g5 j (List.mem_cons_of_mem _ hj), by simp at g6; omega, g7.trans k2, g8.of k2⟩)
    · have e1 : trim T t.size ids = ids' := by
        rw [← htr]
        cases ids' with
        | nil => rfl
        | cons i l => simp only [trim]; rw [if_neg hbig]
      obtain ⟨z, hz⟩ : ∃ z, tot T ids' = z := ⟨_, rfl⟩
      have hpre := hk.pre HH.out.1 (Nat.le_trans hlen HH.out.2.1) t (fun i hi => HH.out.2.2.1 i (hsub i hi)) HH.out.2.2.2 w.heap.size
      rw [hz] at c6 hbig hb1 hpre
      have hbi : ¬ (65536 : Int) < (z : Int) + (t.size : Int) := by omega
      have hbz : (z : Int) ≤ 65536 := by omega
      have HP : Hid _ := hpre
      have HE : Hid (trim T t.size ids = ids' ∧ tot T ids' = z ∧ Lp A T w wr K M n w.heap.size t ids es' ss' ids' es.length) := ⟨e1, hz, hlp⟩
      clear e1 hz hlp hpre hk htr hsub hlen hfr hsb hb1 hl1 hbig c1 c2 c5
      go_wp2_with fail
      go_region_with (go_at_call 5; refine Calls.mono HP.out.push ?_; rintro e w2 ⟨rfl, hr2, hf2⟩; obtain ⟨w3, hrun3, hm3, ht3⟩ := HP.out.store w2 hf2; have d0 := hr2.kb.cells.1.1; have d6 := turned_cell ht3 hr2.kb.cells.1.2.2.2.2; have e6 : w3.frozen? ⟨K, 6, none⟩ = false := (World.mapTurned.frozen ht3 _).trans hr2.kb.cells.2.2.2.2.2; have HR : Hid _ := And.intro hr2 (And.intro hf2 (And.intro hm3 ht3)); clear hr2 hf2 hm3 ht3)
      all_goals go_wp2_with fail
      all_goals go_ret
      all_goals (obtain ⟨r1, r2, r3, r4⟩ := HR.out; obtain ⟨e1, e2, e3⟩ := HE.out; refine ⟨rfl, wr, es', ss', by rw [e1]; exact e3, ?_⟩; rw [e1, e2]; exact ⟨w2, w3, r1, r2, r3, r4, by simp⟩)

end Go.Proofs.Ybulkciry
