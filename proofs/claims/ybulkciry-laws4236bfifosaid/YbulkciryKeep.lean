/-
  'keptStatements.keep' ON THE ROAD OF 'engine.LawS4236BFifo', BY ITS CONTRACT.
-/
import Derived.Test.YbulkciryKeptB
import Derived.Deep.LoopGhost
import Derived.Deep.RegionLaw
import Derived.Deep.DeepCutAuto
namespace Go.Proofs.Ybulkciry
open Go.RowKit
set_option maxRecDepth 100000
set_option linter.unusedVariables false

set_option maxHeartbeats 1000000 in
theorem keep_big {w : World} {K : Nat} {t : ByteArray} (ht : (65536 : Int) < (t.size : Int)) :
    Calls Yba.prog 15 #[ptr ⟨K, 0, none⟩, .string t] w fun e w' => e = .returned (ptr ⟨w.heap.size, 0, none⟩) ∧ w' = w.alloc (.cells #[.string t, .slice none 0 0, .pointer none, .slice none 0 0] 39) := by
  go_enter Yba.func15, Yba.ntmps15
  go_wp2
  go_ret
  exact ⟨rfl, rfl⟩

theorem Ring_first {w : World} {K : Nat} {m : Value} {size : Int} (h : KB w K m (.pointer none) (.pointer none) 0 size) (s' : Nat) :
    Calls Yba.prog 5 #[ptr ⟨K, 1, none⟩, .iface 35 (ptr ⟨s', 0, none⟩)] w fun e w' => e = .returned (ptr ⟨w.heap.size, 0, none⟩) ∧ Ring w' K m size [w.heap.size] [s'] ∧ Fr w w' [K] ∧ w'.heap.size = w.heap.size + 1 := by
  refine (push_first K s' m 0 size (by omega) w h).mono ?_
  rintro e w' ⟨rfl, rfl⟩
  refine ⟨rfl, ⟨rfl, by simp, ?_, ?_⟩, ?_, by simp⟩
  · have := ((((((h.next (ptr ⟨K, 1, none⟩)).prev (ptr ⟨K, 1, none⟩)).len 0).next (ptr ⟨w.heap.size, 0, none⟩)).prev (ptr ⟨w.heap.size, 0, none⟩)).len 1).alloc (.cells #[.pointer (some ⟨K, 1, none⟩), .pointer (some ⟨K, 1, none⟩), .pointer (some ⟨K, 1, none⟩), .iface 35 (.pointer (some ⟨s', 0, none⟩))] 28)
    simpa [nodeAt, nodeB] using this
  · intro i hi
    obtain rfl : i = 0 := by simpa using hi
    have := heap_alloc_new ((((((w.setCell ⟨K, 1, none⟩ (ptr ⟨K, 1, none⟩)).setCell ⟨K, 2, none⟩ (ptr ⟨K, 1, none⟩)).setCell ⟨K, 5, none⟩ (.int .i64 0)).setCell ⟨K, 1, none⟩ (ptr ⟨w.heap.size, 0, none⟩)).setCell ⟨K, 2, none⟩ (ptr ⟨w.heap.size, 0, none⟩)).setCell ⟨K, 5, none⟩ (.int .i64 1)) (.cells #[.pointer (some ⟨K, 1, none⟩), .pointer (some ⟨K, 1, none⟩), .pointer (some ⟨K, 1, none⟩), .iface 35 (.pointer (some ⟨s', 0, none⟩))] 28)
    simpa [EB, nodeAt, nodeB] using this
  · exact (((((((Fr.refl w _).set (by simp) _).set (by simp) _).set (by simp) _).set (by simp) _).set (by simp) _).set (by simp) _).alloc _

/-- Behind PushBack and the map's store: the size is laid, and the state stands. -/
theorem Kept.add {A : Nat} {T : Nat → ByteArray} {w0 w1 w2 w3 : World} {K M n id g e : Nat} {m : Value} {size : Int} {es ss ids : List Nat}
    (hr : Ring w2 K (.map (some M)) (tot T ids) (es ++ [e]) (ss ++ [g])) (hmp : MapIs w3 M n (pairs T ids es ++ [((T id).data.toList, e)])) (htn : w2.mapTurned w3 M)
    (hl : ids.length = es.length) (hs : ss.length = es.length) (hsb : ∀ i, i < es.length → SB w2 (ss.getD i 0) (T (ids.getD i 0))) (hg : SB w2 g (T id))
    (hnd : ids.Nodup) (hid : id ∉ ids) (hinj : ∀ i ∈ ids, ∀ j ∈ ids, T i = T j → i = j) (hinj2 : ∀ i ∈ ids, T i ≠ T id) (hle : ∀ i ∈ ids, (T i).size ≤ 65536) (hle2 : (T id).size ≤ 65536)
    (aK : A ≤ K) (aM : A ≤ M) (aes : ∀ e ∈ es, A ≤ e) (ae : A ≤ e) :
    Kept A T (w3.setCell ⟨K, 6, none⟩ (.int .i64 (tot T ids + (T id).size : Nat))) K M n (es ++ [e]) (ss ++ [g]) (ids ++ [id]) ∧ FrK A w2 (w3.setCell ⟨K, 6, none⟩ (.int .i64 (tot T ids + (T id).size : Nat))) := by
  have hf3 : FrK A w2 w3 := FrK.turned htn aM
  obtain ⟨me, mc, hMb⟩ := hmp.block
  have hM2 : ∃ es' cl', w2.heap[M]? = some (.map es' cl') := by
    obtain ⟨a, b, _, _, h, _⟩ := htn
    exact ⟨a, b, h⟩
  obtain ⟨me2, mc2, hMb2⟩ := hM2
  have hnot : M ∉ K :: (es ++ [e]) := fun hm => by
    obtain ⟨cs, t, z, h, _⟩ := hr.kind hm
    rw [hMb2] at h
    simp at h
  have hr3 : Ring w3 K (.map (some M)) (tot T ids) (es ++ [e]) (ss ++ [g]) := by
    refine hr.of_blocks (fun b hb => ?_)
    obtain ⟨a1, a2, a3, a4, h, rfl⟩ := htn
    exact Go.ChangeMaps.heap_setBlock_other h _ (fun eb => hnot (by rw [← eb]; exact hb))
  have hf4 : FrK A w2 (w3.setCell ⟨K, 6, none⟩ (.int .i64 (tot T ids + (T id).size : Nat))) := hf3.trans (FrK.setK hr3.kb aK 6 _)
  refine ⟨⟨?_, ?_, by simp [hl], ?_, ?_, ?_, ?_, aK, aM, ?_⟩, hf4⟩
  · have ht : tot T (ids ++ [id]) = tot T ids + (T id).size := by rw [tot_append]; rfl
    rw [ht]
    exact hr3.setSize _
  · rw [pairs_append T id e ids es hl]
    refine hmp.of_block (heap_setCell_other _ _ _ _ (fun h => hnot (by simp at h; simp [h])))
  · intro i hi
    simp at hi
    by_cases hin : i = es.length
    · subst hin
      have e1 : (ss ++ [g]).getD es.length 0 = g := by rw [← hs, getD_last]
      have e2 : (ids ++ [id]).getD es.length 0 = id := by rw [← hl, getD_last]
      rw [e1, e2]
      exact hg.of hf4
    · rw [getD_left (by omega), getD_left (by omega)]
      exact (hsb i (by omega)).of hf4
  · rw [List.nodup_append]
    refine ⟨hnd, by simp, ?_⟩
    intro a ha b hb
    simp at hb
    subst hb
    exact fun h => hid (by rw [← h]; exact ha)
  · intro i hi j hj
    rw [List.mem_append] at hi hj
    rcases hi with hi | hi <;> rcases hj with hj | hj
    · exact hinj i hi j hj
    · simp at hj; subst hj; exact fun h => absurd h (hinj2 i hi)
    · simp at hi; subst hi; exact fun h => absurd h.symm (hinj2 j hj)
    · simp at hi hj; rw [hi, hj]; exact fun _ => rfl
  · intro i hi
    rw [List.mem_append] at hi
    rcases hi with hi | hi
    · exact hle i hi
    · simp at hi; rw [hi]; exact hle2
  · intro x hx
    rw [List.mem_append] at hx
    rcases hx with hx | hx
    · exact aes x hx
    · simp at hx; rw [hx]; exact ae

end Go.Proofs.Ybulkciry
