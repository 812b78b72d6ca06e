/-
  'keptStatements.keep': THE WALK.
-/
import Derived.Test.YbulkciryKeep
import Derived.Deep.LoopGhost
import Derived.Deep.RegionLaw
import Derived.Deep.DeepCutAuto
namespace Go.Proofs.Ybulkciry
open Go.RowKit
set_option maxRecDepth 100000
set_option linter.unusedVariables false

/-- delete, as one step of a region that draws. -/
theorem step_delete {P : Program} {ops : Array Oper} {o : Oper} {a : Act} {w w' : World} {K : Act → World → Prop} {Q : Exit → Act → World → Prop} {E : Prop}
    (hg : o.guard = none) (m x : Operand) (t k : TypeId) (hop : o.op = Op.call { callee := Callee.builtin Builtin.delete, args := #[m, x], argTypes := #[t, k] })
    {vm vx : Value} (hm : a.eval m = vm) (hx : a.eval x = vx) (hrun : (Builtin.delete_ #[t, k] o.type #[vm, vx]).run P w = .ok (.tuple #[]) w')
    (hK : K (a.put o.dst (.tuple #[])) w') :
    if Region.wanted o (yielded ops a.tmps) = true then Oper.wp P o a w K Q else E := by
  have hw : Region.wanted o (yielded ops a.tmps) = true := by simp [Region.wanted, hg]
  rw [if_pos hw]
  unfold Oper.wp
  simp [execOp, hop, resolve, invoke, builtin, hm, hx, hrun, Result.andThen]
  exact hK

theorem mapnil (w : World) : (binOp .eql 24 (.map none) (.map none)).run Yba.prog w = .ok (.bool true) w := by kernel_rfl
theorem mapsome (M : Nat) (w : World) : (binOp .eql 24 (.map (some M)) (.map none)).run Yba.prog w = .ok (.bool false) w := by kernel_rfl

theorem mkmap (w : World) : (Instr.makeMap 24 none).run Yba.prog w = .ok (.map (some w.heap.size)) (w.alloc (.map #[] 0)) := by kernel_rfl

/-- What 'keep' has laid when it comes to PushBack: g: the new statement, M: the map. -/
structure Pre (W : World) (K M n g e0 z : Nat) (t : ByteArray) (es ss : List Nat) (mp : List (List UInt8 × Nat)) : Prop where
  push : Calls Yba.prog 5 #[ptr ⟨K, 1, none⟩, .iface 35 (ptr ⟨g, 0, none⟩)] W fun e w' => e = .returned (.pointer (some ⟨e0, 0, none⟩)) ∧ Ring w' K (.map (some M)) z (es ++ [e0]) (ss ++ [g]) ∧ Fr W w' (K :: es)
  c0 : W.cell? ⟨K, 0, none⟩ = some (.map (some M))
  store : ∀ w2, Fr W w2 (K :: es) → ∃ w3, (Instr.mapUpdate 24 (.map (some M)) (.string t) (.pointer (some ⟨e0, 0, none⟩))).run Yba.prog w2 = .ok () w3 ∧ MapIs w3 M (n + 1) (mp ++ [(t.data.toList, e0)]) ∧ w2.mapTurned w3 M

/-- What it leaves: the world behind the map's store is w3, behind PushBack w2. -/
def Post (W w' : World) (K M n g e0 z : Nat) (t : ByteArray) (es ss : List Nat) (mp : List (List UInt8 × Nat)) : Prop :=
  ∃ w2 w3, Ring w2 K (.map (some M)) z (es ++ [e0]) (ss ++ [g]) ∧ Fr W w2 (K :: es) ∧ MapIs w3 M (n + 1) (mp ++ [(t.data.toList, e0)]) ∧ w2.mapTurned w3 M ∧ w' = w3.setCell ⟨K, 6, none⟩ (.int .i64 (z + t.size : Nat))

theorem turned_cell {w w' : World} {M K o : Nat} {v : Value} (h : w.mapTurned w' M) (hc : w.cell? ⟨K, o, none⟩ = some v) : w'.cell? ⟨K, o, none⟩ = some v := by
  obtain ⟨es, cl, es', cl', hb, rfl⟩ := h
  rw [World.cell?_of_block (w := w) (Go.ChangeMaps.heap_setBlock_other hb _ (fun e => ?_))]
  · exact hc
  · simp at e
    subst e
    simp [World.cell?, hb] at hc

set_option maxHeartbeats 2000000 in
theorem keep_fresh {w : World} {K : Nat} {t : ByteArray} (h : KB w K (.map none) (.pointer none) (.pointer none) 0 0) (ht : (t.size : Int) ≤ 65536)
    (W1 : World) (hW : W1 = (((w.setCell ⟨K, 0, none⟩ (.map (some (w.heap.size + 1)))).alloc (.cells #[.string t, .slice none 0 0, .pointer none, .slice none 0 0] 39)).alloc (.map #[] 0))) (e0 : Nat) (hpre : Pre W1.drew K (w.heap.size + 1) 0 w.heap.size e0 0 t [] [] []) :
    Calls Yba.prog 15 #[ptr ⟨K, 0, none⟩, .string t] w fun e w' => e = .returned (ptr ⟨w.heap.size, 0, none⟩) ∧ Post W1.drew w' K (w.heap.size + 1) 0 w.heap.size e0 0 t [] [] [] := by
  obtain ⟨⟨c0, c1, c2, c5, c6⟩, f0, f1, f2, f5, f6⟩ := h.cells
  have hKl := h.lt
  have hKl1 : K < w.heap.size + 1 := by omega
  have hK0 : ¬ K = w.heap.size := by omega
  have hK1 : ¬ K = w.heap.size + 1 := by omega
  have q1 := mapnil
  have q2 := mkmap
  have HW : Hid _ := hW
  have HP : Hid _ := hpre
  clear h hW hpre
  go_enter Yba.func15, Yba.ntmps15
  go_wp2_with fail
  go_loopg [] 0 (fun k wr => wr = w.alloc (.cells #[.string t, .slice none 0 0, .pointer none, .slice none 0 0] 39))
  case atStart => rfl
  case round =>
    subst hrel
    go_wp2_with fail
    rw [← HW.out]
    clear c0 c1 c2 c5 c6 f0 f1 f2 f5 f6
    have c0 := HP.out.c0
    go_region_with (go_at_call 5; refine Calls.mono HP.out.push ?_; rintro e w2 ⟨rfl, hr2, hf2⟩; obtain ⟨w3, hrun3, hm3, ht3⟩ := HP.out.store w2 hf2; have d0 := hr2.kb.cells.1.1; have d6 := turned_cell ht3 hr2.kb.cells.1.2.2.2.2; have e6 : w3.frozen? ⟨K, 6, none⟩ = false := (World.mapTurned.frozen ht3 _).trans hr2.kb.cells.2.2.2.2.2; have HR : Hid _ := And.intro hr2 (And.intro hf2 (And.intro hm3 ht3)); clear hr2 hf2 hm3 ht3)
    all_goals go_wp2_with fail
    all_goals go_ret
    all_goals (obtain ⟨r1, r2, r3, r4⟩ := HR.out; exact ⟨rfl, w2, w3, r1, r2, r3, r4, by simp⟩)

theorem Kept.pre {A : Nat} {T : Nat → ByteArray} {W : World} {K M n : Nat} {es ss ids : List Nat} (h : Kept A T W K M n es ss ids) (hn : n ≤ 1000) (hes : es.length ≤ 1000) (t : ByteArray) (hnew : ∀ i ∈ ids, T i ≠ t) (ht : t.size ≤ 65536) (g : Nat) :
    Pre W.drew K M n g W.heap.size (tot T ids) t es ss (pairs T ids es) := by
  have hr : Ring W.drew K (.map (some M)) (tot T ids) es ss := h.ring.of_blocks (fun _ _ => rfl)
  refine ⟨(hr.push g hes).mono (fun e w' hp => ⟨hp.1, hp.2.1, hp.2.2.1⟩), hr.kb.cells.1.1, fun w2 hf => ?_⟩
  obtain ⟨me, mc, hM⟩ := h.mp.block
  have hm2 : MapIs w2 M n (pairs T ids es) := h.mp.of_block (hf.block M (lt_of_get hM) h.apart)
  exact hm2.store (by unfold maxLen; omega) (by unfold maxLen; omega) (fun b hb => by
    obtain ⟨i, hi, h1, _⟩ := (pairs_mem T _ _ _ _ h.len).1 hb
    exact hnew _ (getD_mem0 (by rw [h.len]; exact hi)) (bytes_inj h1).symm) W.heap.size

theorem Kept.popped {A : Nat} {T : Nat → ByteArray} {w w1 : World} {K M n f s i : Nat} {es ss ids : List Nat} (h : Kept A T w K M n (f :: es) (s :: ss) (i :: ids))
    (hr : Ring w1 K (.map (some M)) (tot T (i :: ids)) es ss) (hf : Fr w.drew w1 (K :: f :: es)) :
    FrK A w w1 ∧ SB w1 s (T i) ∧ MapIs w1 M n (((T i).data.toList, f) :: pairs T ids es) ∧ (∀ b, ((T i).data.toList, b) ∉ pairs T ids es) := by
  have hfk : FrK A w w1 := (FrK.refl A w).drew.trans (FrK.of_fr hf (Nat.le_trans h.aK (Nat.le_of_lt h.ring.kb.lt)) (fun b hb => ⟨by
    rcases List.mem_cons.1 hb with rfl | hb
    · exact h.aK
    · exact h.aes b hb, h.ring.kind hb⟩))
  obtain ⟨me, mc, hM⟩ := h.mp.block
  refine ⟨hfk, (h.sb 0 (by simp)).of hfk, h.mp.of_block (hf.block M (lt_of_get hM) h.apart), fun b hb => ?_⟩
  have hl : ids.length = es.length := by have := h.len; simpa using this
  obtain ⟨j, hj, h1, _⟩ := (pairs_mem T _ _ _ _ hl).1 hb
  have hm := getD_mem0 (es := ids) (i := j) (by omega)
  have := h.inj i (by simp) _ (List.mem_cons_of_mem _ hm) (bytes_inj h1)
  exact (List.nodup_cons.1 h.nodup).1 (by rw [this]; exact hm)

theorem Kept.dropped {A : Nat} {T : Nat → ByteArray} {w w1 w2 : World} {K M n f s i : Nat} {es ss ids : List Nat} (h : Kept A T w K M n (f :: es) (s :: ss) (i :: ids))
    (hr : Ring w1 K (.map (some M)) (tot T (i :: ids)) es ss) (hf : Fr w.drew w1 (K :: f :: es)) (hmp : MapIs w2 M n (pairs T ids es)) (htn : w1.drew.mapTurned w2 M) :
    Kept A T (w2.drew.setCell ⟨K, 6, none⟩ (.int .i64 (tot T ids))) K M n es ss ids ∧ FrK A w (w2.drew.setCell ⟨K, 6, none⟩ (.int .i64 (tot T ids))) := by
  have hfk := (h.popped hr hf).1
  have hM2 : ∃ es' cl', w1.heap[M]? = some (.map es' cl') := by
    obtain ⟨a, b, _, _, h, _⟩ := htn
    exact ⟨a, b, h⟩
  obtain ⟨me, mc, hMb⟩ := hM2
  have hnot : M ∉ K :: es := fun hm => by
    obtain ⟨cs, t, z, h, _⟩ := hr.kind hm
    rw [hMb] at h
    simp at h
  have hr2 : Ring w2.drew K (.map (some M)) (tot T (i :: ids)) es ss := by
    refine hr.of_blocks (fun b hb => ?_)
    obtain ⟨a1, a2, a3, a4, h, rfl⟩ := htn
    exact Go.ChangeMaps.heap_setBlock_other h _ (fun eb => hnot (by rw [← eb]; exact hb))
  have hf4 : FrK A w (w2.drew.setCell ⟨K, 6, none⟩ (.int .i64 (tot T ids))) := ((hfk.drew.trans (FrK.turned htn h.aM)).drew).trans (FrK.setK hr2.kb h.aK 6 _)
  refine ⟨⟨hr2.setSize _, hmp.of_block ?_, by have := h.len; simpa using this, ?_, (List.nodup_cons.1 h.nodup).2, ?_, ?_, h.aK, h.aM, ?_⟩, hf4⟩
  · exact heap_setCell_other _ _ _ _ (fun e => hnot (by simp at e; simp [e]))
  · intro j hj
    exact (h.sb (j + 1) (by simpa using hj)).of hf4
  · exact fun a ha b hb => h.inj a (List.mem_cons_of_mem _ ha) b (List.mem_cons_of_mem _ hb)
  · exact fun a ha => h.le a (List.mem_cons_of_mem _ ha)
  · exact fun a ha => h.aes a (List.mem_cons_of_mem _ ha)

theorem tot_le {T : Nat → ByteArray} : ∀ (ids : List Nat), (∀ i ∈ ids, (T i).size ≤ 65536) → tot T ids ≤ 65536 * ids.length
  | [], _ => by simp [tot]
  | i :: l, h => by
    have := tot_le l (fun j hj => h j (by simp [hj]))
    have := h i (by simp)
    simp [tot]; omega

end Go.Proofs.Ybulkciry
