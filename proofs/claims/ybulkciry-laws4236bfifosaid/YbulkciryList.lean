/-
  container/list ON THE ROAD OF 'engine.LawS4236BFifo', BY CONTRACTS ON BLOCKS.
-/
import Derived.Test.YbulkciryRows
import Derived.ProofKit
import Derived.Handy
import Derived.Laws.Rows
import Derived.BigQuiet
import Derived.LaidEqlPtr
namespace Go.Proofs.Ybulkciry
open Go.RowKit
set_option maxRecDepth 100000
set_option linter.unusedSimpArgs false
set_option linter.unusedVariables false

/-- The list's own block, within keptStatements. -/
def KB (w : World) (K : Nat) (m nx pv : Value) (len size : Int) : Prop :=
  w.heap[K]? = some (.cells #[m, nx, pv, .pointer none, .nilIface, .int .i64 len, .int .i64 size] 32 (0, 0))
/-- An element's block. -/
def EB (w : World) (e K s : Nat) (nx pv : Value) : Prop :=
  w.heap[e]? = some (.cells #[nx, pv, .pointer (some ⟨K, 1, none⟩), .iface 35 (.pointer (some ⟨s, 0, none⟩))] 28 (0, 0))

theorem KB.cells {w : World} {K : Nat} {m nx pv : Value} {len size : Int} (h : KB w K m nx pv len size) :
    (w.cell? ⟨K, 0, none⟩ = some m ∧ w.cell? ⟨K, 1, none⟩ = some nx ∧ w.cell? ⟨K, 2, none⟩ = some pv ∧ w.cell? ⟨K, 5, none⟩ = some (.int .i64 len) ∧ w.cell? ⟨K, 6, none⟩ = some (.int .i64 size)) ∧
    (w.frozen? ⟨K, 0, none⟩ = false ∧ w.frozen? ⟨K, 1, none⟩ = false ∧ w.frozen? ⟨K, 2, none⟩ = false ∧ w.frozen? ⟨K, 5, none⟩ = false ∧ w.frozen? ⟨K, 6, none⟩ = false) := by
  refine ⟨⟨?_, ?_, ?_, ?_, ?_⟩, ⟨?_, ?_, ?_, ?_, ?_⟩⟩
  all_goals first | exact frozen_of_row _ _ _ _ _ h | (rw [cell_of_row _ _ _ _ _ _ h]; rfl)
theorem EB.cells {w : World} {e K s : Nat} {nx pv : Value} (h : EB w e K s nx pv) :
    (w.cell? ⟨e, 0, none⟩ = some nx ∧ w.cell? ⟨e, 1, none⟩ = some pv ∧ w.cell? ⟨e, 2, none⟩ = some (.pointer (some ⟨K, 1, none⟩)) ∧ w.cell? ⟨e, 3, none⟩ = some (.iface 35 (.pointer (some ⟨s, 0, none⟩)))) ∧
    (w.frozen? ⟨e, 0, none⟩ = false ∧ w.frozen? ⟨e, 1, none⟩ = false ∧ w.frozen? ⟨e, 2, none⟩ = false ∧ w.frozen? ⟨e, 3, none⟩ = false) := by
  refine ⟨⟨?_, ?_, ?_, ?_⟩, ⟨?_, ?_, ?_, ?_⟩⟩
  all_goals first | exact frozen_of_row _ _ _ _ _ h | (rw [cell_of_row _ _ _ _ _ _ h]; rfl)

theorem len_any (K : Nat) (m nx pv : Value) (len size : Int) (w : World) (h : KB w K m nx pv len size) :
    Calls Yba.prog 7 #[.pointer (some ⟨K, 1, none⟩)] w fun e w' => e = .returned (.int .i64 len) ∧ w' = w := by
  obtain ⟨⟨c0, c1, c2, c5, c6⟩, f0, f1, f2, f5, f6⟩ := h.cells
  go_enter Yba.func7, Yba.ntmps7
  go_wp2
  go_ret
  exact ⟨rfl, rfl⟩

theorem front_none (K : Nat) (m nx pv : Value) (size : Int) (w : World) (h : KB w K m nx pv 0 size) :
    Calls Yba.prog 8 #[.pointer (some ⟨K, 1, none⟩)] w fun e w' => e = .returned (.pointer none) ∧ w' = w := by
  obtain ⟨⟨c0, c1, c2, c5, c6⟩, f0, f1, f2, f5, f6⟩ := h.cells
  go_enter Yba.func8, Yba.ntmps8
  go_wp2
  go_ret
  exact ⟨rfl, rfl⟩

theorem front_some (K b : Nat) (m pv : Value) (len size : Int) (hl : ¬ len = 0) (w : World) (h : KB w K m (.pointer (some ⟨b, 0, none⟩)) pv len size) :
    Calls Yba.prog 8 #[.pointer (some ⟨K, 1, none⟩)] w fun e w' => e = .returned (.pointer (some ⟨b, 0, none⟩)) ∧ w' = w := by
  obtain ⟨⟨c0, c1, c2, c5, c6⟩, f0, f1, f2, f5, f6⟩ := h.cells
  go_enter Yba.func8, Yba.ntmps8
  go_wp2
  go_ret
  exact ⟨rfl, rfl⟩

theorem back_some (K b : Nat) (m nx : Value) (len size : Int) (hl : ¬ len = 0) (w : World) (h : KB w K m nx (.pointer (some ⟨b, 0, none⟩)) len size) :
    Calls Yba.prog 11 #[.pointer (some ⟨K, 1, none⟩)] w fun e w' => e = .returned (.pointer (some ⟨b, 0, none⟩)) ∧ w' = w := by
  obtain ⟨⟨c0, c1, c2, c5, c6⟩, f0, f1, f2, f5, f6⟩ := h.cells
  go_enter Yba.func11, Yba.ntmps11
  go_wp2
  go_ret
  exact ⟨rfl, rfl⟩

theorem KB.ne {w : World} {K l s : Nat} {m nx pv nx' pv' : Value} {len size : Int} (h : KB w K m nx pv len size) (hl : EB w l K s nx' pv') : ¬ K = l ∧ ¬ l = K ∧ K < w.heap.size ∧ l < w.heap.size := by
  have hK := World.block_lt_of_cell? _ _ h.cells.1.1
  have hL := World.block_lt_of_cell? _ _ hl.cells.1.1
  have hne : ¬ K = l := by
    rintro rfl
    unfold KB at h
    unfold EB at hl
    rw [h] at hl
    simp at hl
  exact ⟨hne, fun e => hne e.symm, hK, hL⟩

theorem info28 : ((Yba.prog.info? 28).map (·.size)) = some 4 := by kernel_rfl
theorem info30 : ((Yba.prog.info? 30).map (·.size)) = some 5 := by kernel_rfl
theorem info39 : ((Yba.prog.info? 39).map (·.size)) = some 4 := by kernel_rfl
theorem run_neq_ptr_same {P : Program} (w : World) {tp te : TypeId} {j : TypeInfo} (a : Addr) (hp : P.underlying tp = some (.pointer te)) (hte : P.info? te = some j) :
    (binOp .neq tp (.pointer (some a)) (.pointer (some a))).run P w = .ok (.bool false) w := by
  have h : ∀ d : Nat, (Op.equalIn (d + 1) tp (.pointer (some a)) (.pointer (some a))).run P w = .ok true w := fun d => by
    simp [Op.equalIn, run_underlying hp, sizeOf, typeInfo, hte, run_sameAddr_same]
  simp only [binOp]
  simp [Op.equal, Op.maxDepth, h 9999]
theorem run_neq_ptr_other {P : Program} (w : World) {tp te : TypeId} {j : TypeInfo} {a b : Addr} {ca cb : Array Value} {ta tb : TypeId} (hp : P.underlying tp = some (.pointer te)) (hte : P.info? te = some j) (hsz : j.size ≠ 0)
    (hne : a ≠ b) (ha : w.heap[a.block]? = some (.cells ca ta (0, 0))) (hb : w.heap[b.block]? = some (.cells cb tb (0, 0))) :
    (binOp .neq tp (.pointer (some a)) (.pointer (some b))).run P w = .ok (.bool true) w := by
  have h : ∀ d : Nat, (Op.equalIn (d + 1) tp (.pointer (some a)) (.pointer (some b))).run P w = .ok false w := fun d => by
    simp [Op.equalIn, run_underlying hp, sizeOf, typeInfo, hte, hsz, run_sameAddr_other w hne ha hb]
  simp only [binOp]
  simp [Op.equal, Op.maxDepth, h 9999]
theorem eqs25 (a : Addr) (w : World) : (binOp .eql 25 (.pointer (some a)) (.pointer (some a))).run Yba.prog w = .ok (.bool true) w := by
  obtain ⟨j, hj, _⟩ := Option.map_eq_some_iff.1 info28
  exact run_eql_ptr_same w a Yba.underlying25 hj
theorem nes25 (a : Addr) (w : World) : (binOp .neq 25 (.pointer (some a)) (.pointer (some a))).run Yba.prog w = .ok (.bool false) w := by
  obtain ⟨j, hj, _⟩ := Option.map_eq_some_iff.1 info28
  exact run_neq_ptr_same w a Yba.underlying25 hj
theorem eqo25 {a b : Addr} {ca cb : Array Value} {ta tb : TypeId} (w : World) (hne : a ≠ b) (ha : w.heap[a.block]? = some (.cells ca ta (0, 0))) (hb : w.heap[b.block]? = some (.cells cb tb (0, 0))) : (binOp .eql 25 (.pointer (some a)) (.pointer (some b))).run Yba.prog w = .ok (.bool false) w := by
  obtain ⟨j, hj, hs⟩ := Option.map_eq_some_iff.1 info28
  exact run_eql_ptr_other w Yba.underlying25 hj (by rw [hs]; decide) hne ha hb
theorem neo25 {a b : Addr} {ca cb : Array Value} {ta tb : TypeId} (w : World) (hne : a ≠ b) (ha : w.heap[a.block]? = some (.cells ca ta (0, 0))) (hb : w.heap[b.block]? = some (.cells cb tb (0, 0))) : (binOp .neq 25 (.pointer (some a)) (.pointer (some b))).run Yba.prog w = .ok (.bool true) w := by
  obtain ⟨j, hj, hs⟩ := Option.map_eq_some_iff.1 info28
  exact run_neq_ptr_other w Yba.underlying25 hj (by rw [hs]; decide) hne ha hb
theorem eqs26 (a : Addr) (w : World) : (binOp .eql 26 (.pointer (some a)) (.pointer (some a))).run Yba.prog w = .ok (.bool true) w := by
  obtain ⟨j, hj, _⟩ := Option.map_eq_some_iff.1 info30
  exact run_eql_ptr_same w a Yba.underlying26 hj
theorem nes26 (a : Addr) (w : World) : (binOp .neq 26 (.pointer (some a)) (.pointer (some a))).run Yba.prog w = .ok (.bool false) w := by
  obtain ⟨j, hj, _⟩ := Option.map_eq_some_iff.1 info30
  exact run_neq_ptr_same w a Yba.underlying26 hj
theorem eqo26 {a b : Addr} {ca cb : Array Value} {ta tb : TypeId} (w : World) (hne : a ≠ b) (ha : w.heap[a.block]? = some (.cells ca ta (0, 0))) (hb : w.heap[b.block]? = some (.cells cb tb (0, 0))) : (binOp .eql 26 (.pointer (some a)) (.pointer (some b))).run Yba.prog w = .ok (.bool false) w := by
  obtain ⟨j, hj, hs⟩ := Option.map_eq_some_iff.1 info30
  exact run_eql_ptr_other w Yba.underlying26 hj (by rw [hs]; decide) hne ha hb
theorem neo26 {a b : Addr} {ca cb : Array Value} {ta tb : TypeId} (w : World) (hne : a ≠ b) (ha : w.heap[a.block]? = some (.cells ca ta (0, 0))) (hb : w.heap[b.block]? = some (.cells cb tb (0, 0))) : (binOp .neq 26 (.pointer (some a)) (.pointer (some b))).run Yba.prog w = .ok (.bool true) w := by
  obtain ⟨j, hj, hs⟩ := Option.map_eq_some_iff.1 info30
  exact run_neq_ptr_other w Yba.underlying26 hj (by rw [hs]; decide) hne ha hb
theorem eqs35 (a : Addr) (w : World) : (binOp .eql 35 (.pointer (some a)) (.pointer (some a))).run Yba.prog w = .ok (.bool true) w := by
  obtain ⟨j, hj, _⟩ := Option.map_eq_some_iff.1 info39
  exact run_eql_ptr_same w a Yba.underlying35 hj
theorem nes35 (a : Addr) (w : World) : (binOp .neq 35 (.pointer (some a)) (.pointer (some a))).run Yba.prog w = .ok (.bool false) w := by
  obtain ⟨j, hj, _⟩ := Option.map_eq_some_iff.1 info39
  exact run_neq_ptr_same w a Yba.underlying35 hj
theorem eqo35 {a b : Addr} {ca cb : Array Value} {ta tb : TypeId} (w : World) (hne : a ≠ b) (ha : w.heap[a.block]? = some (.cells ca ta (0, 0))) (hb : w.heap[b.block]? = some (.cells cb tb (0, 0))) : (binOp .eql 35 (.pointer (some a)) (.pointer (some b))).run Yba.prog w = .ok (.bool false) w := by
  obtain ⟨j, hj, hs⟩ := Option.map_eq_some_iff.1 info39
  exact run_eql_ptr_other w Yba.underlying35 hj (by rw [hs]; decide) hne ha hb
theorem neo35 {a b : Addr} {ca cb : Array Value} {ta tb : TypeId} (w : World) (hne : a ≠ b) (ha : w.heap[a.block]? = some (.cells ca ta (0, 0))) (hb : w.heap[b.block]? = some (.cells cb tb (0, 0))) : (binOp .neq 35 (.pointer (some a)) (.pointer (some b))).run Yba.prog w = .ok (.bool true) w := by
  obtain ⟨j, hj, hs⟩ := Option.map_eq_some_iff.1 info39
  exact run_neq_ptr_other w Yba.underlying35 hj (by rw [hs]; decide) hne ha hb
set_option maxHeartbeats 2000000 in
theorem push_more (K f l s s' : Nat) (pv : Value) (m : Value) (len size : Int) (hlen : 0 ≤ len ∧ len ≤ 1000) (w : World) (h : KB w K m (.pointer (some ⟨f, 0, none⟩)) (.pointer (some ⟨l, 0, none⟩)) len size) (hl : EB w l K s (.pointer (some ⟨K, 1, none⟩)) (pv)) :
    Calls Yba.prog 5 #[.pointer (some ⟨K, 1, none⟩), .iface 35 (.pointer (some ⟨s', 0, none⟩))] w fun e w' => e = .returned (.pointer (some ⟨w.heap.size, 0, none⟩)) ∧ w' = ((((w.setCell ⟨l, 0, none⟩ (.pointer (some ⟨w.heap.size, 0, none⟩))).setCell ⟨K, 2, none⟩ (.pointer (some ⟨w.heap.size, 0, none⟩))).setCell ⟨K, 5, none⟩ (.int .i64 (len + 1))).alloc (.cells #[.pointer (some ⟨K, 1, none⟩), .pointer (some ⟨l, 0, none⟩), .pointer (some ⟨K, 1, none⟩), .iface 35 (.pointer (some ⟨s', 0, none⟩))] 28)) := by
  obtain ⟨⟨c0, c1, c2, c5, c6⟩, f0, f1, f2, f5, f6⟩ := h.cells
  have hKl : K < w.heap.size := World.block_lt_of_cell? _ _ c0
  have hK0 : ¬ K = w.heap.size := by omega
  have hK1 : ¬ w.heap.size = K := by omega
  have s25 := eqs25
  have s26 := eqs26
  have t25 := nes25
  have t26 := nes26
  obtain ⟨⟨dl0, dl1, dl2, dl3⟩, gl0, gl1, gl2, gl3⟩ := hl.cells
  obtain ⟨nl0, nl1, _, nl3⟩ := h.ne hl
  have nl4 : ¬ l = w.heap.size := by omega
  have nl5 : ¬ w.heap.size = l := by omega
  have elK : (binOp .eql 25 (.pointer (some ⟨l, 0, none⟩)) (.pointer (some ⟨K, 1, none⟩))).run Yba.prog w = .ok (.bool false) w := eqo25 w (by simp [nl1]) hl h
  have elN : (binOp .neq 25 (.pointer (some ⟨l, 0, none⟩)) (.pointer (some ⟨K, 1, none⟩))).run Yba.prog w = .ok (.bool true) w := neo25 w (by simp [nl1]) hl h
  clear h hl
  go_enter Yba.func5, Yba.ntmps5
  go_wp2
  all_goals go_ret
  all_goals exact ⟨rfl, rfl⟩

set_option maxHeartbeats 2000000 in
theorem push_empty (K s' : Nat) (m : Value) (len size : Int) (hlen : 0 ≤ len ∧ len ≤ 1000) (w : World) (h : KB w K m (.pointer (some ⟨K, 1, none⟩)) (.pointer (some ⟨K, 1, none⟩)) 0 size) :
    Calls Yba.prog 5 #[.pointer (some ⟨K, 1, none⟩), .iface 35 (.pointer (some ⟨s', 0, none⟩))] w fun e w' => e = .returned (.pointer (some ⟨w.heap.size, 0, none⟩)) ∧ w' = ((((w.setCell ⟨K, 1, none⟩ (.pointer (some ⟨w.heap.size, 0, none⟩))).setCell ⟨K, 2, none⟩ (.pointer (some ⟨w.heap.size, 0, none⟩))).setCell ⟨K, 5, none⟩ (.int .i64 1)).alloc (.cells #[.pointer (some ⟨K, 1, none⟩), .pointer (some ⟨K, 1, none⟩), .pointer (some ⟨K, 1, none⟩), .iface 35 (.pointer (some ⟨s', 0, none⟩))] 28)) := by
  obtain ⟨⟨c0, c1, c2, c5, c6⟩, f0, f1, f2, f5, f6⟩ := h.cells
  have hKl : K < w.heap.size := World.block_lt_of_cell? _ _ c0
  have hK0 : ¬ K = w.heap.size := by omega
  have hK1 : ¬ w.heap.size = K := by omega
  have s25 := eqs25
  have s26 := eqs26
  have t25 := nes25
  have t26 := nes26
  clear h
  go_enter Yba.func5, Yba.ntmps5
  go_wp2
  all_goals go_ret
  all_goals exact ⟨rfl, rfl⟩

set_option maxHeartbeats 2000000 in
theorem push_first (K s' : Nat) (m : Value) (len size : Int) (hlen : 0 ≤ len ∧ len ≤ 1000) (w : World) (h : KB w K m (.pointer none) (.pointer none) 0 size) :
    Calls Yba.prog 5 #[.pointer (some ⟨K, 1, none⟩), .iface 35 (.pointer (some ⟨s', 0, none⟩))] w fun e w' => e = .returned (.pointer (some ⟨w.heap.size, 0, none⟩)) ∧ w' = (((((((w.setCell ⟨K, 1, none⟩ (.pointer (some ⟨K, 1, none⟩))).setCell ⟨K, 2, none⟩ (.pointer (some ⟨K, 1, none⟩))).setCell ⟨K, 5, none⟩ (.int .i64 0)).setCell ⟨K, 1, none⟩ (.pointer (some ⟨w.heap.size, 0, none⟩))).setCell ⟨K, 2, none⟩ (.pointer (some ⟨w.heap.size, 0, none⟩))).setCell ⟨K, 5, none⟩ (.int .i64 1)).alloc (.cells #[.pointer (some ⟨K, 1, none⟩), .pointer (some ⟨K, 1, none⟩), .pointer (some ⟨K, 1, none⟩), .iface 35 (.pointer (some ⟨s', 0, none⟩))] 28)) := by
  obtain ⟨⟨c0, c1, c2, c5, c6⟩, f0, f1, f2, f5, f6⟩ := h.cells
  have hKl : K < w.heap.size := World.block_lt_of_cell? _ _ c0
  have hK0 : ¬ K = w.heap.size := by omega
  have hK1 : ¬ w.heap.size = K := by omega
  have s25 := eqs25
  have s26 := eqs26
  have t25 := nes25
  have t26 := nes26
  clear h
  go_enter Yba.func5, Yba.ntmps5
  go_wp2
  all_goals go_ret
  all_goals exact ⟨rfl, rfl⟩

set_option maxHeartbeats 2000000 in
theorem remove_last (K f s : Nat) (m : Value) (len size : Int) (hlen : 0 ≤ len ∧ len ≤ 1000) (w : World) (h : KB w K m (.pointer (some ⟨f, 0, none⟩)) (.pointer (some ⟨f, 0, none⟩)) len size) (hf : EB w f K s (.pointer (some ⟨K, 1, none⟩)) (.pointer (some ⟨K, 1, none⟩))) :
    Calls Yba.prog 26 #[.pointer (some ⟨K, 1, none⟩), .pointer (some ⟨f, 0, none⟩)] w fun e w' => e = .returned (.iface 35 (.pointer (some ⟨s, 0, none⟩))) ∧ w' = ((((((w.setCell ⟨K, 1, none⟩ (.pointer (some ⟨K, 1, none⟩))).setCell ⟨K, 2, none⟩ (.pointer (some ⟨K, 1, none⟩))).setCell ⟨f, 0, none⟩ (.pointer none)).setCell ⟨f, 1, none⟩ (.pointer none)).setCell ⟨f, 2, none⟩ (.pointer none)).setCell ⟨K, 5, none⟩ (.int .i64 (len - 1))).drew.drew := by
  obtain ⟨⟨c0, c1, c2, c5, c6⟩, f0, f1, f2, f5, f6⟩ := h.cells
  have hKl : K < w.heap.size := World.block_lt_of_cell? _ _ c0
  have hK0 : ¬ K = w.heap.size := by omega
  have hK1 : ¬ w.heap.size = K := by omega
  have s25 := eqs25
  have s26 := eqs26
  have t25 := nes25
  have t26 := nes26
  obtain ⟨⟨df0, df1, df2, df3⟩, gf0, gf1, gf2, gf3⟩ := hf.cells
  obtain ⟨nf0, nf1, _, nf3⟩ := h.ne hf
  have nf4 : ¬ f = w.heap.size := by omega
  have nf5 : ¬ w.heap.size = f := by omega
  have efK : (binOp .eql 25 (.pointer (some ⟨f, 0, none⟩)) (.pointer (some ⟨K, 1, none⟩))).run Yba.prog w = .ok (.bool false) w := eqo25 w (by simp [nf1]) hf h
  have efN : (binOp .neq 25 (.pointer (some ⟨f, 0, none⟩)) (.pointer (some ⟨K, 1, none⟩))).run Yba.prog w = .ok (.bool true) w := neo25 w (by simp [nf1]) hf h
  clear h hf
  go_enter Yba.func26, Yba.ntmps26
  go_wp2
  all_goals go_region
  all_goals go_wp2
  all_goals go_region
  all_goals go_wp2
  all_goals go_ret
  all_goals exact ⟨rfl, rfl⟩

set_option maxHeartbeats 2000000 in
theorem remove_more (K f a s s2 : Nat) (pv nx : Value) (hfa : ¬ f = a) (m : Value) (len size : Int) (hlen : 0 ≤ len ∧ len ≤ 1000) (w : World) (h : KB w K m (.pointer (some ⟨f, 0, none⟩)) (pv) len size) (hf : EB w f K s (.pointer (some ⟨a, 0, none⟩)) (.pointer (some ⟨K, 1, none⟩))) (ha : EB w a K s2 (nx) (.pointer (some ⟨f, 0, none⟩))) :
    Calls Yba.prog 26 #[.pointer (some ⟨K, 1, none⟩), .pointer (some ⟨f, 0, none⟩)] w fun e w' => e = .returned (.iface 35 (.pointer (some ⟨s, 0, none⟩))) ∧ w' = ((((((w.setCell ⟨K, 1, none⟩ (.pointer (some ⟨a, 0, none⟩))).setCell ⟨a, 1, none⟩ (.pointer (some ⟨K, 1, none⟩))).setCell ⟨f, 0, none⟩ (.pointer none)).setCell ⟨f, 1, none⟩ (.pointer none)).setCell ⟨f, 2, none⟩ (.pointer none)).setCell ⟨K, 5, none⟩ (.int .i64 (len - 1))).drew.drew := by
  obtain ⟨⟨c0, c1, c2, c5, c6⟩, f0, f1, f2, f5, f6⟩ := h.cells
  have hKl : K < w.heap.size := World.block_lt_of_cell? _ _ c0
  have hK0 : ¬ K = w.heap.size := by omega
  have hK1 : ¬ w.heap.size = K := by omega
  have s25 := eqs25
  have s26 := eqs26
  have t25 := nes25
  have t26 := nes26
  obtain ⟨⟨df0, df1, df2, df3⟩, gf0, gf1, gf2, gf3⟩ := hf.cells
  obtain ⟨nf0, nf1, _, nf3⟩ := h.ne hf
  have nf4 : ¬ f = w.heap.size := by omega
  have nf5 : ¬ w.heap.size = f := by omega
  have efK : (binOp .eql 25 (.pointer (some ⟨f, 0, none⟩)) (.pointer (some ⟨K, 1, none⟩))).run Yba.prog w = .ok (.bool false) w := eqo25 w (by simp [nf1]) hf h
  have efN : (binOp .neq 25 (.pointer (some ⟨f, 0, none⟩)) (.pointer (some ⟨K, 1, none⟩))).run Yba.prog w = .ok (.bool true) w := neo25 w (by simp [nf1]) hf h
  obtain ⟨⟨da0, da1, da2, da3⟩, ga0, ga1, ga2, ga3⟩ := ha.cells
  obtain ⟨na0, na1, _, na3⟩ := h.ne ha
  have na4 : ¬ a = w.heap.size := by omega
  have na5 : ¬ w.heap.size = a := by omega
  have eaK : (binOp .eql 25 (.pointer (some ⟨a, 0, none⟩)) (.pointer (some ⟨K, 1, none⟩))).run Yba.prog w = .ok (.bool false) w := eqo25 w (by simp [na1]) ha h
  have eaN : (binOp .neq 25 (.pointer (some ⟨a, 0, none⟩)) (.pointer (some ⟨K, 1, none⟩))).run Yba.prog w = .ok (.bool true) w := neo25 w (by simp [na1]) ha h
  have qfa : ¬ f = a := hfa
  have qaf : ¬ a = f := fun e => hfa e.symm
  have rrfa : (binOp .eql 25 (.pointer (some ⟨f, 0, none⟩)) (.pointer (some ⟨a, 0, none⟩))).run Yba.prog w = .ok (.bool false) w := eqo25 w (by simp [qfa]) hf ha
  have rraf : (binOp .eql 25 (.pointer (some ⟨a, 0, none⟩)) (.pointer (some ⟨f, 0, none⟩))).run Yba.prog w = .ok (.bool false) w := eqo25 w (by simp [qaf]) ha hf
  clear h hf ha
  go_enter Yba.func26, Yba.ntmps26
  go_wp2
  all_goals go_region
  all_goals go_wp2
  all_goals go_region
  all_goals go_wp2
  all_goals go_ret
  all_goals exact ⟨rfl, rfl⟩

set_option maxHeartbeats 2000000 in
theorem next_last (K f s : Nat) (pv nx pv' : Value) (m : Value) (len size : Int) (hlen : 0 ≤ len ∧ len ≤ 1000) (w : World) (h : KB w K m (nx) (pv') len size) (hf : EB w f K s (.pointer (some ⟨K, 1, none⟩)) (pv)) :
    Calls Yba.prog 10 #[.pointer (some ⟨f, 0, none⟩)] w fun e w' => e = .returned (.pointer none) ∧ w' = w := by
  obtain ⟨⟨c0, c1, c2, c5, c6⟩, f0, f1, f2, f5, f6⟩ := h.cells
  have hKl : K < w.heap.size := World.block_lt_of_cell? _ _ c0
  have hK0 : ¬ K = w.heap.size := by omega
  have hK1 : ¬ w.heap.size = K := by omega
  have s25 := eqs25
  have s26 := eqs26
  have t25 := nes25
  have t26 := nes26
  obtain ⟨⟨df0, df1, df2, df3⟩, gf0, gf1, gf2, gf3⟩ := hf.cells
  obtain ⟨nf0, nf1, _, nf3⟩ := h.ne hf
  have nf4 : ¬ f = w.heap.size := by omega
  have nf5 : ¬ w.heap.size = f := by omega
  have efK : (binOp .eql 25 (.pointer (some ⟨f, 0, none⟩)) (.pointer (some ⟨K, 1, none⟩))).run Yba.prog w = .ok (.bool false) w := eqo25 w (by simp [nf1]) hf h
  have efN : (binOp .neq 25 (.pointer (some ⟨f, 0, none⟩)) (.pointer (some ⟨K, 1, none⟩))).run Yba.prog w = .ok (.bool true) w := neo25 w (by simp [nf1]) hf h
  clear h hf
  go_enter Yba.func10, Yba.ntmps10
  go_wp2
  all_goals go_ret
  all_goals exact ⟨rfl, rfl⟩

set_option maxHeartbeats 2000000 in
theorem next_more (K f a s s2 : Nat) (pv nx pv' pv2 nx2 : Value) (m : Value) (len size : Int) (hlen : 0 ≤ len ∧ len ≤ 1000) (w : World) (h : KB w K m (nx) (pv') len size) (hf : EB w f K s (.pointer (some ⟨a, 0, none⟩)) (pv)) (ha : EB w a K s2 (nx2) (pv2)) :
    Calls Yba.prog 10 #[.pointer (some ⟨f, 0, none⟩)] w fun e w' => e = .returned (.pointer (some ⟨a, 0, none⟩)) ∧ w' = w := by
  obtain ⟨⟨c0, c1, c2, c5, c6⟩, f0, f1, f2, f5, f6⟩ := h.cells
  have hKl : K < w.heap.size := World.block_lt_of_cell? _ _ c0
  have hK0 : ¬ K = w.heap.size := by omega
  have hK1 : ¬ w.heap.size = K := by omega
  have s25 := eqs25
  have s26 := eqs26
  have t25 := nes25
  have t26 := nes26
  obtain ⟨⟨df0, df1, df2, df3⟩, gf0, gf1, gf2, gf3⟩ := hf.cells
  obtain ⟨nf0, nf1, _, nf3⟩ := h.ne hf
  have nf4 : ¬ f = w.heap.size := by omega
  have nf5 : ¬ w.heap.size = f := by omega
  have efK : (binOp .eql 25 (.pointer (some ⟨f, 0, none⟩)) (.pointer (some ⟨K, 1, none⟩))).run Yba.prog w = .ok (.bool false) w := eqo25 w (by simp [nf1]) hf h
  have efN : (binOp .neq 25 (.pointer (some ⟨f, 0, none⟩)) (.pointer (some ⟨K, 1, none⟩))).run Yba.prog w = .ok (.bool true) w := neo25 w (by simp [nf1]) hf h
  obtain ⟨⟨da0, da1, da2, da3⟩, ga0, ga1, ga2, ga3⟩ := ha.cells
  obtain ⟨na0, na1, _, na3⟩ := h.ne ha
  have na4 : ¬ a = w.heap.size := by omega
  have na5 : ¬ w.heap.size = a := by omega
  have eaK : (binOp .eql 25 (.pointer (some ⟨a, 0, none⟩)) (.pointer (some ⟨K, 1, none⟩))).run Yba.prog w = .ok (.bool false) w := eqo25 w (by simp [na1]) ha h
  have eaN : (binOp .neq 25 (.pointer (some ⟨a, 0, none⟩)) (.pointer (some ⟨K, 1, none⟩))).run Yba.prog w = .ok (.bool true) w := neo25 w (by simp [na1]) ha h
  clear h hf ha
  go_enter Yba.func10, Yba.ntmps10
  go_wp2
  all_goals go_ret
  all_goals exact ⟨rfl, rfl⟩

set_option maxHeartbeats 2000000 in
theorem toback_last (K f s : Nat) (pv nx : Value) (m : Value) (len size : Int) (hlen : 0 ≤ len ∧ len ≤ 1000) (w : World) (h : KB w K m (nx) (.pointer (some ⟨f, 0, none⟩)) len size) (hf : EB w f K s (.pointer (some ⟨K, 1, none⟩)) (pv)) :
    Calls Yba.prog 19 #[.pointer (some ⟨K, 1, none⟩), .pointer (some ⟨f, 0, none⟩)] w fun e w' => e = .returned (.tuple #[]) ∧ w' = w := by
  obtain ⟨⟨c0, c1, c2, c5, c6⟩, f0, f1, f2, f5, f6⟩ := h.cells
  have hKl : K < w.heap.size := World.block_lt_of_cell? _ _ c0
  have hK0 : ¬ K = w.heap.size := by omega
  have hK1 : ¬ w.heap.size = K := by omega
  have s25 := eqs25
  have s26 := eqs26
  have t25 := nes25
  have t26 := nes26
  obtain ⟨⟨df0, df1, df2, df3⟩, gf0, gf1, gf2, gf3⟩ := hf.cells
  obtain ⟨nf0, nf1, _, nf3⟩ := h.ne hf
  have nf4 : ¬ f = w.heap.size := by omega
  have nf5 : ¬ w.heap.size = f := by omega
  have efK : (binOp .eql 25 (.pointer (some ⟨f, 0, none⟩)) (.pointer (some ⟨K, 1, none⟩))).run Yba.prog w = .ok (.bool false) w := eqo25 w (by simp [nf1]) hf h
  have efN : (binOp .neq 25 (.pointer (some ⟨f, 0, none⟩)) (.pointer (some ⟨K, 1, none⟩))).run Yba.prog w = .ok (.bool true) w := neo25 w (by simp [nf1]) hf h
  clear h hf
  go_enter Yba.func19, Yba.ntmps19
  go_wp2
  all_goals first | exact bodyPost_end (v := .tuple #[]) (by simp [results, Yba.results19]) rfl ⟨rfl, rfl⟩ | exact bodyPost_ret (v := .tuple #[]) (by simp [results, Yba.results19]) rfl ⟨rfl, rfl⟩

set_option maxHeartbeats 2000000 in
theorem toback_ra (K f a s s2 : Nat) (hfa : ¬ f = a) (m : Value) (len size : Int) (hlen : 0 ≤ len ∧ len ≤ 1000) (w : World) (h : KB w K m (.pointer (some ⟨f, 0, none⟩)) (.pointer (some ⟨a, 0, none⟩)) len size) (hf : EB w f K s (.pointer (some ⟨a, 0, none⟩)) (.pointer (some ⟨K, 1, none⟩))) (ha : EB w a K s2 (.pointer (some ⟨K, 1, none⟩)) (.pointer (some ⟨f, 0, none⟩))) :
    Calls Yba.prog 19 #[.pointer (some ⟨K, 1, none⟩), .pointer (some ⟨f, 0, none⟩)] w fun e w' => e = .returned (.tuple #[]) ∧ w' = ((((((w.setCell ⟨K, 1, none⟩ (.pointer (some ⟨a, 0, none⟩))).setCell ⟨a, 1, none⟩ (.pointer (some ⟨K, 1, none⟩))).setCell ⟨f, 1, none⟩ (.pointer (some ⟨a, 0, none⟩))).setCell ⟨f, 0, none⟩ (.pointer (some ⟨K, 1, none⟩))).setCell ⟨a, 0, none⟩ (.pointer (some ⟨f, 0, none⟩))).setCell ⟨K, 2, none⟩ (.pointer (some ⟨f, 0, none⟩))).drew.drew := by
  obtain ⟨⟨c0, c1, c2, c5, c6⟩, f0, f1, f2, f5, f6⟩ := h.cells
  have hKl : K < w.heap.size := World.block_lt_of_cell? _ _ c0
  have hK0 : ¬ K = w.heap.size := by omega
  have hK1 : ¬ w.heap.size = K := by omega
  have s25 := eqs25
  have s26 := eqs26
  have t25 := nes25
  have t26 := nes26
  obtain ⟨⟨df0, df1, df2, df3⟩, gf0, gf1, gf2, gf3⟩ := hf.cells
  obtain ⟨nf0, nf1, _, nf3⟩ := h.ne hf
  have nf4 : ¬ f = w.heap.size := by omega
  have nf5 : ¬ w.heap.size = f := by omega
  have efK : (binOp .eql 25 (.pointer (some ⟨f, 0, none⟩)) (.pointer (some ⟨K, 1, none⟩))).run Yba.prog w = .ok (.bool false) w := eqo25 w (by simp [nf1]) hf h
  have efN : (binOp .neq 25 (.pointer (some ⟨f, 0, none⟩)) (.pointer (some ⟨K, 1, none⟩))).run Yba.prog w = .ok (.bool true) w := neo25 w (by simp [nf1]) hf h
  obtain ⟨⟨da0, da1, da2, da3⟩, ga0, ga1, ga2, ga3⟩ := ha.cells
  obtain ⟨na0, na1, _, na3⟩ := h.ne ha
  have na4 : ¬ a = w.heap.size := by omega
  have na5 : ¬ w.heap.size = a := by omega
  have eaK : (binOp .eql 25 (.pointer (some ⟨a, 0, none⟩)) (.pointer (some ⟨K, 1, none⟩))).run Yba.prog w = .ok (.bool false) w := eqo25 w (by simp [na1]) ha h
  have eaN : (binOp .neq 25 (.pointer (some ⟨a, 0, none⟩)) (.pointer (some ⟨K, 1, none⟩))).run Yba.prog w = .ok (.bool true) w := neo25 w (by simp [na1]) ha h
  have qfa : ¬ f = a := hfa
  have qaf : ¬ a = f := fun e => hfa e.symm
  have rrfa : (binOp .eql 25 (.pointer (some ⟨f, 0, none⟩)) (.pointer (some ⟨a, 0, none⟩))).run Yba.prog w = .ok (.bool false) w := eqo25 w (by simp [qfa]) hf ha
  have rraf : (binOp .eql 25 (.pointer (some ⟨a, 0, none⟩)) (.pointer (some ⟨f, 0, none⟩))).run Yba.prog w = .ok (.bool false) w := eqo25 w (by simp [qaf]) ha hf
  clear h hf ha
  go_enter Yba.func19, Yba.ntmps19
  go_wp2
  all_goals go_region
  all_goals go_wp2
  all_goals go_region
  all_goals go_wp2
  all_goals first | exact bodyPost_end (v := .tuple #[]) (by simp [results, Yba.results19]) rfl ⟨rfl, rfl⟩ | exact bodyPost_ret (v := .tuple #[]) (by simp [results, Yba.results19]) rfl ⟨rfl, rfl⟩

set_option maxHeartbeats 2000000 in
theorem toback_rl (K f a l s s2 s3 : Nat) (nx pv : Value) (hfa : ¬ f = a) (hfl : ¬ f = l) (hal : ¬ a = l) (m : Value) (len size : Int) (hlen : 0 ≤ len ∧ len ≤ 1000) (w : World) (h : KB w K m (.pointer (some ⟨f, 0, none⟩)) (.pointer (some ⟨l, 0, none⟩)) len size) (hf : EB w f K s (.pointer (some ⟨a, 0, none⟩)) (.pointer (some ⟨K, 1, none⟩))) (ha : EB w a K s2 (nx) (.pointer (some ⟨f, 0, none⟩))) (hl : EB w l K s3 (.pointer (some ⟨K, 1, none⟩)) (pv)) :
    Calls Yba.prog 19 #[.pointer (some ⟨K, 1, none⟩), .pointer (some ⟨f, 0, none⟩)] w fun e w' => e = .returned (.tuple #[]) ∧ w' = ((((((w.setCell ⟨K, 1, none⟩ (.pointer (some ⟨a, 0, none⟩))).setCell ⟨a, 1, none⟩ (.pointer (some ⟨K, 1, none⟩))).setCell ⟨f, 1, none⟩ (.pointer (some ⟨l, 0, none⟩))).setCell ⟨f, 0, none⟩ (.pointer (some ⟨K, 1, none⟩))).setCell ⟨l, 0, none⟩ (.pointer (some ⟨f, 0, none⟩))).setCell ⟨K, 2, none⟩ (.pointer (some ⟨f, 0, none⟩))).drew.drew := by
  obtain ⟨⟨c0, c1, c2, c5, c6⟩, f0, f1, f2, f5, f6⟩ := h.cells
  have hKl : K < w.heap.size := World.block_lt_of_cell? _ _ c0
  have hK0 : ¬ K = w.heap.size := by omega
  have hK1 : ¬ w.heap.size = K := by omega
  have s25 := eqs25
  have s26 := eqs26
  have t25 := nes25
  have t26 := nes26
  obtain ⟨⟨df0, df1, df2, df3⟩, gf0, gf1, gf2, gf3⟩ := hf.cells
  obtain ⟨nf0, nf1, _, nf3⟩ := h.ne hf
  have nf4 : ¬ f = w.heap.size := by omega
  have nf5 : ¬ w.heap.size = f := by omega
  have efK : (binOp .eql 25 (.pointer (some ⟨f, 0, none⟩)) (.pointer (some ⟨K, 1, none⟩))).run Yba.prog w = .ok (.bool false) w := eqo25 w (by simp [nf1]) hf h
  have efN : (binOp .neq 25 (.pointer (some ⟨f, 0, none⟩)) (.pointer (some ⟨K, 1, none⟩))).run Yba.prog w = .ok (.bool true) w := neo25 w (by simp [nf1]) hf h
  obtain ⟨⟨da0, da1, da2, da3⟩, ga0, ga1, ga2, ga3⟩ := ha.cells
  obtain ⟨na0, na1, _, na3⟩ := h.ne ha
  have na4 : ¬ a = w.heap.size := by omega
  have na5 : ¬ w.heap.size = a := by omega
  have eaK : (binOp .eql 25 (.pointer (some ⟨a, 0, none⟩)) (.pointer (some ⟨K, 1, none⟩))).run Yba.prog w = .ok (.bool false) w := eqo25 w (by simp [na1]) ha h
  have eaN : (binOp .neq 25 (.pointer (some ⟨a, 0, none⟩)) (.pointer (some ⟨K, 1, none⟩))).run Yba.prog w = .ok (.bool true) w := neo25 w (by simp [na1]) ha h
  obtain ⟨⟨dl0, dl1, dl2, dl3⟩, gl0, gl1, gl2, gl3⟩ := hl.cells
  obtain ⟨nl0, nl1, _, nl3⟩ := h.ne hl
  have nl4 : ¬ l = w.heap.size := by omega
  have nl5 : ¬ w.heap.size = l := by omega
  have elK : (binOp .eql 25 (.pointer (some ⟨l, 0, none⟩)) (.pointer (some ⟨K, 1, none⟩))).run Yba.prog w = .ok (.bool false) w := eqo25 w (by simp [nl1]) hl h
  have elN : (binOp .neq 25 (.pointer (some ⟨l, 0, none⟩)) (.pointer (some ⟨K, 1, none⟩))).run Yba.prog w = .ok (.bool true) w := neo25 w (by simp [nl1]) hl h
  have qfa : ¬ f = a := hfa
  have qaf : ¬ a = f := fun e => hfa e.symm
  have rrfa : (binOp .eql 25 (.pointer (some ⟨f, 0, none⟩)) (.pointer (some ⟨a, 0, none⟩))).run Yba.prog w = .ok (.bool false) w := eqo25 w (by simp [qfa]) hf ha
  have rraf : (binOp .eql 25 (.pointer (some ⟨a, 0, none⟩)) (.pointer (some ⟨f, 0, none⟩))).run Yba.prog w = .ok (.bool false) w := eqo25 w (by simp [qaf]) ha hf
  have qfl : ¬ f = l := hfl
  have qlf : ¬ l = f := fun e => hfl e.symm
  have rrfl : (binOp .eql 25 (.pointer (some ⟨f, 0, none⟩)) (.pointer (some ⟨l, 0, none⟩))).run Yba.prog w = .ok (.bool false) w := eqo25 w (by simp [qfl]) hf hl
  have rrlf : (binOp .eql 25 (.pointer (some ⟨l, 0, none⟩)) (.pointer (some ⟨f, 0, none⟩))).run Yba.prog w = .ok (.bool false) w := eqo25 w (by simp [qlf]) hl hf
  have qal : ¬ a = l := hal
  have qla : ¬ l = a := fun e => hal e.symm
  have rral : (binOp .eql 25 (.pointer (some ⟨a, 0, none⟩)) (.pointer (some ⟨l, 0, none⟩))).run Yba.prog w = .ok (.bool false) w := eqo25 w (by simp [qal]) ha hl
  have rrla : (binOp .eql 25 (.pointer (some ⟨l, 0, none⟩)) (.pointer (some ⟨a, 0, none⟩))).run Yba.prog w = .ok (.bool false) w := eqo25 w (by simp [qla]) hl ha
  clear h hf ha hl
  go_enter Yba.func19, Yba.ntmps19
  go_wp2
  all_goals go_region
  all_goals go_wp2
  all_goals go_region
  all_goals go_wp2
  all_goals first | exact bodyPost_end (v := .tuple #[]) (by simp [results, Yba.results19]) rfl ⟨rfl, rfl⟩ | exact bodyPost_ret (v := .tuple #[]) (by simp [results, Yba.results19]) rfl ⟨rfl, rfl⟩

set_option maxHeartbeats 2000000 in
theorem toback_pa (K p f a s s2 s0 : Nat) (nx pv : Value) (hfa : ¬ f = a) (hpf : ¬ p = f) (hpa : ¬ p = a) (m : Value) (len size : Int) (hlen : 0 ≤ len ∧ len ≤ 1000) (w : World) (h : KB w K m (nx) (.pointer (some ⟨a, 0, none⟩)) len size) (hp : EB w p K s0 (.pointer (some ⟨f, 0, none⟩)) (pv)) (hf : EB w f K s (.pointer (some ⟨a, 0, none⟩)) (.pointer (some ⟨p, 0, none⟩))) (ha : EB w a K s2 (.pointer (some ⟨K, 1, none⟩)) (.pointer (some ⟨f, 0, none⟩))) :
    Calls Yba.prog 19 #[.pointer (some ⟨K, 1, none⟩), .pointer (some ⟨f, 0, none⟩)] w fun e w' => e = .returned (.tuple #[]) ∧ w' = ((((((w.setCell ⟨p, 0, none⟩ (.pointer (some ⟨a, 0, none⟩))).setCell ⟨a, 1, none⟩ (.pointer (some ⟨p, 0, none⟩))).setCell ⟨f, 1, none⟩ (.pointer (some ⟨a, 0, none⟩))).setCell ⟨f, 0, none⟩ (.pointer (some ⟨K, 1, none⟩))).setCell ⟨a, 0, none⟩ (.pointer (some ⟨f, 0, none⟩))).setCell ⟨K, 2, none⟩ (.pointer (some ⟨f, 0, none⟩))).drew.drew := by
  obtain ⟨⟨c0, c1, c2, c5, c6⟩, f0, f1, f2, f5, f6⟩ := h.cells
  have hKl : K < w.heap.size := World.block_lt_of_cell? _ _ c0
  have hK0 : ¬ K = w.heap.size := by omega
  have hK1 : ¬ w.heap.size = K := by omega
  have s25 := eqs25
  have s26 := eqs26
  have t25 := nes25
  have t26 := nes26
  obtain ⟨⟨dp0, dp1, dp2, dp3⟩, gp0, gp1, gp2, gp3⟩ := hp.cells
  obtain ⟨np0, np1, _, np3⟩ := h.ne hp
  have np4 : ¬ p = w.heap.size := by omega
  have np5 : ¬ w.heap.size = p := by omega
  have epK : (binOp .eql 25 (.pointer (some ⟨p, 0, none⟩)) (.pointer (some ⟨K, 1, none⟩))).run Yba.prog w = .ok (.bool false) w := eqo25 w (by simp [np1]) hp h
  have epN : (binOp .neq 25 (.pointer (some ⟨p, 0, none⟩)) (.pointer (some ⟨K, 1, none⟩))).run Yba.prog w = .ok (.bool true) w := neo25 w (by simp [np1]) hp h
  obtain ⟨⟨df0, df1, df2, df3⟩, gf0, gf1, gf2, gf3⟩ := hf.cells
  obtain ⟨nf0, nf1, _, nf3⟩ := h.ne hf
  have nf4 : ¬ f = w.heap.size := by omega
  have nf5 : ¬ w.heap.size = f := by omega
  have efK : (binOp .eql 25 (.pointer (some ⟨f, 0, none⟩)) (.pointer (some ⟨K, 1, none⟩))).run Yba.prog w = .ok (.bool false) w := eqo25 w (by simp [nf1]) hf h
  have efN : (binOp .neq 25 (.pointer (some ⟨f, 0, none⟩)) (.pointer (some ⟨K, 1, none⟩))).run Yba.prog w = .ok (.bool true) w := neo25 w (by simp [nf1]) hf h
  obtain ⟨⟨da0, da1, da2, da3⟩, ga0, ga1, ga2, ga3⟩ := ha.cells
  obtain ⟨na0, na1, _, na3⟩ := h.ne ha
  have na4 : ¬ a = w.heap.size := by omega
  have na5 : ¬ w.heap.size = a := by omega
  have eaK : (binOp .eql 25 (.pointer (some ⟨a, 0, none⟩)) (.pointer (some ⟨K, 1, none⟩))).run Yba.prog w = .ok (.bool false) w := eqo25 w (by simp [na1]) ha h
  have eaN : (binOp .neq 25 (.pointer (some ⟨a, 0, none⟩)) (.pointer (some ⟨K, 1, none⟩))).run Yba.prog w = .ok (.bool true) w := neo25 w (by simp [na1]) ha h
  have qfa : ¬ f = a := hfa
  have qaf : ¬ a = f := fun e => hfa e.symm
  have rrfa : (binOp .eql 25 (.pointer (some ⟨f, 0, none⟩)) (.pointer (some ⟨a, 0, none⟩))).run Yba.prog w = .ok (.bool false) w := eqo25 w (by simp [qfa]) hf ha
  have rraf : (binOp .eql 25 (.pointer (some ⟨a, 0, none⟩)) (.pointer (some ⟨f, 0, none⟩))).run Yba.prog w = .ok (.bool false) w := eqo25 w (by simp [qaf]) ha hf
  have qpf : ¬ p = f := hpf
  have qfp : ¬ f = p := fun e => hpf e.symm
  have rrpf : (binOp .eql 25 (.pointer (some ⟨p, 0, none⟩)) (.pointer (some ⟨f, 0, none⟩))).run Yba.prog w = .ok (.bool false) w := eqo25 w (by simp [qpf]) hp hf
  have rrfp : (binOp .eql 25 (.pointer (some ⟨f, 0, none⟩)) (.pointer (some ⟨p, 0, none⟩))).run Yba.prog w = .ok (.bool false) w := eqo25 w (by simp [qfp]) hf hp
  have qpa : ¬ p = a := hpa
  have qap : ¬ a = p := fun e => hpa e.symm
  have rrpa : (binOp .eql 25 (.pointer (some ⟨p, 0, none⟩)) (.pointer (some ⟨a, 0, none⟩))).run Yba.prog w = .ok (.bool false) w := eqo25 w (by simp [qpa]) hp ha
  have rrap : (binOp .eql 25 (.pointer (some ⟨a, 0, none⟩)) (.pointer (some ⟨p, 0, none⟩))).run Yba.prog w = .ok (.bool false) w := eqo25 w (by simp [qap]) ha hp
  clear h hp hf ha
  go_enter Yba.func19, Yba.ntmps19
  go_wp2
  all_goals go_region
  all_goals go_wp2
  all_goals go_region
  all_goals go_wp2
  all_goals first | exact bodyPost_end (v := .tuple #[]) (by simp [results, Yba.results19]) rfl ⟨rfl, rfl⟩ | exact bodyPost_ret (v := .tuple #[]) (by simp [results, Yba.results19]) rfl ⟨rfl, rfl⟩

set_option maxHeartbeats 2000000 in
theorem toback_pl (K p f a l s s2 s3 s0 : Nat) (nx nx2 pv pv3 : Value) (hfa : ¬ f = a) (hpf : ¬ p = f) (hpa : ¬ p = a) (hfl : ¬ f = l) (hal : ¬ a = l) (hpl : ¬ p = l) (m : Value) (len size : Int) (hlen : 0 ≤ len ∧ len ≤ 1000) (w : World) (h : KB w K m (nx) (.pointer (some ⟨l, 0, none⟩)) len size) (hp : EB w p K s0 (.pointer (some ⟨f, 0, none⟩)) (pv)) (hf : EB w f K s (.pointer (some ⟨a, 0, none⟩)) (.pointer (some ⟨p, 0, none⟩))) (ha : EB w a K s2 (nx2) (.pointer (some ⟨f, 0, none⟩))) (hl : EB w l K s3 (.pointer (some ⟨K, 1, none⟩)) (pv3)) :
    Calls Yba.prog 19 #[.pointer (some ⟨K, 1, none⟩), .pointer (some ⟨f, 0, none⟩)] w fun e w' => e = .returned (.tuple #[]) ∧ w' = ((((((w.setCell ⟨p, 0, none⟩ (.pointer (some ⟨a, 0, none⟩))).setCell ⟨a, 1, none⟩ (.pointer (some ⟨p, 0, none⟩))).setCell ⟨f, 1, none⟩ (.pointer (some ⟨l, 0, none⟩))).setCell ⟨f, 0, none⟩ (.pointer (some ⟨K, 1, none⟩))).setCell ⟨l, 0, none⟩ (.pointer (some ⟨f, 0, none⟩))).setCell ⟨K, 2, none⟩ (.pointer (some ⟨f, 0, none⟩))).drew.drew := by
  obtain ⟨⟨c0, c1, c2, c5, c6⟩, f0, f1, f2, f5, f6⟩ := h.cells
  have hKl : K < w.heap.size := World.block_lt_of_cell? _ _ c0
  have hK0 : ¬ K = w.heap.size := by omega
  have hK1 : ¬ w.heap.size = K := by omega
  have s25 := eqs25
  have s26 := eqs26
  have t25 := nes25
  have t26 := nes26
  obtain ⟨⟨dp0, dp1, dp2, dp3⟩, gp0, gp1, gp2, gp3⟩ := hp.cells
  obtain ⟨np0, np1, _, np3⟩ := h.ne hp
  have np4 : ¬ p = w.heap.size := by omega
  have np5 : ¬ w.heap.size = p := by omega
  have epK : (binOp .eql 25 (.pointer (some ⟨p, 0, none⟩)) (.pointer (some ⟨K, 1, none⟩))).run Yba.prog w = .ok (.bool false) w := eqo25 w (by simp [np1]) hp h
  have epN : (binOp .neq 25 (.pointer (some ⟨p, 0, none⟩)) (.pointer (some ⟨K, 1, none⟩))).run Yba.prog w = .ok (.bool true) w := neo25 w (by simp [np1]) hp h
  obtain ⟨⟨df0, df1, df2, df3⟩, gf0, gf1, gf2, gf3⟩ := hf.cells
  obtain ⟨nf0, nf1, _, nf3⟩ := h.ne hf
  have nf4 : ¬ f = w.heap.size := by omega
  have nf5 : ¬ w.heap.size = f := by omega
  have efK : (binOp .eql 25 (.pointer (some ⟨f, 0, none⟩)) (.pointer (some ⟨K, 1, none⟩))).run Yba.prog w = .ok (.bool false) w := eqo25 w (by simp [nf1]) hf h
  have efN : (binOp .neq 25 (.pointer (some ⟨f, 0, none⟩)) (.pointer (some ⟨K, 1, none⟩))).run Yba.prog w = .ok (.bool true) w := neo25 w (by simp [nf1]) hf h
  obtain ⟨⟨da0, da1, da2, da3⟩, ga0, ga1, ga2, ga3⟩ := ha.cells
  obtain ⟨na0, na1, _, na3⟩ := h.ne ha
  have na4 : ¬ a = w.heap.size := by omega
  have na5 : ¬ w.heap.size = a := by omega
  have eaK : (binOp .eql 25 (.pointer (some ⟨a, 0, none⟩)) (.pointer (some ⟨K, 1, none⟩))).run Yba.prog w = .ok (.bool false) w := eqo25 w (by simp [na1]) ha h
  have eaN : (binOp .neq 25 (.pointer (some ⟨a, 0, none⟩)) (.pointer (some ⟨K, 1, none⟩))).run Yba.prog w = .ok (.bool true) w := neo25 w (by simp [na1]) ha h
  obtain ⟨⟨dl0, dl1, dl2, dl3⟩, gl0, gl1, gl2, gl3⟩ := hl.cells
  obtain ⟨nl0, nl1, _, nl3⟩ := h.ne hl
  have nl4 : ¬ l = w.heap.size := by omega
  have nl5 : ¬ w.heap.size = l := by omega
  have elK : (binOp .eql 25 (.pointer (some ⟨l, 0, none⟩)) (.pointer (some ⟨K, 1, none⟩))).run Yba.prog w = .ok (.bool false) w := eqo25 w (by simp [nl1]) hl h
  have elN : (binOp .neq 25 (.pointer (some ⟨l, 0, none⟩)) (.pointer (some ⟨K, 1, none⟩))).run Yba.prog w = .ok (.bool true) w := neo25 w (by simp [nl1]) hl h
  have qfa : ¬ f = a := hfa
  have qaf : ¬ a = f := fun e => hfa e.symm
  have rrfa : (binOp .eql 25 (.pointer (some ⟨f, 0, none⟩)) (.pointer (some ⟨a, 0, none⟩))).run Yba.prog w = .ok (.bool false) w := eqo25 w (by simp [qfa]) hf ha
  have rraf : (binOp .eql 25 (.pointer (some ⟨a, 0, none⟩)) (.pointer (some ⟨f, 0, none⟩))).run Yba.prog w = .ok (.bool false) w := eqo25 w (by simp [qaf]) ha hf
  have qpf : ¬ p = f := hpf
  have qfp : ¬ f = p := fun e => hpf e.symm
  have rrpf : (binOp .eql 25 (.pointer (some ⟨p, 0, none⟩)) (.pointer (some ⟨f, 0, none⟩))).run Yba.prog w = .ok (.bool false) w := eqo25 w (by simp [qpf]) hp hf
  have rrfp : (binOp .eql 25 (.pointer (some ⟨f, 0, none⟩)) (.pointer (some ⟨p, 0, none⟩))).run Yba.prog w = .ok (.bool false) w := eqo25 w (by simp [qfp]) hf hp
  have qpa : ¬ p = a := hpa
  have qap : ¬ a = p := fun e => hpa e.symm
  have rrpa : (binOp .eql 25 (.pointer (some ⟨p, 0, none⟩)) (.pointer (some ⟨a, 0, none⟩))).run Yba.prog w = .ok (.bool false) w := eqo25 w (by simp [qpa]) hp ha
  have rrap : (binOp .eql 25 (.pointer (some ⟨a, 0, none⟩)) (.pointer (some ⟨p, 0, none⟩))).run Yba.prog w = .ok (.bool false) w := eqo25 w (by simp [qap]) ha hp
  have qfl : ¬ f = l := hfl
  have qlf : ¬ l = f := fun e => hfl e.symm
  have rrfl : (binOp .eql 25 (.pointer (some ⟨f, 0, none⟩)) (.pointer (some ⟨l, 0, none⟩))).run Yba.prog w = .ok (.bool false) w := eqo25 w (by simp [qfl]) hf hl
  have rrlf : (binOp .eql 25 (.pointer (some ⟨l, 0, none⟩)) (.pointer (some ⟨f, 0, none⟩))).run Yba.prog w = .ok (.bool false) w := eqo25 w (by simp [qlf]) hl hf
  have qal : ¬ a = l := hal
  have qla : ¬ l = a := fun e => hal e.symm
  have rral : (binOp .eql 25 (.pointer (some ⟨a, 0, none⟩)) (.pointer (some ⟨l, 0, none⟩))).run Yba.prog w = .ok (.bool false) w := eqo25 w (by simp [qal]) ha hl
  have rrla : (binOp .eql 25 (.pointer (some ⟨l, 0, none⟩)) (.pointer (some ⟨a, 0, none⟩))).run Yba.prog w = .ok (.bool false) w := eqo25 w (by simp [qla]) hl ha
  have qpl : ¬ p = l := hpl
  have qlp : ¬ l = p := fun e => hpl e.symm
  have rrpl : (binOp .eql 25 (.pointer (some ⟨p, 0, none⟩)) (.pointer (some ⟨l, 0, none⟩))).run Yba.prog w = .ok (.bool false) w := eqo25 w (by simp [qpl]) hp hl
  have rrlp : (binOp .eql 25 (.pointer (some ⟨l, 0, none⟩)) (.pointer (some ⟨p, 0, none⟩))).run Yba.prog w = .ok (.bool false) w := eqo25 w (by simp [qlp]) hl hp
  clear h hp hf ha hl
  go_enter Yba.func19, Yba.ntmps19
  go_wp2
  all_goals go_region
  all_goals go_wp2
  all_goals go_region
  all_goals go_wp2
  all_goals first | exact bodyPost_end (v := .tuple #[]) (by simp [results, Yba.results19]) rfl ⟨rfl, rfl⟩ | exact bodyPost_ret (v := .tuple #[]) (by simp [results, Yba.results19]) rfl ⟨rfl, rfl⟩


end Go.Proofs.Ybulkciry
