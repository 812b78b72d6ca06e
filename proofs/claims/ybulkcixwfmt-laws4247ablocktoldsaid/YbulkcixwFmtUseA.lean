/-
  'Reader.useBlock' OF THE LAW 'capture.LawS4247ABlock', BY ITS CONTRACT: the ways that err or skip.
-/
import Derived.Test.YbulkcixwFmtUse
import Derived.Outline
namespace Go.Proofs.YbulkcixwFmt
open Go.RowKit Go.Extern.Stop Go.Stop Go.Extern
set_option maxRecDepth 100000

/-- Nothing old has turned but the reader's block and one row. -/
structure Kp (R : Nat) (row : Option Nat) (w w' : World) : Prop where
  os : w'.os = w.os
  tape : w'.tape = w.tape
  output : w'.output = w.output
  size : w.heap.size ≤ w'.heap.size
  block : ∀ b, b < w.heap.size → b ≠ R → some b ≠ row → w'.heap[b]? = w.heap[b]?

theorem Kp.of_below {R : Nat} {row : Option Nat} {w w' : World} (h : Below w.heap.size w w') : Kp R row w w' := ⟨h.os, h.tape, h.output, h.size, fun b hb _ _ => h.block b hb⟩

set_option maxHeartbeats 1000000 in
theorem use_other (R : Nat) (t : Int) (body : Value) (w : World) (h1 : (t == 168627466) = false) (h2 : (t == 1) = false) (h3 : (t == 6) = false) (h4 : (t == 3) = false) :
    Calls Ybaf.prog 7 #[.pointer (some ⟨R, 0, none⟩), .int .u32 t, body] w fun e w' => e = .returned (.tuple #[.agg #[.int .u16 0, .slice none 0 0], .bool false, .nilIface]) ∧ Below w.heap.size w w' := by
  go_enter Ybaf.func7, Ybaf.ntmps7
  go_wp2
  exact bodyPost_ret (v := .tuple #[.agg #[.int .u16 0, .slice none 0 0], .bool false, .nilIface]) (by simp [results, Ybaf.results7, go_sem]) rfl ⟨rfl, (Below.refl _ w).alloc (Nat.le_refl _) _⟩

set_option maxHeartbeats 1000000 in
theorem use_section (R : Nat) (le : Bool) (g n c : Nat) (body : Value) (w : World) (hR : Rd w R le (.slice (some ⟨g, 0, none⟩) n c)) (_hc : n ≤ c) :
    Calls Ybaf.prog 7 #[.pointer (some ⟨R, 0, none⟩), .int .u32 168627466, body] w fun e w' => e = .returned (.tuple #[.agg #[.int .u16 0, .slice none 0 0], .bool false, .nilIface]) ∧
      w' = (w.setCell ⟨R, 5, none⟩ (.slice (some ⟨g, 0, none⟩) 0 c)).alloc (.cells #[.int .u16 0, .slice none 0 0] 46) := by
  have hlt : R < w.heap.size := (Array.getElem?_eq_some_iff.1 hR).1
  have hc5 := cell_of_row w R 5 _ _ _ hR
  have hf5 := frozen_of_row w R 5 _ _ hR
  simp at hc5
  have hlt1 : R < w.heap.size + 1 := by omega
  have hne : ¬ w.heap.size = R := by omega
  clear hR
  go_enter Ybaf.func7, Ybaf.ntmps7
  go_wp2
  exact bodyPost_ret (v := .tuple #[.agg #[.int .u16 0, .slice none 0 0], .bool false, .nilIface]) (by simp [results, Ybaf.results7, go_sem]) rfl ⟨rfl, rfl⟩

set_option maxHeartbeats 1000000 in
theorem use_short (R : Nat) (t : Int) (a : Option Addr) (n c : Nat) (w : World) (ht : (t = 1 ∧ n < 8) ∨ (t = 6 ∧ n < 20) ∨ (t = 3 ∧ n < 4)) :
    Calls Ybaf.prog 7 #[.pointer (some ⟨R, 0, none⟩), .int .u32 t, .slice a n c] w fun e w' => ∃ u x, e = .returned (.tuple #[.agg #[.int .u16 0, .slice none 0 0], .bool false, .iface u x]) ∧ Below w.heap.size w w' := by
  rcases ht with ⟨rfl, hn⟩ | ⟨rfl, hn⟩ | ⟨rfl, hn⟩
  all_goals
    go_enter Ybaf.func7, Ybaf.ntmps7
    go_wp2
    refine bodyPost_ret (v := .tuple #[.agg #[.int .u16 0, .slice none 0 0], .bool false, .iface 60 (.pointer (some ⟨w.heap.size + 1, 0, none⟩))]) (by simp [results, Ybaf.results7, go_sem]) rfl ⟨_, _, rfl, ?_⟩
    exact ((Below.refl _ w).alloc (Nat.le_refl _) _).alloc (by simp) _

end Go.Proofs.YbulkcixwFmt
