/-
  THE WALKS OF THE LAW 'syntax.LawS4236CExact': String, the model's table, the law.
-/
import Derived.Test.YbulkciryDoorItoa
namespace Go.Proofs.YbulkciryDoor
open Go.RowKit

/-- What the listed table of names gives the walk: its five cells. -/
def Names (w : World) : Prop :=
  w.cell? ⟨0, 1, none⟩ = some (.string ⟨#[114, 101, 97, 100, 32, 117, 110, 99, 111, 109, 109, 105, 116, 116, 101, 100]⟩) ∧
  w.cell? ⟨0, 2, none⟩ = some (.string ⟨#[114, 101, 97, 100, 32, 99, 111, 109, 109, 105, 116, 116, 101, 100]⟩) ∧
  w.cell? ⟨0, 3, none⟩ = some (.string ⟨#[114, 101, 112, 101, 97, 116, 97, 98, 108, 101, 32, 114, 101, 97, 100]⟩) ∧
  w.cell? ⟨0, 4, none⟩ = some (.string ⟨#[115, 101, 114, 105, 97, 108, 105, 122, 97, 98, 108, 101]⟩)

theorem os_drewN (w : World) (k : Nat) : (w.drewN k).os = w.os := by
  induction k with
  | zero => rfl
  | succ k ih => exact ih
theorem out_drewN (w : World) (k : Nat) : (w.drewN k).output = w.output := by
  induction k with
  | zero => rfl
  | succ k ih => exact ih
theorem below_grow (w : World) (k : Nat) (os : Array Obj) : Below w.heap.size w (Go.Sort.grow (w.drewN k) os) := by
  have hk : (w.drewN k).heap = w.heap := by simp
  refine ⟨?_, ?_, ?_, ?_, ?_⟩
  · exact os_drewN w k
  · simp [Go.Sort.grow]
  · exact out_drewN w k
  · simp [Go.Sort.grow]
  · intro j hj
    simp only [Go.Sort.grow, hk]
    rw [Array.getElem?_append_left hj]

set_option maxHeartbeats 1000000 in
theorem law_named (n : Int) (w : World) (hn : n = 1 ∨ n = 2 ∨ n = 3 ∨ n = 4) (hN : Names w) :
    Calls Ybad.prog 3 #[.int .i64 n] w fun e w' => e = .returned (.bool true) ∧ Below w.heap.size w w' := by
  obtain ⟨h1, h2, h3, h4⟩ := hN
  rcases hn with rfl | rfl | rfl | rfl
  all_goals
    go_enter Ybad.func3, Ybad.ntmps3
    go_wp2
    go_ret
    exact ⟨rfl, Below.refl _ _⟩

theorem itoa_len (n : Int) (h0 : -9223372036854775808 ≤ n) (h1 : n ≤ 9223372036854775807) : (Lib.itoa n).length ≤ 21 := by
  unfold Lib.itoa
  split
  · have := nDigits_20 n.natAbs (by omega)
    rw [List.length_cons, Lib.decDigits_length]; omega
  · have := nDigits_20 n.toNat (by omega)
    rw [Lib.decDigits_length]; omega

/-- The text of a level that has no name. -/
def lvl (n : Int) : ByteArray := (⟨#[73, 115, 111, 108, 97, 116, 105, 111, 110, 76, 101, 118, 101, 108, 40]⟩ : ByteArray) ++ ⟨(Lib.itoa n).toArray⟩ ++ ⟨#[41]⟩

set_option maxHeartbeats 1000000 in
theorem string_other (n : Int) (w : World) (h0 : -9223372036854775808 ≤ n) (h1 : n ≤ 9223372036854775807) (hn : n ≤ 0 ∨ 5 ≤ n) (htab : Lib.TabIs Ybad.prog w Ybad.powName .u64 Lib.pow10Tab) :
    Calls Ybad.prog 4 #[.int .i64 n] w fun e w' => e = .returned (.string (lvl n)) ∧ Below w.heap.size w w' := by
  have H : Hid (Lib.TabIs Ybad.prog w Ybad.powName .u64 Lib.pow10Tab) := htab
  clear htab
  have hlen := itoa_len n h0 h1
  rcases hn with hn | hn
  all_goals
    go_enter Ybad.func4, Ybad.ntmps4
    go_wp2_with fail
    refine (Ybad.strconv_Itoa n h0 h1 w H.out).mono ?_
    rintro e w' ⟨rfl, k, os, rfl⟩
    go_wp2
    go_ret
    exact ⟨rfl, below_grow w k os⟩

set_option maxHeartbeats 1000000 in
theorem model_other (n : Int) (w : World) (h0 : -9223372036854775808 ≤ n) (h1 : n ≤ 9223372036854775807) (hn : n ≤ 0 ∨ 5 ≤ n) :
    Calls Ybad.prog 5 #[.int .i64 n] w fun e w' => e = .returned (.string (lvl n)) ∧ Below w.heap.size w w' := by
  have e1 : (n == 1) = false := by simp; omega
  have e2 : (n == 2) = false := by simp; omega
  have e3 : (n == 3) = false := by simp; omega
  have e4 : (n == 4) = false := by simp; omega
  clear hn
  have hlen := itoa_len n h0 h1
  go_enter Ybad.func5, Ybad.ntmps5
  go_wp2_with fail
  refine (citoa_any n w h0 h1).mono ?_
  rintro e w' ⟨rfl, hb⟩
  go_wp2
  go_ret
  exact ⟨rfl, hb⟩

set_option maxHeartbeats 1000000 in
theorem law_other (n : Int) (w : World) (h0 : -9223372036854775808 ≤ n) (h1 : n ≤ 9223372036854775807) (hn : n ≤ 0 ∨ 5 ≤ n) (htab : Lib.TabIs Ybad.prog w Ybad.powName .u64 Lib.pow10Tab) :
    Calls Ybad.prog 3 #[.int .i64 n] w fun e w' => e = .returned (.bool true) ∧ Below w.heap.size w w' := by
  have H : Hid ((n ≤ 0 ∨ 5 ≤ n) ∧ Lib.TabIs Ybad.prog w Ybad.powName .u64 Lib.pow10Tab) := ⟨hn, htab⟩
  clear hn htab
  go_enter Ybad.func3, Ybad.ntmps3
  go_wp2_with fail
  refine (string_other n w h0 h1 H.out.1 H.out.2).mono ?_
  rintro e w1 ⟨rfl, hb1⟩
  go_wp2_with fail
  refine (model_other n w1 h0 h1 H.out.1).mono ?_
  rintro e w2 ⟨rfl, hb2⟩
  go_wp2
  go_ret
  exact ⟨by simp, hb1.trans (hb2.mono hb1.size)⟩

/-- THE LAW's WALK: whatever the number. -/
theorem law_any (n : Int) (w : World) (h0 : -9223372036854775808 ≤ n) (h1 : n ≤ 9223372036854775807) (hN : Names w) (htab : Lib.TabIs Ybad.prog w Ybad.powName .u64 Lib.pow10Tab) :
    Calls Ybad.prog 3 #[.int .i64 n] w fun e w' => e = .returned (.bool true) ∧ Below w.heap.size w w' := by
  by_cases hn : n ≤ 0 ∨ 5 ≤ n
  · exact law_other n w h0 h1 hn htab
  · exact law_named n w (by omega) hN

end Go.Proofs.YbulkciryDoor
