/-
  THE WALKS OF THE LAWS 'decree.LawS4241CNames', 'decree.LawS4241CDecision'.
-/
import Derived.Test.YbulkciuqFmtRows
import Derived.Stop.CallBack
import Derived.Stop.IfaceNil
import Derived.Stop.Told
import GoSem.ClaimData
import Derived.WalkKit
import Derived.Handy
import Derived.Below
import Derived.WalkLawsBesides
import Derived.WalkSpells
namespace Go.Proofs.YbulkciuqFmt
open Go.RowKit Go.Extern.Stop Go.Stop Go.Extern

/-! THE CLOSED FACTS FOR THE WALK OVER fmt's STOPPED FRONT (fmt.Sprintf: function 11: a stop that calls its operands' methods; here the one operand is an int). -/
theorem call11 (args : Array Value) (w : World) : (callFunc 11 args).run Ybaf.prog w = (FmtCalls.sprintf #[9, 27] #[9] args).run Ybaf.prog w :=
  run_callFunc_next Ybaf.func11 (by kernel_rfl) (by kernel_rfl) (by kernel_rfl) args w
theorem fguard (name : String) (w : World) : (FmtStop.guard name).run Ybaf.prog w = .ok () w := by kernel_rfl
theorem nextTurns : Extern.next FmtCalls.turnsRow = some (FmtCalls.begun #[] #[]) := by kernel_rfl
theorem fmtR : FmtStop.printed? ⟨#[82, 101, 97, 115, 111, 110, 40, 37, 100, 41]⟩ 1 = some [(0, 100, false)] := by kernel_rfl
theorem fmtRr (w : World) : (FmtDoors.printed ⟨#[82, 101, 97, 115, 111, 110, 40, 37, 100, 41]⟩ 1).run Ybaf.prog w = .ok [(0, 100, false)] w := by kernel_rfl
def shape3 : List UInt8 := [5, 3, 0, 0, 0, 0, 0, 0, 0, 105, 110, 116]
theorem act3 (name : String) (x : Value) (w : World) : (FmtCalls.act name false 100 false (.iface 3 x)).run Ybaf.prog w = .ok (.closed false) w := by kernel_rfl
theorem op3 (name : String) (x : Int) (w : World) : (FmtStop.operand name false 100 false (.iface 3 (.int .i64 x))).run Ybaf.prog w = .ok (shape3, Go.Extern.Stop.digits 8 (x % 2 ^ 64).toNat) w := by kernel_rfl
theorem strict3 (name : String) (x : Int) (w : World) : (FmtStop.strict name (.iface 3 (.int .i64 x))).run Ybaf.prog w = .ok (shape3, Go.Extern.Stop.digits 8 (x % 2 ^ 64).toNat) w := by kernel_rfl
theorem str3 (w : World) : (typeStr 3).run Ybaf.prog w = .ok "int" w := by kernel_rfl

/-- What the listed table of names gives the walk: its five cells. -/
def Names (w : World) : Prop :=
  w.cell? ⟨0, 0, none⟩ = some (.string ⟨#[71, 82, 65, 78, 84, 95, 80, 79, 76, 73, 67, 89, 95, 70, 79, 85, 78, 68]⟩) ∧
  w.cell? ⟨0, 1, none⟩ = some (.string ⟨#[68, 69, 78, 89, 95, 80, 79, 76, 73, 67, 89, 95, 70, 79, 85, 78, 68]⟩) ∧
  w.cell? ⟨0, 2, none⟩ = some (.string ⟨#[83, 69, 82, 86, 73, 67, 69, 95, 78, 79, 84, 95, 70, 79, 85, 78, 68]⟩) ∧
  w.cell? ⟨0, 3, none⟩ = some (.string ⟨#[78, 79, 95, 65, 80, 80, 76, 73, 67, 65, 66, 76, 69, 95, 80, 79, 76, 73, 67, 73, 69, 83]⟩) ∧
  w.cell? ⟨0, 4, none⟩ = some (.string ⟨#[69, 82, 82, 79, 82, 95, 73, 78, 95, 69, 86, 65, 76, 85, 65, 84, 73, 79, 78]⟩)

set_option maxHeartbeats 1000000 in
theorem names_in (n : Int) (w : World) (hn : 0 ≤ n ∧ n ≤ 4) (hN : Names w) :
    Calls Ybaf.prog 4 #[.int .i64 n] w fun e w' => e = .returned (.bool true) ∧ Below w.heap.size w w' := by
  obtain ⟨h0, h1, h2, h3, h4⟩ := hN
  have hc : n = 0 ∨ n = 1 ∨ n = 2 ∨ n = 3 ∨ n = 4 := by omega
  clear hn
  rcases hc with rfl | rfl | rfl | rfl | rfl
  all_goals
    go_enter Ybaf.func4, Ybaf.ntmps4
    go_wp2
    go_ret
    exact ⟨rfl, Below.refl _ _⟩

set_option maxHeartbeats 1000000 in
theorem names_out (F : Interp) (n : Int) (w : World) (hF : F.answers w.tape) (hn : n < 0 ∨ 4 < n) :
    Calls Ybaf.prog 4 #[.int .i64 n] w fun e w' => e = .returned (.bool true) ∧ Below w.heap.size w w' := by
  have hF' := answers_open hF
  have f1 := call11
  have f2 := fguard
  have f3 := fmtR
  have f4 := fmtRr
  have f5 := act3
  have f6 := op3
  have f7 := strict3
  have f8 := str3
  rcases hn with hn | hn
  all_goals
    go_enter Ybaf.func4, Ybaf.ntmps4
    go_wp2
    apply rows_value nextTurns
    case hr => go_simp; exact ⟨rfl, rfl⟩
    case h =>
      go_wp2
      go_ret
      exact ⟨rfl, ((Below.refl _ _).alloc (Nat.le_refl _) _).drew⟩

theorem names_any (F : Interp) (n : Int) (w : World) (hF : F.answers w.tape) (hN : Names w) :
    Calls Ybaf.prog 4 #[.int .i64 n] w fun e w' => e = .returned (.bool true) ∧ Below w.heap.size w w' := by
  by_cases hn : 0 ≤ n ∧ n ≤ 4
  · exact names_in n w hn hN
  · exact names_out F n w hF (by omega)

set_option maxHeartbeats 1000000 in
theorem decision_any (b : Bool) (k : Nat) (w : World) (hk : k < 256) (hN : Names w) (h0lt : 0 < w.heap.size) :
    Calls Ybaf.prog 5 #[.bool b, .int .u8 k] w fun e w' => e = .returned (.bool true) ∧ Below w.heap.size w w' := by
  obtain ⟨h0, h1, h2, h3, h4⟩ := hN
  have hc : (k : Int) % 5 = 0 ∨ (k : Int) % 5 = 1 ∨ (k : Int) % 5 = 2 ∨ (k : Int) % 5 = 3 ∨ (k : Int) % 5 = 4 := by omega
  have hd0 : (0 : Nat) < w.heap.size + 1 := by omega
  have hd1 : (0 : Nat) < w.heap.size + 1 + 1 := by omega
  rcases hc with hc | hc | hc | hc | hc
  all_goals
    cases b
    all_goals
      go_enter Ybaf.func5, Ybaf.ntmps5
      go_wp2
      go_ret
      exact ⟨rfl, by go_grown⟩

end Go.Proofs.YbulkciuqFmt
