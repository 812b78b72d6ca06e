/-
  THE SMALL READERS OF THE LAW 'capture.LawS4247ABlock': get16, get32, and encoding binary's Uint16, Uint32 in both orders.
-/
import Derived.Test.YbulkcixwFmtRows
import Derived.WalkKit
import Derived.Handy
import Derived.Below
import Derived.WalkLawsBesides
import Derived.WalkSpells
import Derived.Deep.QuietTactic
import Derived.BigQuiet
namespace Go.Proofs.YbulkcixwFmt
open Go.RowKit

/-- Two bytes, the low one first, as the walk spells it. -/
def g16 (x0 x1 : Int) : Int := bits BinOp.or IntKind.u16 x0 (x1 * 256)
/-- Four bytes, the low one first. -/
def g32 (x0 x1 x2 x3 : Int) : Int := bits BinOp.or IntKind.u32 (bits BinOp.or IntKind.u32 (bits BinOp.or IntKind.u32 x0 (x1 * 256)) (x2 * 65536)) (x3 * 16777216)

set_option maxHeartbeats 1000000 in
theorem get16_le (b o c : Nat) (x0 x1 : Int) (w : World) (h0 : w.cell? ⟨b, o, none⟩ = some (.int .u8 x0)) (h1 : w.cell? ⟨b, o + 1, none⟩ = some (.int .u8 x1)) (b0 : 0 ≤ x0 ∧ x0 ≤ 255) (b1 : 0 ≤ x1 ∧ x1 ≤ 255) :
    Calls Ybaf.prog 5 #[.slice (some ⟨b, o, none⟩) 2 c, .bool true] w fun e w' => e = .returned (.int .u16 (g16 x0 x1)) ∧ ∃ n, w' = w.drewN n := by
  go_enter Ybaf.func5, Ybaf.ntmps5
  go_wp2
  go_quiet (fail)
  go_wp2
  go_ret
  exact ⟨rfl, _, rfl⟩
set_option maxHeartbeats 1000000 in
theorem get16_be (b o c : Nat) (x0 x1 : Int) (w : World) (h0 : w.cell? ⟨b, o, none⟩ = some (.int .u8 x0)) (h1 : w.cell? ⟨b, o + 1, none⟩ = some (.int .u8 x1)) (b0 : 0 ≤ x0 ∧ x0 ≤ 255) (b1 : 0 ≤ x1 ∧ x1 ≤ 255) :
    Calls Ybaf.prog 5 #[.slice (some ⟨b, o, none⟩) 2 c, .bool false] w fun e w' => e = .returned (.int .u16 (g16 x1 x0)) ∧ ∃ n, w' = w.drewN n := by
  go_enter Ybaf.func5, Ybaf.ntmps5
  go_wp2
  go_quiet (fail)
  go_wp2
  go_ret
  exact ⟨rfl, _, rfl⟩
set_option maxHeartbeats 1000000 in
theorem bin16_le (b o c : Nat) (x0 x1 : Int) (w : World) (hb : b < w.heap.size) (h0 : w.cell? ⟨b, o, none⟩ = some (.int .u8 x0)) (h1 : w.cell? ⟨b, o + 1, none⟩ = some (.int .u8 x1)) (b0 : 0 ≤ x0 ∧ x0 ≤ 255) (b1 : 0 ≤ x1 ∧ x1 ≤ 255) :
    Calls Ybaf.prog 36 #[.agg #[], .slice (some ⟨b, o, none⟩) 2 c] w fun e w' => e = .returned (.int .u16 (g16 x0 x1)) ∧ ∃ n, w' = (w.alloc (.cells #[] 36)).drewN n := by
  go_enter Ybaf.func36, Ybaf.ntmps36
  go_wp2
  go_quiet (fail)
  go_wp2
  go_ret
  exact ⟨rfl, _, rfl⟩
set_option maxHeartbeats 1000000 in
theorem bin16_be (b o c : Nat) (x0 x1 : Int) (w : World) (hb : b < w.heap.size) (h0 : w.cell? ⟨b, o, none⟩ = some (.int .u8 x0)) (h1 : w.cell? ⟨b, o + 1, none⟩ = some (.int .u8 x1)) (b0 : 0 ≤ x0 ∧ x0 ≤ 255) (b1 : 0 ≤ x1 ∧ x1 ≤ 255) :
    Calls Ybaf.prog 29 #[.agg #[], .slice (some ⟨b, o, none⟩) 2 c] w fun e w' => e = .returned (.int .u16 (g16 x1 x0)) ∧ ∃ n, w' = (w.alloc (.cells #[] 33)).drewN n := by
  go_enter Ybaf.func29, Ybaf.ntmps29
  go_wp2
  go_quiet (fail)
  go_wp2
  go_ret
  exact ⟨rfl, _, rfl⟩
set_option maxHeartbeats 1000000 in
theorem get32_le (b o c : Nat) (x0 x1 x2 x3 : Int) (w : World) (h0 : w.cell? ⟨b, o, none⟩ = some (.int .u8 x0)) (h1 : w.cell? ⟨b, o + 1, none⟩ = some (.int .u8 x1)) (h2 : w.cell? ⟨b, o + 2, none⟩ = some (.int .u8 x2)) (h3 : w.cell? ⟨b, o + 3, none⟩ = some (.int .u8 x3)) (b0 : 0 ≤ x0 ∧ x0 ≤ 255) (b1 : 0 ≤ x1 ∧ x1 ≤ 255) (b2 : 0 ≤ x2 ∧ x2 ≤ 255) (b3 : 0 ≤ x3 ∧ x3 ≤ 255) :
    Calls Ybaf.prog 6 #[.slice (some ⟨b, o, none⟩) 4 c, .bool true] w fun e w' => e = .returned (.int .u32 (g32 x0 x1 x2 x3)) ∧ ∃ n, w' = w.drewN n := by
  go_enter Ybaf.func6, Ybaf.ntmps6
  go_wp2
  go_quiet (fail)
  go_wp2
  go_ret
  exact ⟨rfl, _, rfl⟩
set_option maxHeartbeats 1000000 in
theorem get32_be (b o c : Nat) (x0 x1 x2 x3 : Int) (w : World) (h0 : w.cell? ⟨b, o, none⟩ = some (.int .u8 x0)) (h1 : w.cell? ⟨b, o + 1, none⟩ = some (.int .u8 x1)) (h2 : w.cell? ⟨b, o + 2, none⟩ = some (.int .u8 x2)) (h3 : w.cell? ⟨b, o + 3, none⟩ = some (.int .u8 x3)) (b0 : 0 ≤ x0 ∧ x0 ≤ 255) (b1 : 0 ≤ x1 ∧ x1 ≤ 255) (b2 : 0 ≤ x2 ∧ x2 ≤ 255) (b3 : 0 ≤ x3 ∧ x3 ≤ 255) :
    Calls Ybaf.prog 6 #[.slice (some ⟨b, o, none⟩) 4 c, .bool false] w fun e w' => e = .returned (.int .u32 (g32 x3 x2 x1 x0)) ∧ ∃ n, w' = w.drewN n := by
  go_enter Ybaf.func6, Ybaf.ntmps6
  go_wp2
  go_quiet (fail)
  go_wp2
  go_ret
  exact ⟨rfl, _, rfl⟩
set_option maxHeartbeats 1000000 in
theorem bin32_le (b o c : Nat) (x0 x1 x2 x3 : Int) (w : World) (hb : b < w.heap.size) (h0 : w.cell? ⟨b, o, none⟩ = some (.int .u8 x0)) (h1 : w.cell? ⟨b, o + 1, none⟩ = some (.int .u8 x1)) (h2 : w.cell? ⟨b, o + 2, none⟩ = some (.int .u8 x2)) (h3 : w.cell? ⟨b, o + 3, none⟩ = some (.int .u8 x3)) (b0 : 0 ≤ x0 ∧ x0 ≤ 255) (b1 : 0 ≤ x1 ∧ x1 ≤ 255) (b2 : 0 ≤ x2 ∧ x2 ≤ 255) (b3 : 0 ≤ x3 ∧ x3 ≤ 255) :
    Calls Ybaf.prog 37 #[.agg #[], .slice (some ⟨b, o, none⟩) 4 c] w fun e w' => e = .returned (.int .u32 (g32 x0 x1 x2 x3)) ∧ ∃ n, w' = (w.alloc (.cells #[] 36)).drewN n := by
  go_enter Ybaf.func37, Ybaf.ntmps37
  go_wp2
  go_quiet (fail)
  go_wp2
  go_ret
  exact ⟨rfl, _, rfl⟩
set_option maxHeartbeats 1000000 in
theorem bin32_be (b o c : Nat) (x0 x1 x2 x3 : Int) (w : World) (hb : b < w.heap.size) (h0 : w.cell? ⟨b, o, none⟩ = some (.int .u8 x0)) (h1 : w.cell? ⟨b, o + 1, none⟩ = some (.int .u8 x1)) (h2 : w.cell? ⟨b, o + 2, none⟩ = some (.int .u8 x2)) (h3 : w.cell? ⟨b, o + 3, none⟩ = some (.int .u8 x3)) (b0 : 0 ≤ x0 ∧ x0 ≤ 255) (b1 : 0 ≤ x1 ∧ x1 ≤ 255) (b2 : 0 ≤ x2 ∧ x2 ≤ 255) (b3 : 0 ≤ x3 ∧ x3 ≤ 255) :
    Calls Ybaf.prog 30 #[.agg #[], .slice (some ⟨b, o, none⟩) 4 c] w fun e w' => e = .returned (.int .u32 (g32 x3 x2 x1 x0)) ∧ ∃ n, w' = (w.alloc (.cells #[] 33)).drewN n := by
  go_enter Ybaf.func30, Ybaf.ntmps30
  go_wp2
  go_quiet (fail)
  go_wp2
  go_ret
  exact ⟨rfl, _, rfl⟩

theorem g16_range (x0 x1 : Int) : 0 ≤ g16 x0 x1 ∧ g16 x0 x1 ≤ 65535 := by
  have := bounds_u16 (wf_bits BinOp.or IntKind.u16 x0 (x1 * 256))
  exact this
theorem g32_range (x0 x1 x2 x3 : Int) : 0 ≤ g32 x0 x1 x2 x3 ∧ g32 x0 x1 x2 x3 ≤ 4294967295 := by
  have := bounds_u32 (wf_bits BinOp.or IntKind.u32 (bits BinOp.or IntKind.u32 (bits BinOp.or IntKind.u32 x0 (x1 * 256)) (x2 * 65536)) (x3 * 16777216))
  exact this

end Go.Proofs.YbulkcixwFmt
