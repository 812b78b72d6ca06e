/-
  'zzs4247aput32' OF THE LAW 'capture.LawS4247ABlock': four bytes more at the end of a row of the call's own.
-/
import Derived.Test.YbulkcixwFmtRows
import Derived.WalkKit
import Derived.Handy
import Derived.Below
import Derived.WalkLawsBesides
import Derived.WalkSpells
namespace Go.Proofs.YbulkcixwFmt
open Go.RowKit

theorem info5 : (Ybaf.prog.info? 5).map (fun i => (i.zero, i.size, i.bytes)) = some (some (.int .u8 0), 1, 1) := by kernel_rfl

/-- A row of bytes of the call's own. -/
def Own5 (w : World) (base : Nat) (v : Value) (xs : List Int) : Prop := w.ownsRow base 5 1 v xs.length (xs.map (Value.int .u8)) ∧ ∀ x ∈ xs, 0 ≤ x ∧ x ≤ 255

theorem cells_four (w : World) (a b c d : Int) : ∀ j u, ([a, b, c, d].map (Value.int .u8))[j]? = some u → (w.alloc (.cells #[.int .u8 a, .int .u8 b, .int .u8 c, .int .u8 d] 5)).cell? ((⟨w.heap.size, 0, none⟩ : Addr).add j) = some u := by
  intro j u hj
  rw [Go.WideShapes.add_plain, World.cell?_alloc_new]
  match j, hj with
  | 0, hj => simpa using hj
  | 1, hj => simpa using hj
  | 2, hj => simpa using hj
  | 3, hj => simpa using hj
  | j + 4, hj => simp at hj
theorem grown_alloc {w w1 : World} {o : Obj} {row : Option Nat} (h : (w.alloc o).grownBy w1 row) : w.grownBy w1 row :=
  (World.grownBy_alloc w o row).trans h

set_option maxHeartbeats 1000000 in
theorem put32_any (le : Bool) (v : Value) (xs : List Int) (z : Int) (w : World) (base : Nat) (hown : w.ownsRow base 5 1 v xs.length (xs.map (Value.int .u8))) (hlen : xs.length ≤ 1000) (hbase : base ≤ w.heap.size) (hz : 0 ≤ z ∧ z ≤ 4294967295) :
    Calls Ybaf.prog 4 #[v, .bool le, .int .u32 z] w fun e w' => ∃ v' ys, e = .returned v' ∧ ys.length = 4 ∧ (∀ y ∈ ys, 0 ≤ y ∧ y ≤ 255) ∧ w'.ownsRow base 5 1 v' (xs ++ ys).length ((xs ++ ys).map (Value.int .u8)) ∧ w.grownBy w' v.ownBlock := by
  obtain ⟨i0, hi, hz0, hz1, hz2⟩ := info_parts info5
  have H : Hid (w.ownsRow base 5 1 v xs.length (xs.map (Value.int .u8))) := hown
  clear hown
  cases le
  · go_enter Ybaf.func4, Ybaf.ntmps4
    go_wp2_with (at_builtin; refine wpList_append_own _ rfl (.tmp 22) (.tmp 34) 24 rfl base 5 i0 (.int .u8 0) 1 1 Ybaf.underlying24 hi hz0 hz1 hz2 rfl (by decide) v xs.length (xs.map (Value.int .u8)) rfl (H.out.alloc _) ⟨w.heap.size, 0, none⟩ 4 4 ([z / 16777216, z / 65536 % 256, z / 256 % 256, z % 256].map (Value.int .u8)) rfl rfl ?c1 ?c2 ?c3 ?c4 ?c5 ?_)
    case c1 => exact cells_four w _ _ _ _
    case c2 => intro u hu; simp at hu; rcases hu with rfl | rfl | rfl | rfl <;> rfl
    case c3 => unfold maxLen; omega
    case c4 => omega
    case c5 => simp; omega
    · intro v' w1 hown' hgrow _
      have HO : Hid (w1.ownsRow base 5 1 v' (xs.length + 4) (xs.map (Value.int .u8) ++ [z / 16777216, z / 65536 % 256, z / 256 % 256, z % 256].map (Value.int .u8))) := hown'
      have HG : Hid (World.grownBy _ w1 v.ownBlock) := hgrow
      clear hown' hgrow
      go_wp2
      go_ret
      refine ⟨v', [z / 16777216, z / 65536 % 256, z / 256 % 256, z % 256], rfl, rfl, ?_, ?_, grown_alloc HG.out⟩
      · intro y hy; simp at hy; omega
      · rw [List.length_append, List.map_append]; exact HO.out
  · go_enter Ybaf.func4, Ybaf.ntmps4
    go_wp2_with (at_builtin; refine wpList_append_own _ rfl (.tmp 8) (.tmp 20) 24 rfl base 5 i0 (.int .u8 0) 1 1 Ybaf.underlying24 hi hz0 hz1 hz2 rfl (by decide) v xs.length (xs.map (Value.int .u8)) rfl (H.out.alloc _) ⟨w.heap.size, 0, none⟩ 4 4 ([z % 256, z / 256 % 256, z / 65536 % 256, z / 16777216].map (Value.int .u8)) rfl rfl ?c1 ?c2 ?c3 ?c4 ?c5 ?_)
    case c1 => exact cells_four w _ _ _ _
    case c2 => intro u hu; simp at hu; rcases hu with rfl | rfl | rfl | rfl <;> rfl
    case c3 => unfold maxLen; omega
    case c4 => omega
    case c5 => simp; omega
    · intro v' w1 hown' hgrow _
      have HO : Hid (w1.ownsRow base 5 1 v' (xs.length + 4) (xs.map (Value.int .u8) ++ [z % 256, z / 256 % 256, z / 65536 % 256, z / 16777216].map (Value.int .u8))) := hown'
      have HG : Hid (World.grownBy _ w1 v.ownBlock) := hgrow
      clear hown' hgrow
      go_wp2
      go_ret
      refine ⟨v', [z % 256, z / 256 % 256, z / 65536 % 256, z / 16777216], rfl, rfl, ?_, ?_, grown_alloc HG.out⟩
      · intro y hy; simp at hy; omega
      · rw [List.length_append, List.map_append]; exact HO.out

end Go.Proofs.YbulkcixwFmt
