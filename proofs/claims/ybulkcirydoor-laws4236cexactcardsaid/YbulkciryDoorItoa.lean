/-
  THE WALKS OF THE LAW 'syntax.LawS4236CExact': the hand-written itoa.
-/
import Derived.Test.YbulkciryDoorRows
import Derived.Test.YbulkciryDoorShelf
import Derived.WalkKit
import Derived.Handy
import Derived.Below
import Derived.WalkLawsBesides
import Derived.Lib.ItoaNum
import Derived.Lib.ItoaMem
import Derived.Laws.IdiomStrings
namespace Go.Proofs.YbulkciryDoor
open Go.RowKit

/-- The buffer's block in mid-loop: 24 cells of bytes, from place i on the digits 'ds'. -/
structure Buf (N i : Nat) (ds : List UInt8) (w : World) : Prop where
  row : ∃ cs : Array Value, w.heap[N]? = some (.cells cs 28 (0, 0)) ∧ cs.size = 24 ∧ (∀ j, j < 24 → ∃ v, cs[j]? = some (.int .u8 v)) ∧ ∀ j (hj : j < ds.length), cs[i + j]? = some (.int .u8 (ds[j].toNat : Int))
  len : i + ds.length = 24

theorem Buf.cell {N i : Nat} {ds : List UInt8} {w : World} (h : Buf N i ds w) (j : Nat) (hj : j < 24) : ∃ v, w.cell? ⟨N, j, none⟩ = some (.int .u8 v) := by
  obtain ⟨cs, hr, hs, hv, hd⟩ := h.row
  obtain ⟨v, hv⟩ := hv j hj
  exact ⟨v, by rw [cell_of_row w N j cs 28 (0, 0) hr]; exact hv⟩
theorem Buf.unfrozen {N i : Nat} {ds : List UInt8} {w : World} (h : Buf N i ds w) (j : Nat) : w.frozen? ⟨N, j, none⟩ = false := by
  obtain ⟨cs, hr, hs, hv, hd⟩ := h.row
  exact frozen_of_row w N j cs 28 hr
theorem Buf.digit {N i : Nat} {ds : List UInt8} {w : World} (h : Buf N i ds w) (j : Nat) (hj : j < ds.length) : w.cell? ⟨N, i + j, none⟩ = some (.int .u8 (ds[j].toNat : Int)) := by
  obtain ⟨cs, hr, hs, hv, hd⟩ := h.row
  rw [cell_of_row w N (i + j) cs 28 (0, 0) hr]; exact hd j hj
theorem Buf.lt {N i : Nat} {ds : List UInt8} {w : World} (h : Buf N i ds w) : N < w.heap.size := by
  obtain ⟨cs, hr, hs, hv, hd⟩ := h.row
  exact (Array.getElem?_eq_some_iff.1 hr).1
theorem Buf.put {N i : Nat} {ds : List UInt8} {w : World} (h : Buf N (i + 1) ds w) (c : UInt8) (z : Int) (hz : z = (c.toNat : Int)) : Buf N i (c :: ds) (w.setCell ⟨N, i, none⟩ (.int .u8 z)) := by
  subst hz
  obtain ⟨cs, hr, hs, hv, hd⟩ := h.row
  have hl := h.len
  refine ⟨⟨cs.setIfInBounds i (.int .u8 (c.toNat : Int)), ?_, by simpa using hs, ?_, ?_⟩, by simp; omega⟩
  · have := heap_setCell_same w N i cs 28 (.int .u8 (c.toNat : Int)) hr
    exact this
  · intro j hj
    by_cases e : i = j
    · subst e; exact ⟨_, by rw [Array.getElem?_setIfInBounds_self_of_lt (by omega)]⟩
    · obtain ⟨v, hv⟩ := hv j hj
      exact ⟨v, by rw [Array.getElem?_setIfInBounds_ne e]; exact hv⟩
  · intro j hj
    cases j with
    | zero => rw [Nat.add_zero, Array.getElem?_setIfInBounds_self_of_lt (by omega)]; rfl
    | succ j =>
      rw [Array.getElem?_setIfInBounds_ne (by omega), show i + (j + 1) = i + 1 + j by omega]
      exact hd j (by simpa using hj)
theorem Buf.fresh (w : World) (cs : Array Value) (h : cs = Array.replicate 24 (.int .u8 0)) : Buf w.heap.size 24 [] (w.alloc (.cells cs 28)) := by
  subst h
  refine ⟨⟨_, heap_alloc_new w _, by simp, ?_, ?_⟩, rfl⟩
  · intro j hj; exact ⟨0, by simp [hj]⟩
  · intro j hj; exact absurd hj (Nat.not_lt_zero _)

theorem Buf.text {N i : Nat} {ds : List UInt8} {w : World} (h : Buf N i ds w) : (convert 29 9 (.slice (some ⟨N, i, none⟩) (24 - i) (24 - i))).run Ybad.prog w = .ok (.string ⟨ds.toArray⟩) w := by
  have hl : 24 - i = ds.length := by have := h.len; omega
  rw [hl]
  exact run_convert_bytes_back (P := Ybad.prog) w 29 9 5 ⟨N, i, none⟩ ds.length ds Ybad.underlying29 Ybad.underlying5 Ybad.underlying9 (fun j hj => by rw [Go.WideShapes.add_plain]; exact h.digit j hj)
theorem slice_tail (N k : Nat) (hk : k < 24) (W : World) : (Instr.sliceAt 28 (.pointer (some ⟨N, 0, none⟩)) (some (.int .i64 (k : Int))) none none).run Ybad.prog W = .ok (.slice (some ⟨N, k, none⟩) (24 - k) (24 - k)) W := by
  have hal : Ybad.prog.arrayLen 28 = 24 := by simp [Program.arrayLen, Ybad.underlying28]
  rw [run_sliceAt_array_l W 28 ⟨N, 0, none⟩ (by simp [Program.arrayLen, Program.elem, Ybad.underlying28]) .i64 (k : Int) (by omega) (by rw [hal]; omega)]
  go_simp
  omega

/-- One round of the loop, in numbers: the last digit goes ahead of what is there. -/
theorem step_last {u U : Nat} {ds : List UInt8} (h : Lib.decDigits u ++ ds = Lib.decDigits U) (hu : u / 10 = 0) : UInt8.ofNat (48 + u % 10) :: ds = Lib.decDigits U := by
  rw [Lib.decDigits_one (by omega)] at h
  rw [show u % 10 = u by omega]; simpa using h
theorem step_more {u U : Nat} {ds : List UInt8} (h : Lib.decDigits u ++ ds = Lib.decDigits U) (hu : ¬ u / 10 = 0) : Lib.decDigits (u / 10) ++ UInt8.ofNat (48 + u % 10) :: ds = Lib.decDigits U := by
  rw [Lib.decDigits, dif_neg (by omega)] at h
  simpa using h
theorem byte_val (u : Nat) : ((UInt8.ofNat (48 + u % 10)).toNat : Int) = 48 + (u : Int) % 10 := by
  have : (UInt8.ofNat (48 + u % 10)).toNat = 48 + u % 10 := by
    rw [UInt8.toNat_ofNat']; omega
  omega
theorem nDigits_pos (u : Nat) : 1 ≤ Lib.nDigits u := by rw [Lib.nDigits]; split <;> omega
theorem nDigits_div {u : Nat} (h : ¬ u / 10 = 0) : Lib.nDigits u = Lib.nDigits (u / 10) + 1 := Lib.nDigits_big (by omega)

theorem nDigits_20 (u : Nat) (h : u < 18446744073709551616) : Lib.nDigits u ≤ 20 := by
  by_cases h1 : 1 ≤ u
  · have := Lib.numDigits_eq u h1 h; split at this <;> omega
  · have : u = 0 := by omega
    subst this; rw [Lib.nDigits_small (by omega)]; omega

set_option maxHeartbeats 1000000 in
theorem citoa_nonneg (U : Nat) (w : World) (hU : (U : Int) ≤ 9223372036854775807) :
    Calls Ybad.prog 7 #[.int .i64 U] w fun e w' => e = .returned (.string ⟨(Lib.itoa U).toArray⟩) ∧ Below w.heap.size w w' := by
  rw [Lib.itoa_nonneg]
  have hn20 := nDigits_20 U (by omega)
  have hz : decide ((U : Int) < 0) = false := by simp
  go_enter Ybad.func7, Ybad.ntmps7
  go_wp2
  go_loopw [4, 6] (fun u i wr => ∃ (un k : Nat) (ds : List UInt8), u = .int .u64 un ∧ i = .int .i64 ((k : Int) + 1) ∧ un ≤ 9223372036854775807 ∧ Lib.nDigits un ≤ k ∧ k ≤ 23 ∧ Hid (Lib.decDigits un ++ ds = Lib.decDigits U) ∧ Buf w.heap.size (k + 1) ds wr ∧ Below w.heap.size w wr) (fun _ i _ => (intOf i).toNat)
  case atStart => exact ⟨U, 23, [], rfl, rfl, by omega, by omega, by omega, List.append_nil _, Buf.fresh w _ rfl, (Below.refl _ _).alloc (Nat.le_refl _) _⟩
  case round =>
    obtain ⟨un, k, ds, rfl, rfl, hun, hnd, hk, hdig, hbuf, hb⟩ := hrel
    have hp := nDigits_pos un
    obtain ⟨v, hcell⟩ := hbuf.cell k (by omega)
    have hfr := hbuf.unfrozen k
    have hput := hbuf.put (UInt8.ofNat (48 + un % 10)) _ (byte_val un).symm
    by_cases hq : un / 10 = 0
    · have hqb : ((un : Int) / 10 == 0) = true := by simp; omega
      rw [step_last hdig.out hq] at hput
      have hsl := slice_tail w.heap.size k (by omega)
      have hcv := hput.text
      clear hq
      go_wp2
      go_ret
      exact ⟨rfl, hb.setCell (Nat.le_refl _) _⟩
    · have hqb : ((un : Int) / 10 == 0) = false := by simp; omega
      have hds : Hid _ := step_more hdig.out hq
      have hnq := nDigits_div hq
      clear hq
      go_wp2
      obtain ⟨k', rfl⟩ : ∃ k', k = k' + 1 := ⟨k - 1, by omega⟩
      exact ⟨⟨un / 10, k', _, by simp, by simp, by omega, by omega, by omega, hds, hput, hb.setCell (Nat.le_refl _) _⟩, by simp [intOf]; omega⟩

set_option maxHeartbeats 1000000 in
theorem citoa_neg (U : Nat) (w : World) (h1 : 1 ≤ U) (hU : (U : Int) ≤ 9223372036854775808) :
    Calls Ybad.prog 7 #[.int .i64 (-(U : Int))] w fun e w' => e = .returned (.string ⟨(Lib.itoa (-(U : Int))).toArray⟩) ∧ Below w.heap.size w w' := by
  rw [Lib.itoa_neg U h1]
  have hn20 := nDigits_20 U (by omega)
  have hz : decide (0 < U) = true := by simp; omega
  go_enter Ybad.func7, Ybad.ntmps7
  go_wp2
  go_loopw [4, 6] (fun u i wr => ∃ (un k : Nat) (ds : List UInt8), u = .int .u64 un ∧ i = .int .i64 ((k : Int) + 1) ∧ un ≤ 9223372036854775808 ∧ Lib.nDigits un ≤ k ∧ k ≤ 23 ∧ Hid (Lib.decDigits un ++ ds = Lib.decDigits U) ∧ Buf w.heap.size (k + 1) ds wr ∧ Below w.heap.size w wr) (fun _ i _ => (intOf i).toNat)
  case atStart => exact ⟨U, 23, [], by congr 1; omega, rfl, by omega, by omega, by omega, List.append_nil _, Buf.fresh w _ rfl, (Below.refl _ _).alloc (Nat.le_refl _) _⟩
  case round =>
    obtain ⟨un, k, ds, rfl, rfl, hun, hnd, hk, hdig, hbuf, hb⟩ := hrel
    have hp := nDigits_pos un
    obtain ⟨v, hcell⟩ := hbuf.cell k (by omega)
    have hfr := hbuf.unfrozen k
    have hput := hbuf.put (UInt8.ofNat (48 + un % 10)) _ (byte_val un).symm
    obtain ⟨k, rfl⟩ : ∃ k', k = k' + 1 := ⟨k - 1, by omega⟩
    by_cases hq : un / 10 = 0
    · have hqb : ((un : Int) / 10 == 0) = true := by simp; omega
      rw [step_last hdig.out hq] at hput
      have hsl := slice_tail w.heap.size k (by omega)
      obtain ⟨v2, hcell2⟩ := hput.cell k (by omega)
      have hfr2 := hput.unfrozen k
      have hput2 := hput.put 45 45 rfl
      have hcv := hput2.text
      clear hq
      go_wp2
      go_ret
      exact ⟨rfl, (hb.setCell (Nat.le_refl _) _).setCell (Nat.le_refl _) _⟩
    · have hqb : ((un : Int) / 10 == 0) = false := by simp; omega
      have hds : Hid _ := step_more hdig.out hq
      have hnq := nDigits_div hq
      clear hq
      go_wp2
      exact ⟨⟨un / 10, k, _, by simp, by simp, by omega, by omega, by omega, hds, hput, hb.setCell (Nat.le_refl _) _⟩, by simp [intOf]; omega⟩

/-- The hand-written itoa: the decimal numeral of every int; nothing that was there has turned. -/
theorem citoa_any (n : Int) (w : World) (h0 : -9223372036854775808 ≤ n) (h1 : n ≤ 9223372036854775807) :
    Calls Ybad.prog 7 #[.int .i64 n] w fun e w' => e = .returned (.string ⟨(Lib.itoa n).toArray⟩) ∧ Below w.heap.size w w' := by
  by_cases h : n < 0
  · obtain ⟨u, rfl⟩ : ∃ u : Nat, n = -(u : Int) := ⟨n.natAbs, by omega⟩
    exact citoa_neg u w (by omega) (by omega)
  · obtain ⟨u, rfl⟩ : ∃ u : Nat, n = u := ⟨n.toNat, by omega⟩
    exact citoa_nonneg u w h1

end Go.Proofs.YbulkciryDoor
