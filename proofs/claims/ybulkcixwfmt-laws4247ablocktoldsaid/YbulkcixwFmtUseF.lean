/-
  'Reader.useBlock' OF THE LAW 'capture.LawS4247ABlock', BY ITS CONTRACT: an interface description block.
-/
import Derived.Test.YbulkcixwFmtUseB
import Derived.Deep.RegionLaw
import Derived.Deep.AppendLies
namespace Go.Proofs.YbulkcixwFmt
open Go.RowKit Go.Extern.Stop Go.Stop Go.Extern
set_option maxRecDepth 100000

theorem info31 : (Ybaf.prog.info? 31).map (fun i => (i.zero, i.size, i.bytes)) = some (some (.agg #[.int .u16 0, .int .u32 0]), 2, 8) := by kernel_rfl

theorem Rd.cells {w : World} {R : Nat} {le : Bool} {V : Value} (h : Rd w R le V) : w.cell? ⟨R, 5, none⟩ = some V ∧ w.cell? ⟨R, 1, none⟩ = some (.iface (if le then 36 else 33) (.agg #[])) := by
  refine ⟨?_, ?_⟩
  · rw [cell_of_row w R 5 _ _ _ h]; rfl
  · rw [cell_of_row w R 1 _ _ _ h]; rfl

theorem Rd.c1_le {w : World} {R : Nat} {V : Value} (h : Rd w R true V) : w.cell? ⟨R, 5, none⟩ = some V ∧ w.cell? ⟨R, 1, none⟩ = some (.iface 36 (.agg #[])) := h.cells
theorem Rd.c1_be {w : World} {R : Nat} {V : Value} (h : Rd w R false V) : w.cell? ⟨R, 5, none⟩ = some V ∧ w.cell? ⟨R, 1, none⟩ = some (.iface 33 (.agg #[])) := h.cells
theorem Rd.store {w : World} {R : Nat} {le : Bool} {V : Value} (h : Rd w R le V) (V' : Value) : Rd (w.setCell ⟨R, 5, none⟩ V') R le V' := by
  unfold Rd at *
  exact heap_setCell_same w R 5 _ 41 V' h

/-- The row's block is no reader's block. -/
theorem row_ne {w : World} {R base g n c : Nat} {le : Bool} {V : Value} {xs : List Value} (h : Rd w R le V) (hown : w.ownsRow base 31 2 (.slice (some ⟨g, 0, none⟩) n c) n xs) : g ≠ R := by
  rintro rfl
  rcases hown.2 with ⟨h1, _⟩ | ⟨g', c', cur, h1, _, h2, _⟩
  · simp at h1
  · simp at h1
    unfold Rd at h
    rw [h1.1] at h
    rw [h2] at h
    simp at h

theorem rd_grown {A w2 w3 : World} {R g : Nat} {le : Bool} {V : Value} {o : Obj} (h : Rd A R le V) (hb : Below A.heap.size A w2) (hg : (w2.alloc o).grownBy w3 (some g)) (hne : g ≠ R) : Rd w3 R le V := by
  have h2 := h.later hb
  unfold Rd at *
  have hlt := (Array.getElem?_eq_some_iff.1 h2).1
  rw [hg.block R (by simp; omega) (by simp; omega), heap_alloc_old _ _ hlt]; exact h2
theorem rd_grown' {A w2 w3 : World} {R g : Nat} {le : Bool} {V : Value} {o : Obj} (h : Rd A R le V) (hb : Below A.heap.size A w2) (hg : (w2.alloc o).grownBy w3 (some g)) (hne : g ≠ R) : w3.cell? ⟨R, 5, none⟩ = some V ∧ w3.frozen? ⟨R, 5, none⟩ = false :=
  ⟨(rd_grown h hb hg hne).cells.1, frozen_of_row _ _ _ _ _ (rd_grown h hb hg hne)⟩
theorem own_later {B : Nat} {w W : World} {base e size g n c : Nat} {xs : List Value} (h : w.ownsRow base e size (.slice (some ⟨g, 0, none⟩) n c) n xs) (hg : g < B) (hb : Below B w W) : W.ownsRow base e size (.slice (some ⟨g, 0, none⟩) n c) n xs := by
  refine ⟨h.1, ?_⟩
  rcases h.2 with ⟨h1, _⟩ | ⟨g', c', cur, h1, h2, h3, h4⟩
  · simp at h1
  · obtain ⟨rfl, rfl⟩ : g = g' ∧ c = c' := by simpa using h1
    exact .inr ⟨g, c, cur, rfl, h2, by rw [hb.block g hg]; exact h3, h4⟩

theorem m16_le (w : World) : (method 192 36 (.agg #[]) "Uint16").run Ybaf.prog w = .ok (36, .agg #[]) w := by kernel_rfl
theorem m32_le (w : World) : (method 192 36 (.agg #[]) "Uint32").run Ybaf.prog w = .ok (37, .agg #[]) w := by kernel_rfl
theorem m16_be (w : World) : (method 192 33 (.agg #[]) "Uint16").run Ybaf.prog w = .ok (29, .agg #[]) w := by kernel_rfl
theorem m32_be (w : World) : (method 192 33 (.agg #[]) "Uint32").run Ybaf.prog w = .ok (30, .agg #[]) w := by kernel_rfl

/-- The result's block behind the append and the store. -/
theorem if_facts {w w2 w3 : World} {R g : Nat} {o : Obj} (hb : Below (w.alloc (.cells #[.int .u16 0, .slice none 0 0] 46)).heap.size (w.alloc (.cells #[.int .u16 0, .slice none 0 0] 46)) w2)
    (hg : (w2.alloc o).grownBy w3 (some g)) (hglt : g < w.heap.size) (hRlt : R < w.heap.size) (U : Value) :
    (w3.setCell ⟨R, 5, none⟩ U).cell? ⟨w.heap.size, 0, none⟩ = some (.int .u16 0) ∧ (w3.setCell ⟨R, 5, none⟩ U).cell? ⟨w.heap.size, 1, none⟩ = some (.slice none 0 0) ∧
    (w3.setCell ⟨R, 5, none⟩ U).frozen? ⟨w.heap.size, 0, none⟩ = false ∧ (w3.setCell ⟨R, 5, none⟩ U).frozen? ⟨w.heap.size, 1, none⟩ = false := by
  have hP : w3.heap[w.heap.size]? = some (.cells #[.int .u16 0, .slice none 0 0] 46 (0, 0)) := by
    have h2 := hb.size
    simp at h2
    rw [hg.block w.heap.size (by simp; omega) (by simp; omega), heap_alloc_old _ _ (by omega), hb.block w.heap.size (by simp)]
    exact heap_alloc_new w _
  have hP' : (w3.setCell ⟨R, 5, none⟩ U).heap[w.heap.size]? = some (.cells #[.int .u16 0, .slice none 0 0] 46 (0, 0)) := by
    rw [heap_setCell_other _ _ _ _ (by simp; omega)]; exact hP
  refine ⟨?_, ?_, ?_, ?_⟩
  · rw [cell_of_row _ _ 0 _ _ _ hP']; rfl
  · rw [cell_of_row _ _ 1 _ _ _ hP']; rfl
  · exact frozen_of_row _ _ 0 _ _ hP'
  · exact frozen_of_row _ _ 1 _ _ hP'

theorem if_post {w w2 w3 : World} {R g gg n c cap base : Nat} {le : Bool} {o : Obj} {ys : List Value} (h : Rd (w.alloc (.cells #[.int .u16 0, .slice none 0 0] 46)) R le (.slice (some ⟨g, 0, none⟩) n c)) (hb : Below (w.alloc (.cells #[.int .u16 0, .slice none 0 0] 46)).heap.size (w.alloc (.cells #[.int .u16 0, .slice none 0 0] 46)) w2)
    (hown : w3.ownsRow base 31 2 (.slice (some ⟨gg, 0, none⟩) (n + 1) cap) (n + 1) ys) (hg : (w2.alloc o).grownBy w3 (some g)) (hat : some g = some gg ∨ gg = w2.heap.size + 1) (hne : g ≠ R) (hglt : g < w.heap.size) (hRlt : R < w.heap.size) (x y : Value) :
    Rd (((w3.setCell ⟨R, 5, none⟩ (.slice (some ⟨gg, 0, none⟩) (n + 1) cap)).setCell ⟨w.heap.size, 0, none⟩ x).setCell ⟨w.heap.size, 1, none⟩ y) R le (.slice (some ⟨gg, 0, none⟩) (n + 1) cap) ∧
    (((w3.setCell ⟨R, 5, none⟩ (.slice (some ⟨gg, 0, none⟩) (n + 1) cap)).setCell ⟨w.heap.size, 0, none⟩ x).setCell ⟨w.heap.size, 1, none⟩ y).ownsRow base 31 2 (.slice (some ⟨gg, 0, none⟩) (n + 1) cap) (n + 1) ys ∧
    (gg = g ∨ w.heap.size ≤ gg) ∧ Kp R (some g) w (((w3.setCell ⟨R, 5, none⟩ (.slice (some ⟨gg, 0, none⟩) (n + 1) cap)).setCell ⟨w.heap.size, 0, none⟩ x).setCell ⟨w.heap.size, 1, none⟩ y) := by
  have h2 := hb.size
  simp at h2
  have hR3 : Rd w3 R le (.slice (some ⟨g, 0, none⟩) n c) := rd_grown h hb hg hne
  have hgg : gg = g ∨ w.heap.size + 1 ≤ gg := by
    rcases hat with e | e
    · left; simpa using e.symm
    · right; omega
  have hggR : gg ≠ R := by rcases hgg with e | e <;> omega
  have hggP : gg ≠ w.heap.size := by rcases hgg with e | e <;> omega
  refine ⟨?_, ?_, ?_, ?_⟩
  · have h1 := hR3.store (.slice (some ⟨gg, 0, none⟩) (n + 1) cap)
    unfold Rd at h1 ⊢
    rw [heap_setCell_other _ _ _ _ (by simp; omega), heap_setCell_other _ _ _ _ (by simp; omega)]; exact h1
  · refine ⟨hown.1, ?_⟩
    rcases hown.2 with ⟨e1, _⟩ | ⟨g', c', cur, e1, e2, e3, e4⟩
    · simp at e1
    · obtain ⟨rfl, rfl⟩ : gg = g' ∧ cap = c' := by simpa using e1
      exact .inr ⟨gg, cap, cur, rfl, e2, by rw [heap_setCell_other _ _ _ _ (by simpa using hggP), heap_setCell_other _ _ _ _ (by simpa using hggP), heap_setCell_other _ _ _ _ (by simpa using hggR)]; exact e3, e4⟩
  · rcases hgg with e | e
    · exact .inl e
    · exact .inr (by omega)
  · refine ⟨hg.os.trans hb.os, hg.tape.trans hb.tape, hg.output.trans hb.output, ?_, ?_⟩
    · have := hg.size
      simp at this ⊢
      omega
    · intro b hb1 hb2 hb3
      rw [heap_setCell_other _ _ _ _ (by simp; omega), heap_setCell_other _ _ _ _ (by simp; omega), heap_setCell_other _ _ _ _ (by simpa using hb2), hg.block b (by simp; omega) hb3, heap_alloc_old _ _ (by omega), hb.block b (by simp; omega), heap_alloc_old _ _ (by omega)]


end Go.Proofs.YbulkcixwFmt
