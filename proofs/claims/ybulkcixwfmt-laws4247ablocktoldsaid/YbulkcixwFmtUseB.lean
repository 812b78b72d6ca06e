/-
  'Reader.useBlock' OF THE LAW 'capture.LawS4247ABlock', BY ITS CONTRACT: enhanced and simple packet blocks.
-/
import Derived.Test.YbulkcixwFmtUseA
import Derived.Deep.Cut
namespace Go.Proofs.YbulkcixwFmt
open Go.RowKit Go.Extern.Stop Go.Stop Go.Extern
set_option maxRecDepth 100000

/-- What a walk takes of a body that is not nil. -/
structure Bd (w : World) (gb cb : Nat) (bs : List Int) : Prop where
  len : bs.length ≤ 2000
  cap : bs.length ≤ cb
  capm : cb ≤ maxLen
  lt : gb < w.heap.size
  cell : ∀ j, j < bs.length → w.cell? ⟨gb, j, none⟩ = some (.int .u8 (bs.getD j 0))
  byte : ∀ x ∈ bs, 0 ≤ x ∧ x ≤ 255

theorem getD_byte {bs : List Int} (h : ∀ x ∈ bs, 0 ≤ x ∧ x ≤ 255) (i : Nat) (hi : i < bs.length) : 0 ≤ bs.getD i 0 ∧ bs.getD i 0 ≤ 255 := by
  have e : bs.getD i 0 = bs[i] := by simp [List.getD, hi]
  rw [e]; exact h _ (List.getElem_mem hi)

theorem Rd.later {w W : World} {R : Nat} {le : Bool} {V : Value} (h : Rd w R le V) (hb : Below w.heap.size w W) : Rd W R le V := by
  unfold Rd at *
  rw [hb.block R (Array.getElem?_eq_some_iff.1 h).1]; exact h

theorem u16_le {w : World} {gb cb : Nat} {bs : List Int} (hb : Bd w gb cb bs) (i c : Nat) (hi : i + 2 ≤ bs.length) (W : World) (hW : Below w.heap.size w W) :
    Calls Ybaf.prog 36 #[.agg #[], .slice (some ⟨gb, i, none⟩) 2 c] W fun e W' => e = .returned (.int .u16 (rd16 true bs i)) ∧ Below w.heap.size w W' ∧ Below W.heap.size W W' := by
  refine (bin16_le gb i c (bs.getD i 0) (bs.getD (i + 1) 0) W (Nat.lt_of_lt_of_le hb.lt hW.size) ((hW.cell hb.lt).trans (hb.cell i (by omega))) ((hW.cell hb.lt).trans (hb.cell (i + 1) (by omega))) (getD_byte hb.byte _ (by omega)) (getD_byte hb.byte _ (by omega))).mono ?_
  rintro e W' ⟨rfl, n, rfl⟩
  exact ⟨rfl, below_drewN (hW.alloc hW.size _) n, below_drewN ((Below.refl _ W).alloc (Nat.le_refl _) _) n⟩
theorem u32_le {w : World} {gb cb : Nat} {bs : List Int} (hb : Bd w gb cb bs) (i c : Nat) (hi : i + 4 ≤ bs.length) (W : World) (hW : Below w.heap.size w W) :
    Calls Ybaf.prog 37 #[.agg #[], .slice (some ⟨gb, i, none⟩) 4 c] W fun e W' => e = .returned (.int .u32 (rd32 true bs i)) ∧ Below w.heap.size w W' ∧ Below W.heap.size W W' := by
  refine (bin32_le gb i c (bs.getD i 0) (bs.getD (i + 1) 0) (bs.getD (i + 2) 0) (bs.getD (i + 3) 0) W (Nat.lt_of_lt_of_le hb.lt hW.size) ((hW.cell hb.lt).trans (hb.cell i (by omega))) ((hW.cell hb.lt).trans (hb.cell (i + 1) (by omega))) ((hW.cell hb.lt).trans (hb.cell (i + 2) (by omega))) ((hW.cell hb.lt).trans (hb.cell (i + 3) (by omega))) (getD_byte hb.byte _ (by omega)) (getD_byte hb.byte _ (by omega)) (getD_byte hb.byte _ (by omega)) (getD_byte hb.byte _ (by omega))).mono ?_
  rintro e W' ⟨rfl, n, rfl⟩
  exact ⟨rfl, below_drewN (hW.alloc hW.size _) n, below_drewN ((Below.refl _ W).alloc (Nat.le_refl _) _) n⟩
theorem u16_be {w : World} {gb cb : Nat} {bs : List Int} (hb : Bd w gb cb bs) (i c : Nat) (hi : i + 2 ≤ bs.length) (W : World) (hW : Below w.heap.size w W) :
    Calls Ybaf.prog 29 #[.agg #[], .slice (some ⟨gb, i, none⟩) 2 c] W fun e W' => e = .returned (.int .u16 (rd16 false bs i)) ∧ Below w.heap.size w W' ∧ Below W.heap.size W W' := by
  refine (bin16_be gb i c (bs.getD i 0) (bs.getD (i + 1) 0) W (Nat.lt_of_lt_of_le hb.lt hW.size) ((hW.cell hb.lt).trans (hb.cell i (by omega))) ((hW.cell hb.lt).trans (hb.cell (i + 1) (by omega))) (getD_byte hb.byte _ (by omega)) (getD_byte hb.byte _ (by omega))).mono ?_
  rintro e W' ⟨rfl, n, rfl⟩
  exact ⟨rfl, below_drewN (hW.alloc hW.size _) n, below_drewN ((Below.refl _ W).alloc (Nat.le_refl _) _) n⟩
theorem u32_be {w : World} {gb cb : Nat} {bs : List Int} (hb : Bd w gb cb bs) (i c : Nat) (hi : i + 4 ≤ bs.length) (W : World) (hW : Below w.heap.size w W) :
    Calls Ybaf.prog 30 #[.agg #[], .slice (some ⟨gb, i, none⟩) 4 c] W fun e W' => e = .returned (.int .u32 (rd32 false bs i)) ∧ Below w.heap.size w W' ∧ Below W.heap.size W W' := by
  refine (bin32_be gb i c (bs.getD i 0) (bs.getD (i + 1) 0) (bs.getD (i + 2) 0) (bs.getD (i + 3) 0) W (Nat.lt_of_lt_of_le hb.lt hW.size) ((hW.cell hb.lt).trans (hb.cell i (by omega))) ((hW.cell hb.lt).trans (hb.cell (i + 1) (by omega))) ((hW.cell hb.lt).trans (hb.cell (i + 2) (by omega))) ((hW.cell hb.lt).trans (hb.cell (i + 3) (by omega))) (getD_byte hb.byte _ (by omega)) (getD_byte hb.byte _ (by omega)) (getD_byte hb.byte _ (by omega)) (getD_byte hb.byte _ (by omega))).mono ?_
  rintro e W' ⟨rfl, n, rfl⟩
  exact ⟨rfl, below_drewN (hW.alloc hW.size _) n, below_drewN ((Below.refl _ W).alloc (Nat.le_refl _) _) n⟩
theorem rd32_range (le : Bool) (bs : List Int) (i : Nat) : 0 ≤ rd32 le bs i ∧ rd32 le bs i ≤ 4294967295 := by
  unfold rd32; split <;> exact g32_range _ _ _ _
theorem rd16_range (le : Bool) (bs : List Int) (i : Nat) : 0 ≤ rd16 le bs i ∧ rd16 le bs i ≤ 65535 := by
  unfold rd16; split <;> exact g16_range _ _

theorem Bd.later {w W : World} {gb cb : Nat} {bs : List Int} (h : Bd w gb cb bs) (hb : Below w.heap.size w W) : Bd W gb cb bs :=
  ⟨h.len, h.cap, h.capm, Nat.lt_of_lt_of_le h.lt hb.size, fun j hj => (hb.cell h.lt).trans (h.cell j hj), h.byte⟩

theorem iface_bad_at (F : Interp) {A : World} {R : Nat} {le : Bool} {a : Option Addr} {n c : Nat} {id : Int} (hF : F.answers A.tape) (hR : Rd A R le (.slice a n c)) (hn : n ≤ 1024) (hid : (n : Int) ≤ id ∧ id ≤ 4294967295) (W : World) (hW : Below A.heap.size A W) :
    Calls Ybaf.prog 9 #[.pointer (some ⟨R, 0, none⟩), .int .u32 id] W fun e W' => ∃ t x, e = .returned (.tuple #[.agg #[.int .u16 0, .int .u32 0], .iface t x]) ∧ Below A.heap.size A W' ∧ Below W.heap.size W W' := by
  refine (iface_bad F R le a n c id W (by rw [hW.tape]; exact hF) (hR.later hW) hn hid).mono ?_
  rintro e W' ⟨t, x, rfl, hb⟩
  exact ⟨t, x, rfl, hW.trans (hb.mono hW.size), hb⟩

/-- A row of interfaces, where its cells lie. -/
structure Ifs (w : World) (g n c : Nat) (fs : List (Int × Int)) : Prop where
  len : n = fs.length
  le : n ≤ 1024
  lt : g < w.heap.size
  link : ∀ k, k < n → w.cell? ⟨g, k * 2, none⟩ = some (.int .u16 (fs.getD k (0, 0)).1)
  snap : ∀ k, k < n → w.cell? ⟨g, k * 2 + 1, none⟩ = some (.int .u32 (fs.getD k (0, 0)).2)

theorem Ifs.later {w W : World} {g n c : Nat} {fs : List (Int × Int)} (h : Ifs w g n c fs) (hb : Below w.heap.size w W) : Ifs W g n c fs :=
  ⟨h.len, h.le, Nat.lt_of_lt_of_le h.lt hb.size, fun k hk => (hb.cell h.lt).trans (h.link k hk), fun k hk => (hb.cell h.lt).trans (h.snap k hk)⟩

theorem iface_ok_at {A : World} {R : Nat} {le : Bool} {g n c : Nat} {fs : List (Int × Int)} {id : Int} (hR : Rd A R le (.slice (some ⟨g, 0, none⟩) n c)) (hI : Ifs A g n c fs) (h0 : 0 ≤ id) (hid : id < (n : Int)) (W : World) (hW : Below A.heap.size A W) :
    Calls Ybaf.prog 9 #[.pointer (some ⟨R, 0, none⟩), .int .u32 id] W fun e W' => e = .returned (.tuple #[.agg #[.int .u16 (fs.getD id.toNat (0, 0)).1, .int .u32 (fs.getD id.toNat (0, 0)).2], .nilIface]) ∧ Below A.heap.size A W' ∧ Below W.heap.size W W' := by
  obtain ⟨k, rfl⟩ : ∃ k : Nat, id = k := ⟨id.toNat, by omega⟩
  have hI' := hI.later hW
  refine (iface_ok R le g n c k _ _ W (hR.later hW) hI.le (by omega) hI'.lt (hI'.link k (by omega)) (hI'.snap k (by omega))).mono ?_
  rintro e W' ⟨rfl, hb⟩
  exact ⟨rfl, hW.trans (hb.mono hW.size), hb⟩

theorem errorf_at (F : Interp) {A : World} {f : ByteArray} (hp : ∀ w, (FmtDoors.printed f 1).run Ybaf.prog w = .ok [(0, 100, false)] w) {b : Nat} {x : Int} (hF : F.answers A.tape) (W : World) (hW : Below A.heap.size A W)
    (hc : W.cell? ⟨b, 0, none⟩ = some (.iface 22 (.int .u32 x))) :
    Calls Ybaf.prog 10 #[.string f, .slice (some ⟨b, 0, none⟩) 1 1] W fun e W' => ∃ t y, e = .returned (.iface t y) ∧ Below A.heap.size A W' := by
  refine (errorf_any F f hp b x W (by rw [hW.tape]; exact hF) hc).mono ?_
  rintro e W' ⟨t, y, rfl, hb⟩
  exact ⟨t, y, rfl, hW.trans (hb.mono hW.size)⟩

/-- The result's block behind what the call has made since. -/
theorem pkt_facts {w W : World} (h : Below (w.alloc (.cells #[.int .u16 0, .slice none 0 0] 46)).heap.size (w.alloc (.cells #[.int .u16 0, .slice none 0 0] 46)) W) :
    W.cell? ⟨w.heap.size, 0, none⟩ = some (.int .u16 0) ∧ W.cell? ⟨w.heap.size, 1, none⟩ = some (.slice none 0 0) ∧ W.frozen? ⟨w.heap.size, 0, none⟩ = false ∧ W.frozen? ⟨w.heap.size, 1, none⟩ = false ∧ w.heap.size < W.heap.size := by
  refine ⟨?_, ?_, ?_, ?_, ?_⟩
  · rw [h.cell (by simp)]; simp
  · rw [h.cell (by simp)]; simp
  · rw [h.frozen (by simp)]; exact World.frozen?_alloc_new _ _ _ _
  · rw [h.frozen (by simp)]; exact World.frozen?_alloc_new _ _ _ _
  · have := h.size; simp at this; omega

theorem below_pkt {w W : World} {o : Obj} (h : Below (w.alloc o).heap.size (w.alloc o) W) : Below w.heap.size w W :=
  ((Below.refl _ w).alloc (Nat.le_refl _) o).trans (h.mono (by simp))


theorem cell_one (w : World) (v : Value) (t : TypeId) : (w.alloc (.cells #[v] t)).cell? ⟨w.heap.size, 0, none⟩ = some v := by simp
/-- Two stores into a block of two cells. -/
theorem st_two {w2 : World} {q : Nat} {x0 y0 : Value} (h0 : w2.cell? ⟨q, 0, none⟩ = some x0) (h1 : w2.cell? ⟨q, 1, none⟩ = some y0) (x y : Value) :
    ((w2.setCell ⟨q, 0, none⟩ x).setCell ⟨q, 1, none⟩ y).cell? ⟨q, 0, none⟩ = some x ∧ ((w2.setCell ⟨q, 0, none⟩ x).setCell ⟨q, 1, none⟩ y).cell? ⟨q, 1, none⟩ = some y := by
  refine ⟨?_, ?_⟩
  · rw [World.cell?_setCell_other _ _ _ _ (by simp)]; exact World.cell?_setCell_same _ _ _ h0
  · exact World.cell?_setCell_same _ _ _ (by rw [World.cell?_setCell_other _ _ _ _ (by simp)]; exact h1)

/-- A new error, no packet. -/
def PktErr (e : Ending) : Prop := ∃ u x, e = .returned (.tuple #[.agg #[.int .u16 0, .slice none 0 0], .bool false, .iface u x])
/-- A packet: a piece of the body. -/
def PktOk (gb : Nat) (link : Int) (lo hi : Nat) (e : Ending) : Prop := ∃ ad cp, e = .returned (.tuple #[.agg #[.int .u16 link, .slice (some ad) (hi - lo) cp], .bool true, .nilIface]) ∧ (lo < hi → ad = ⟨gb, lo, none⟩) ∧ hi - lo ≤ cp

end Go.Proofs.YbulkcixwFmt
