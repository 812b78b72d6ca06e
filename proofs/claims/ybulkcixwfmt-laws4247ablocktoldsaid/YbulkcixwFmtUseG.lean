/-
  'Reader.useBlock' OF THE LAW 'capture.LawS4247ABlock': ALL ITS WAYS IN ONE CONTRACT, against a plain table.
-/
import Derived.Test.YbulkcixwFmtUseC
import Derived.Test.YbulkcixwFmtUseDle
import Derived.Test.YbulkcixwFmtUseDbe
import Derived.Test.YbulkcixwFmtUseEle
import Derived.Test.YbulkcixwFmtUseEbe
import Derived.Test.YbulkcixwFmtUseFle
import Derived.Test.YbulkcixwFmtUseFbe
namespace Go.Proofs.YbulkcixwFmt
open Go.RowKit Go.Extern.Stop Go.Stop Go.Extern

/-- What a block comes to: an error, a packet (a piece of the body), or neither; and the interfaces behind it. -/
structure Out where
  err : Bool
  ok : Bool
  link : Int
  lo : Nat
  hi : Nat
  fs : List (Int × Int)

def failO (fs : List (Int × Int)) : Out := ⟨true, false, 0, 0, 0, fs⟩
def skipO (fs : List (Int × Int)) : Out := ⟨false, false, 0, 0, 0, fs⟩
def okO (fs : List (Int × Int)) (link : Int) (lo hi : Nat) : Out := ⟨false, true, link, lo, hi, fs⟩

def table6 (le : Bool) (bs : List Int) (fs : List (Int × Int)) : Out :=
  if bs.length < 20 then failO fs else if (fs.length : Int) ≤ rd32 le bs 0 then failO fs else if (bs.length : Int) - 20 < rd32 le bs 12 then failO fs
  else okO fs (fs.getD (rd32 le bs 0).toNat (0, 0)).1 20 (20 + (rd32 le bs 12).toNat)
def table3 (le : Bool) (bs : List Int) (fs : List (Int × Int)) : Out :=
  if bs.length < 4 ∨ fs.length = 0 then failO fs else if (bs.length : Int) - 4 < cap3 le bs (fs.getD 0 (0, 0)).2 then failO fs
  else okO fs (fs.getD 0 (0, 0)).1 4 (4 + (cap3 le bs (fs.getD 0 (0, 0)).2).toNat)
def table1 (le : Bool) (bs : List Int) (fs : List (Int × Int)) : Out :=
  if bs.length < 8 then failO fs else skipO (fs ++ [(rd16 le bs 0, rd32 le bs 4)])
/-- The case table. -/
def table (le : Bool) (t : Int) (bs : List Int) (fs : List (Int × Int)) : Out :=
  if t = 168627466 then skipO [] else if t = 1 then table1 le bs fs else if t = 6 then table6 le bs fs else if t = 3 then table3 le bs fs else skipO fs

theorem flat_length (fs : List (Int × Int)) : (flat fs).length = fs.length * 2 := by
  induction fs with
  | nil => rfl
  | cons f fs ih => simp only [flat, List.flatMap_cons, List.length_append] at ih ⊢; rw [ih]; simp; omega
theorem flat_at (fs : List (Int × Int)) (k : Nat) (hk : k < fs.length) : (flat fs)[k * 2]? = some (.int .u16 (fs.getD k (0, 0)).1) ∧ (flat fs)[k * 2 + 1]? = some (.int .u32 (fs.getD k (0, 0)).2) := by
  induction fs generalizing k with
  | nil => simp at hk
  | cons f fs ih =>
    have e : flat (f :: fs) = .int .u16 f.1 :: .int .u32 f.2 :: flat fs := rfl
    rw [e]
    cases k with
    | zero => exact ⟨rfl, rfl⟩
    | succ k =>
      have := ih k (by simpa using hk)
      rw [show (k + 1) * 2 = k * 2 + 1 + 1 by omega]
      simpa using this
theorem flat_snoc (fs : List (Int × Int)) (f : Int × Int) : flat (fs ++ [f]) = flat fs ++ [.int .u16 f.1, .int .u32 f.2] := by simp [flat]

theorem ifs_of_own {w : World} {base g n c : Nat} {fs : List (Int × Int)} (h : w.ownsRow base 31 2 (.slice (some ⟨g, 0, none⟩) n c) n (flat fs)) (hn : n = fs.length) (hle : n ≤ 1024) : Ifs w g n c fs := by
  refine ⟨hn, hle, (h.lt g rfl).2, fun k hk => ?_, fun k hk => ?_⟩
  · rw [h.cellAt (k * 2) (by omega)]; exact (flat_at fs k (by omega)).1
  · rw [h.cellAt (k * 2 + 1) (by omega)]; exact (flat_at fs k (by omega)).2

/-- What useBlock leaves, against the table's outcome. -/
def UsePost (le : Bool) (R g base : Nat) (body : Value) (len : Nat) (o : Out) (w : World) (e : Ending) (w' : World) : Prop :=
  ∃ p er g' n' c', e = .returned (.tuple #[p, .bool o.ok, er]) ∧ (o.err = true → ∃ u x, er = .iface u x) ∧ (o.err = false → er = .nilIface) ∧ (o.ok = false → p = .agg #[.int .u16 0, .slice none 0 0]) ∧
    (o.ok = true → ∃ ad cp gb cb, body = .slice (some ⟨gb, 0, none⟩) len cb ∧ p = .agg #[.int .u16 o.link, .slice (some ad) (o.hi - o.lo) cp] ∧ (o.lo < o.hi → ad = ⟨gb, o.lo, none⟩) ∧ o.hi - o.lo ≤ cp) ∧
    Rd w' R le (.slice (some ⟨g', 0, none⟩) n' c') ∧ w'.ownsRow base 31 2 (.slice (some ⟨g', 0, none⟩) n' c') n' (flat o.fs) ∧ n' = o.fs.length ∧ (g' = g ∨ w.heap.size ≤ g') ∧ Kp R (some g) w w'

section
variable {le : Bool} {R g n c base : Nat} {body : Value} {len : Nat} {fs : List (Int × Int)} {w w' : World} {e : Ending}

theorem post_fail (hR : Rd w R le (.slice (some ⟨g, 0, none⟩) n c)) (hown : w.ownsRow base 31 2 (.slice (some ⟨g, 0, none⟩) n c) n (flat fs)) (hn : n = fs.length) (hglt : g < w.heap.size)
    (he : PktErr e) (hb : Below w.heap.size w w') : UsePost le R g base body len (failO fs) w e w' := by
  obtain ⟨u, x, rfl⟩ := he
  exact ⟨_, _, g, n, c, rfl, fun _ => ⟨u, x, rfl⟩, fun h => (by cases h), fun _ => rfl, fun h => (by cases h), hR.later hb, own_later hown hglt hb, hn, .inl rfl, Kp.of_below hb⟩
theorem post_skip (hR : Rd w R le (.slice (some ⟨g, 0, none⟩) n c)) (hown : w.ownsRow base 31 2 (.slice (some ⟨g, 0, none⟩) n c) n (flat fs)) (hn : n = fs.length) (hglt : g < w.heap.size)
    (he : e = .returned (.tuple #[.agg #[.int .u16 0, .slice none 0 0], .bool false, .nilIface])) (hb : Below w.heap.size w w') : UsePost le R g base body len (skipO fs) w e w' := by
  subst he
  exact ⟨_, _, g, n, c, rfl, fun h => (by cases h), fun _ => rfl, fun _ => rfl, fun h => (by cases h), hR.later hb, own_later hown hglt hb, hn, .inl rfl, Kp.of_below hb⟩
theorem post_ok {gb cb lo hi : Nat} {link : Int} (hR : Rd w R le (.slice (some ⟨g, 0, none⟩) n c)) (hown : w.ownsRow base 31 2 (.slice (some ⟨g, 0, none⟩) n c) n (flat fs)) (hn : n = fs.length) (hglt : g < w.heap.size)
    (he : PktOk gb link lo hi e) (hb : Below w.heap.size w w') : UsePost le R g base (.slice (some ⟨gb, 0, none⟩) len cb) len (okO fs link lo hi) w e w' := by
  obtain ⟨ad, cp, rfl, h1, h2⟩ := he
  exact ⟨_, _, g, n, c, rfl, fun h => (by cases h), fun _ => rfl, fun h => (by cases h), fun _ => ⟨ad, cp, gb, cb, rfl, rfl, h1, h2⟩, hR.later hb, own_later hown hglt hb, hn, .inl rfl, Kp.of_below hb⟩
end

theorem bd_of {w : World} {v : Value} {bs : List Int} (h : BodyIs w v bs) (hl : bs.length ≤ 2000) (h0 : 0 < bs.length) : ∃ gb cb, v = .slice (some ⟨gb, 0, none⟩) bs.length cb ∧ Bd w gb cb bs := by
  rcases h.2 with ⟨_, rfl⟩ | ⟨gb, cb, rfl, h1, h2, h3, h4⟩
  · simp at h0
  · exact ⟨gb, cb, rfl, ⟨hl, h1, h2, h3, h4, h.1⟩⟩
theorem body_slice {w : World} {v : Value} {bs : List Int} (h : BodyIs w v bs) : ∃ a c, v = .slice a bs.length c := by
  rcases h.2 with ⟨rfl, rfl⟩ | ⟨gb, cb, rfl, _⟩
  · exact ⟨_, _, rfl⟩
  · exact ⟨_, _, rfl⟩

theorem ok_returned {e : Ending} {u : TypeId} {x : Value} (h : e = .returned (.tuple #[.agg #[.int .u16 0, .slice none 0 0], .bool false, .iface u x])) : PktErr e := ⟨u, x, h⟩

/-- useBlock, WHATEVER THE BLOCK: as the table says. -/
theorem use_any (F : Interp) (le : Bool) (R g n c base : Nat) (t : Int) (body : Value) (bs : List Int) (fs : List (Int × Int)) (w : World) (hF : F.answers w.tape) (hR : Rd w R le (.slice (some ⟨g, 0, none⟩) n c))
    (hown : w.ownsRow base 31 2 (.slice (some ⟨g, 0, none⟩) n c) n (flat fs)) (hn : n = fs.length) (hle : n ≤ 1024) (hbase : base ≤ w.heap.size) (hnc : n ≤ c) (hB : BodyIs w body bs) (hl : bs.length ≤ 2000) (hfs : ∀ f ∈ fs, 0 ≤ f.2 ∧ f.2 ≤ 4294967295) :
    Calls Ybaf.prog 7 #[.pointer (some ⟨R, 0, none⟩), .int .u32 t, body] w (UsePost le R g base body bs.length (table le t bs fs) w) := by
  have hglt : g < w.heap.size := (hown.lt g rfl).2
  have hI := ifs_of_own hown hn hle
  have hRlt : R < w.heap.size := (Array.getElem?_eq_some_iff.1 hR).1
  have hgR := row_ne hR hown
  unfold table
  by_cases t0 : t = 168627466
  · subst t0
    rw [if_pos rfl]
    refine (use_section R le g n c body w hR hnc).mono ?_
    rintro e w' ⟨rfl, rfl⟩
    refine ⟨_, _, g, 0, c, rfl, fun h => (by cases h), fun _ => rfl, fun _ => rfl, fun h => (by cases h), ?_, ?_, rfl, .inl rfl, ?_⟩
    · have := hR.store (.slice (some ⟨g, 0, none⟩) 0 c)
      unfold Rd at this ⊢
      rw [heap_alloc_old _ _ (by simpa using hRlt)]; exact this
    · refine ⟨rfl, .inr ?_⟩
      rcases hown.2 with ⟨e1, _⟩ | ⟨g', c', cur, e1, e2, e3, e4, e5, e6, e7⟩
      · simp at e1
      · obtain ⟨rfl, rfl⟩ : g = g' ∧ c = c' := by simpa using e1
        exact ⟨g, c, cur, rfl, e2, by rw [heap_alloc_old _ _ (by simpa using hglt), heap_setCell_other _ _ _ _ (by simpa using hgR)]; exact e3, Nat.zero_le _, e5, e6, by simp [skipO, flat]⟩
    · refine ⟨rfl, rfl, rfl, by simp, fun b hb1 hb2 _ => ?_⟩
      rw [heap_alloc_old _ _ (by simpa using hb1), heap_setCell_other _ _ _ _ (by simpa using hb2)]
  rw [if_neg t0]
  by_cases t1 : t = 1
  · subst t1
    rw [if_pos rfl]
    unfold table1
    by_cases l8 : bs.length < 8
    · rw [if_pos l8]
      obtain ⟨a, cc, rfl⟩ := body_slice hB
      refine (use_short R 1 a bs.length cc w (.inl ⟨rfl, l8⟩)).mono ?_
      rintro e w' ⟨u, x, he, hb⟩
      exact post_fail hR hown hn hglt (ok_returned he) hb
    · rw [if_neg l8]
      obtain ⟨gb, cb, rfl, hbd⟩ := bd_of hB hl (by omega)
      cases le
      · refine (use_if_be R g n c gb cb base bs (flat fs) w hR hown hbase hle (by omega) hbd).mono ?_
        rintro e w' ⟨g', c', rfl, h1, h2, h3, h4⟩
        exact ⟨_, _, g', n + 1, c', rfl, fun h => (by cases h), fun _ => rfl, fun _ => rfl, fun h => (by cases h), h1, by simp only [skipO]; rw [flat_snoc]; exact h2, by simp [skipO, hn], h3, h4⟩
      · refine (use_if_le R g n c gb cb base bs (flat fs) w hR hown hbase hle (by omega) hbd).mono ?_
        rintro e w' ⟨g', c', rfl, h1, h2, h3, h4⟩
        exact ⟨_, _, g', n + 1, c', rfl, fun h => (by cases h), fun _ => rfl, fun _ => rfl, fun h => (by cases h), h1, by simp only [skipO]; rw [flat_snoc]; exact h2, by simp [skipO, hn], h3, h4⟩
  rw [if_neg t1]
  by_cases t6 : t = 6
  · subst t6
    rw [if_pos rfl]
    unfold table6
    by_cases l20 : bs.length < 20
    · rw [if_pos l20]
      obtain ⟨a, cc, rfl⟩ := body_slice hB
      refine (use_short R 6 a bs.length cc w (.inr (.inl ⟨rfl, l20⟩))).mono ?_
      rintro e w' ⟨u, x, he, hb⟩
      exact post_fail hR hown hn hglt (ok_returned he) hb
    rw [if_neg l20]
    obtain ⟨gb, cb, rfl, hbd⟩ := bd_of hB hl (by omega)
    by_cases hid : (fs.length : Int) ≤ rd32 le bs 0
    · rw [if_pos hid]
      cases le
      · refine (use_enh_noif_be F R g n c gb cb bs w hF hR hle (by omega) hbd (by omega)).mono ?_
        rintro e w' ⟨u, x, he, hb⟩
        exact post_fail hR hown hn hglt (ok_returned he) hb
      · refine (use_enh_noif_le F R g n c gb cb bs w hF hR hle (by omega) hbd (by omega)).mono ?_
        rintro e w' ⟨u, x, he, hb⟩
        exact post_fail hR hown hn hglt (ok_returned he) hb
    rw [if_neg hid]
    have key : Calls Ybaf.prog 7 #[.pointer (some ⟨R, 0, none⟩), .int .u32 6, .slice (some ⟨gb, 0, none⟩) bs.length cb] w fun e w' => EnhPost le gb bs (fs.getD (rd32 le bs 0).toNat (0, 0)).1 e ∧ Below w.heap.size w w' := by
      cases le
      · exact use_enh_if_be F R g n c gb cb bs fs w hF hR hI (by omega) hbd (by omega)
      · exact use_enh_if_le F R g n c gb cb bs fs w hF hR hI (by omega) hbd (by omega)
    refine key.mono ?_
    rintro e w' ⟨hp, hb⟩
    by_cases hc : (bs.length : Int) - 20 < rd32 le bs 12
    · rw [if_pos hc]; exact post_fail hR hown hn hglt (hp.1 hc) hb
    · rw [if_neg hc]; exact post_ok hR hown hn hglt (hp.2 (by omega)) hb
  rw [if_neg t6]
  by_cases t3 : t = 3
  · subst t3
    rw [if_pos rfl]
    unfold table3
    by_cases l4 : bs.length < 4
    · rw [if_pos (.inl l4)]
      obtain ⟨a, cc, rfl⟩ := body_slice hB
      refine (use_short R 3 a bs.length cc w (.inr (.inr ⟨rfl, l4⟩))).mono ?_
      rintro e w' ⟨u, x, he, hb⟩
      exact post_fail hR hown hn hglt (ok_returned he) hb
    obtain ⟨gb, cb, rfl, hbd⟩ := bd_of hB hl (by omega)
    by_cases hf0 : fs.length = 0
    · rw [if_pos (.inr hf0)]
      obtain rfl : n = 0 := by omega
      refine (use_sim_noif F R g c gb cb le bs w hF hR (by omega)).mono ?_
      rintro e w' ⟨he, hb⟩
      exact post_fail hR hown hn hglt he hb
    rw [if_neg (by omega)]
    match fs, hf0, hfs, hI, hown, hn with
    | f :: fs, _, hfs, hI, hown, hn =>
      have key : Calls Ybaf.prog 7 #[.pointer (some ⟨R, 0, none⟩), .int .u32 3, .slice (some ⟨gb, 0, none⟩) bs.length cb] w fun e w' => SimPost le gb bs f e ∧ Below w.heap.size w w' := by
        cases le
        · exact use_sim_if_be F R g n c gb cb bs f fs w hF hR hI (by omega) hbd (hfs f (by simp))
        · exact use_sim_if_le F R g n c gb cb bs f fs w hF hR hI (by omega) hbd (hfs f (by simp))
      refine key.mono ?_
      rintro e w' ⟨hp, hb⟩
      have e0 : (f :: fs).getD 0 (0, 0) = f := rfl
      rw [e0]
      by_cases hc : (bs.length : Int) - 4 < cap3 le bs f.2
      · rw [if_pos hc]; exact post_fail hR hown hn hglt (hp.1 hc) hb
      · rw [if_neg hc]; exact post_ok hR hown hn hglt (hp.2 (by omega)) hb
  rw [if_neg t3]
  refine (use_other R t body w (by simpa using t0) (by simpa using t1) (by simpa using t6) (by simpa using t3)).mono ?_
  rintro e w' ⟨he, hb⟩
  exact post_skip hR hown hn hglt he hb

end Go.Proofs.YbulkcixwFmt
