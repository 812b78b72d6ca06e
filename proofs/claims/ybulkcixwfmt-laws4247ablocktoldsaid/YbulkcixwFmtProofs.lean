/-
  THE TOLD CARD OF 'capture.LawS4247ABlock', PROVED.
-/
import Derived.Test.YbulkcixwFmtPiece1
import Derived.Test.YbulkcixwFmtCards
import Derived.ProofKit
import Derived.OpenShut
import Derived.Carry
import Derived.Deep.SlicePairs
import Derived.Stop.Joined
import Derived.Stop.JoinedTold
import Derived.SevenToldRow
namespace Go.Proofs.YbulkcixwFmt
open Go.ChangeShapes Go.WideShapes Go.ChangeAt Go.WideMaps Go.WideElems Go.RowKit Go.Extern.Stop Go.Stop Go.Extern
set_option maxRecDepth 100000

theorem own : ownKnob Ybaf.prog.godebug = none := by kernel_rfl
theorem laidOut : laidOutB Ybaf.prog = true := by kernel_rfl
theorem stops_are : Ybaf.pinned.checked.prog.stops = Rows.lawS4247ABlockRow.stops := by kernel_rfl
theorem stopKnobs : Ybaf.pinned.checked.prog.stopKnobs = [] := by kernel_rfl
theorem quiet (os : Os) : Stop.quiet Ybaf.pinned.checked.prog os := by
  intro k hk
  rw [stopKnobs] at hk
  cases hk

theorem add_flat (b o n : Nat) : (⟨b, o, none⟩ : Addr).add n = ⟨b, o + n, none⟩ := by
  by_cases h : n = 0 <;> simp [Addr.add, h]

/-- The interfaces that came in, as the walk takes them. -/
theorem ifs_in {H : Type} {enc : TypeId × Value → H} {W : World} {v : Value} {d : DataW H} {ps : List MemPlace} {a : Option Addr} {len cap fuel : Nat} (hv : v = .slice a len cap)
    (h : DataW.trod enc Ybaf.prog W 0 (fun _ => true) true fuel 23 v.cells.toList = some (d, ps)) :
    len ≤ 9223372036854775807 ∧ ∃ fs : List (Int × Int), fs.length = len ∧ (∀ f ∈ fs, 0 ≤ f.2 ∧ f.2 ≤ 4294967295) ∧
      (fs.length = 0 ∨ ∃ b off, a = some ⟨b, off, none⟩ ∧ b < W.heap.size ∧ ∀ k, k < fs.length → W.cell? ⟨b, off + k * 2, none⟩ = some (.int .u16 (fs.getD k (0, 0)).1) ∧ W.cell? ⟨b, off + k * 2 + 1, none⟩ = some (.int .u32 (fs.getD k (0, 0)).2)) := by
  subst hv
  rcases Go.Deep.open_slice_pairs Ybaf.underlying23 Ybaf.underlying29 (by kernel_rfl) rfl rfl (by kernel_rfl) (by kernel_rfl) h with ⟨e, _⟩ | ⟨x, l, c, m, n, V0, V1, D0, D1, P0, P1, e, _, h1, h2, h3, _, h4⟩
  · obtain ⟨rfl, rfl, rfl⟩ : a = none ∧ len = 0 ∧ cap = 0 := by simpa [Value.cells] using e
    exact ⟨by omega, [], rfl, by simp, .inl rfl⟩
  · obtain ⟨rfl, rfl, rfl⟩ : a = some x ∧ len = l ∧ cap = c := by simpa [Value.cells] using e
    have hm : len ≤ m := by simp at h3; omega
    have hcell : ∀ i, i < len → ∃ p q : Int, (0 ≤ q ∧ q ≤ 4294967295) ∧ W.cell? (x.add (i * 2)) = some (.int .u16 p) ∧ W.cell? (x.add (i * 2 + 1)) = some (.int .u32 q) := by
      intro i hi
      obtain ⟨c0, c1, t0, t1⟩ := h4 i (by omega)
      obtain ⟨p, e0, _, _⟩ := DataW.trod_int Ybaf.underlying27 t0
      obtain ⟨q, e1, _, w1⟩ := DataW.trod_int Ybaf.underlying22 t1
      simp at e0 e1
      exact ⟨p, q, bounds_u32 w1, by rw [c0, e0], by rw [c1, e1]⟩
    have hpick : ∀ i, ∃ f : Int × Int, i < len → (0 ≤ f.2 ∧ f.2 ≤ 4294967295) ∧ W.cell? (x.add (i * 2)) = some (.int .u16 f.1) ∧ W.cell? (x.add (i * 2 + 1)) = some (.int .u32 f.2) := by
      intro i
      by_cases hi : i < len
      · obtain ⟨p, q, h⟩ := hcell i hi
        exact ⟨(p, q), fun _ => h⟩
      · exact ⟨(0, 0), fun h => absurd h hi⟩
    obtain ⟨f, hf⟩ := Classical.axiomOfChoice hpick
    have hg : ∀ k, k < len → ((List.range len).map f).getD k (0, 0) = f k := fun k hk => by simp [List.getD, hk]
    unfold maxLen at h2
    refine ⟨by omega, (List.range len).map f, by simp, ?_, ?_⟩
    · intro y hy
      obtain ⟨i, hi, rfl⟩ := List.mem_map.1 hy
      exact (hf i (List.mem_range.1 hi)).1
    · by_cases hz : len = 0
      · left; simp [hz]
      · obtain ⟨_, c0, _⟩ := hf 0 (by omega)
        obtain ⟨b, o, spot⟩ := x
        have hs : spot = none := by simpa [Addr.add] using World.cell?_spot c0
        subst hs
        have hb := World.block_lt_of_cell? _ _ c0
        refine .inr ⟨b, o, rfl, by simpa [Addr.add] using hb, fun k hk => ?_⟩
        have hk' : k < len := by simpa using hk
        obtain ⟨_, c1, c2⟩ := hf k hk'
        rw [hg k hk']
        rw [add_flat] at c1 c2
        exact ⟨c1, by rw [Nat.add_assoc]; exact c2⟩

/-- The payload that came in, as the walk takes it. -/
theorem pay_in {H : Type} {enc : TypeId × Value → H} {W : World} {v : Value} {d : DataW H} {qs : List MemPlace} {a : Option Addr} {len cap fuel : Nat} (hv : v = .slice a len cap)
    (h : DataW.trod enc Ybaf.prog W 0 (fun _ => true) true fuel 24 v.cells.toList = some (d, qs)) :
    len ≤ 9223372036854775807 ∧ ∃ ps : List Int, ps.length = len ∧ (∀ x ∈ ps, 0 ≤ x ∧ x ≤ 255) ∧ ((a = none ∧ ps = [] ∧ cap = 0) ∨ ∃ ad, a = some ad ∧ ∀ j u, (ps.map (Value.int .u8))[j]? = some u → W.cell? (ad.add j) = some u) := by
  subst hv
  rcases open_ints Ybaf.underlying24 Ybaf.underlying5 (by kernel_rfl) h with ⟨e, _⟩ | ⟨x, l, c, zs, e, _, h1, h2, h3, _, h4, h5⟩
  · obtain ⟨rfl, rfl, rfl⟩ : a = none ∧ len = 0 ∧ cap = 0 := by simpa [Value.cells] using e
    exact ⟨by omega, [], rfl, by simp, .inl ⟨rfl, rfl, rfl⟩⟩
  · obtain ⟨rfl, rfl, rfl⟩ : a = some x ∧ len = l ∧ cap = c := by simpa [Value.cells] using e
    have hz : len ≤ zs.length := by simp at h3; omega
    unfold maxLen at h2
    refine ⟨by omega, zs.take len, by simp; omega, fun y hy => bounds_u8 (h5 y (List.mem_of_mem_take hy)), .inr ⟨x, rfl, fun j u hu => ?_⟩⟩
    have hj : j < len := by
      have := (List.getElem?_eq_some_iff.1 hu).1
      simp at this
      omega
    rw [h4 j (by omega)]
    have hjz : j < zs.length := by omega
    simp [hj, hjz] at hu
    rw [← hu]
    simp [List.getD, hjz]

set_option maxHeartbeats 2000000 in
theorem block_lifted (os : Os) (started : os.Started) (H : Type) (enc : TypeId × Value → H) :
    ReturnsInTold none {} Ybaf.checked os 3 .any Input.okWide ((OpenSpec.ofChange Rows.lawS4247ABlockSpec).preRow enc Ybaf.prog Ybaf.f3 [] false []) (fun F => ((OpenSpec.ofChange Rows.lawS4247ABlockSpec).at F).post enc Ybaf.prog Ybaf.f3 false true false false) (aloneAtReturn Ybaf.prog) nothingAlways := by
  refine returnsInTold_of_row (C := Ybaf.checked) (s := OpenSpec.ofChange Rows.lawS4247ABlockSpec) (by kernel_rfl) own started (by kernel_rfl) Ybaf.func3
    (OpenSpec.witness_stopped (enc := enc) (C := Ybaf.checked) false ⟨#[], #[.int .u8 0, .int .u32 0, .bool false, .slice none 0 0, .int .u32 0, .int .u32 0, .int .u32 0, .slice none 0 0, .int .u8 0], []⟩ 8 (by kernel_rfl) (by kernel_rfl) (by kernel_rfl) (by kernel_rfl)) ?_
  intro F W base args ds gs before _ hF hval0 hW _ _ _ _ _
  have hval : ∀ (j : Nat) t v, Ybaf.f3.params[j]? = some t → args[j]? = some v → Value.okWide Ybaf.prog W .any base t v := hval0
  have hW' := hW
  obtain ⟨p, q, hA0, hV, rfl, hfz, hnd⟩ := hW
  have hA : DataW.TrodAll enc Ybaf.prog W 0 (fun _ => true) true Ybaf.f3.params.toList args.toList ds p := hA0
  rw [Ybaf.params3] at hA hval
  obtain ⟨v0, vs0, d0, ds0, p0, q0, ea0, rfl, rfl, h0, hA1⟩ := trodAll_cons hA
  obtain ⟨v1, vs1, d1, ds1, p1, q1, rfl, rfl, rfl, h1, hA2⟩ := trodAll_cons hA1
  obtain ⟨v2, vs2, d2, ds2, p2, q2, rfl, rfl, rfl, h2, hA3⟩ := trodAll_cons hA2
  obtain ⟨v3, vs3, d3, ds3, p3, q3, rfl, rfl, rfl, h3, hA4⟩ := trodAll_cons hA3
  obtain ⟨v4, vs4, d4, ds4, p4, q4, rfl, rfl, rfl, h4, hA5⟩ := trodAll_cons hA4
  obtain ⟨v5, vs5, d5, ds5, p5, q5, rfl, rfl, rfl, h5, hA6⟩ := trodAll_cons hA5
  obtain ⟨v6, vs6, d6, ds6, p6, q6, rfl, rfl, rfl, h6, hA7⟩ := trodAll_cons hA6
  obtain ⟨v7, vs7, d7, ds7, p7, q7, rfl, rfl, rfl, h7, hA8⟩ := trodAll_cons hA7
  obtain ⟨v8, vs8, d8, ds8, p8, q8, rfl, rfl, rfl, h8, hA9⟩ := trodAll_cons hA8
  obtain ⟨rfl, rfl, rfl⟩ := trodAll_nil hA9
  obtain rfl : args = #[v0, v1, v2, v3, v4, v5, v6, v7, v8] := by cases args; simp_all
  obtain ⟨rfl, rfl⟩ := trodVars_none hV
  obtain ⟨sel, rfl, rfl, rfl, w0⟩ := open_int Ybaf.underlying5 (hval 0 5 v0 rfl rfl) h0
  obtain ⟨raw, rfl, rfl, rfl, w1⟩ := open_int Ybaf.underlying22 (hval 1 22 v1 rfl rfl) h1
  obtain ⟨le, rfl, rfl, rfl⟩ := open_bool Ybaf.underlying4 (hval 2 4 v2 rfl rfl) h2
  obtain ⟨ai, li, ci, e3⟩ := okWide_slice Ybaf.underlying23 (hval 3 23 v3 rfl rfl)
  obtain ⟨id, rfl, rfl, rfl, w4⟩ := open_int Ybaf.underlying22 (hval 4 22 v4 rfl rfl) h4
  obtain ⟨capLen, rfl, rfl, rfl, w5⟩ := open_int Ybaf.underlying22 (hval 5 22 v5 rfl rfl) h5
  obtain ⟨a, rfl, rfl, rfl, w6⟩ := open_int Ybaf.underlying22 (hval 6 22 v6 rfl rfl) h6
  obtain ⟨ap, lp, cp, e7⟩ := okWide_slice Ybaf.underlying24 (hval 7 24 v7 rfl rfl)
  obtain ⟨trunc, rfl, rfl, rfl, w8⟩ := open_int Ybaf.underlying5 (hval 8 5 v8 rfl rfl) h8
  obtain ⟨f3, g3⟩ := h3
  obtain ⟨f7, g7⟩ := h7
  have hi := ifs_in e3 g3
  have hp := pay_in e7 g7
  have hlt3 : ∀ x ∈ p3, x.block < W.heap.size := DataW.trod_lt _ _ _ _ g3
  have hlt7 : ∀ x ∈ p7, x.block < W.heap.size := DataW.trod_lt _ _ _ _ g7
  clear hA0 hval0 hA hA1 hA2 hA3 hA4 hA5 hA6 hA7 hA8 hV hval hfz hnd ea0
  have key : Calls Ybaf.prog 3 #[.int .u8 sel, .int .u32 raw, .bool le, v3, .int .u32 id, .int .u32 capLen, .int .u32 a, v7, .int .u8 trunc] W fun e w' => e = .returned (.bool true) ∧ Below W.heap.size W w' := by
    subst e3 e7
    obtain ⟨li0, fs, rfl, hfs, hfc⟩ := hi
    obtain ⟨lp0, ps, rfl, hpr, hpc⟩ := hp
    by_cases hbig : 1024 < fs.length ∨ 1024 < ps.length
    · exact law_big sel raw id capLen a trunc le ai ap fs.length ci ps.length cp W hbig li0 lp0
    · exact law_main F.told sel raw id capLen a trunc le ai ap ci cp fs ps W hF (by omega) (by omega) (bounds_u8 w0) (bounds_u32 w4) (bounds_u32 w5) (bounds_u32 w6) (bounds_u8 w8) hfs hfc hpr hpc
  refine key.mono fun e W' ⟨he, hB⟩ => ?_
  subst he
  have r3 := Below.trod laidOut (by kernel_rfl) (of_decide_eq_true (by kernel_rfl)) (⟨f3, g3⟩ : DataW.Trod enc Ybaf.prog W 0 (fun _ => true) true 23 v3 d3 p3) hB hlt3
  have r7 := Below.trod laidOut (by kernel_rfl) (of_decide_eq_true (by kernel_rfl)) (⟨f7, g7⟩ : DataW.Trod enc Ybaf.prog W 0 (fun _ => true) true 24 v7 d7 p7) hB hlt7
  exact ⟨_, rfl, _, _, _, [], _, [], hW', trodAll_mk1 (shut_bool Ybaf.underlying4 _),
    trodAll_cons_mk (shut_int Ybaf.underlying5 w0) (trodAll_cons_mk (shut_int Ybaf.underlying22 w1) (trodAll_cons_mk (shut_bool Ybaf.underlying4 _) (trodAll_cons_mk r3 (trodAll_cons_mk (shut_int Ybaf.underlying22 w4) (trodAll_cons_mk (shut_int Ybaf.underlying22 w5) (trodAll_cons_mk (shut_int Ybaf.underlying22 w6) (trodAll_cons_mk r7 (trodAll_mk1 (shut_int Ybaf.underlying5 w8))))))))), rfl, hB.frame _, fun h => by cases h⟩

/-- THE TOLD CARD. -/
theorem lawS4247ABlock_told_holds : Rows.LawS4247ABlockToldSaid :=
  Claim7.holds_of_told_any 3 Ybaf.f3 _ [] [] _ _ _ (by kernel_rfl) rfl rfl rfl laidOut (by kernel_rfl) rfl ⟨rfl, rfl, rfl, rfl, rfl, rfl, rfl⟩ rfl rfl (by kernel_rfl) (by kernel_rfl) Ybaf.func3 (by kernel_rfl)
    (of_decide_eq_true (by kernel_rfl)) (by unfold Func.isWrapper; first | (rw [if_pos (by decide +kernel)]; kernel_rfl) | (rw [if_neg (by decide +kernel)]; exact ⟨rfl, rfl⟩)) stops_are.symm rfl stopKnobs.symm (by kernel_rfl)
    (by kernel_rfl) (by kernel_rfl) (by kernel_rfl) (by kernel_rfl) (by kernel_rfl) (by kernel_rfl) (by kernel_rfl) (by kernel_rfl) (by kernel_rfl) rfl (by kernel_rfl) rfl rfl
    rfl rfl
    rfl (by kernel_rfl) (by kernel_rfl) (by kernel_rfl) (by decide) (by kernel_rfl)
    (OpenClaim.moreEntering_of (by kernel_rfl) (by kernel_rfl) (by kernel_rfl) (by kernel_rfl) (by kernel_rfl) (by kernel_rfl) (by kernel_rfl) (by kernel_rfl) (by kernel_rfl) (by kernel_rfl))
    ⟨_, WideRow.started_initial, quiet _⟩
    (fun os started _ H enc _ => block_lifted os started H enc)

end Go.Proofs.YbulkcixwFmt
