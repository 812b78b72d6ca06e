/-
  THE ROW OF THE LAW 'syntax.LawS4236CExact' PROVED, AND ITS TIED CARD.
-/
import Derived.Test.YbulkciryDoorWalks
import Derived.Test.YbulkciryDoorTie
import Derived.Test.YbulkciryDoorCards
import Derived.ProofKit
import Derived.LaidMore
import Derived.OpenShut
import Derived.ChangeVars
import Derived.ChangeOld
import Derived.WalkSmall
import Derived.Stop.Joined
import Derived.Stop.LaidErr
import Derived.SevenTiedAt
namespace Go.Proofs.YbulkciryDoor
open Go.ChangeShapes Go.WideShapes Go.ChangeAt Go.WideMaps Go.WideElems Go.RowKit
set_option maxRecDepth 100000

/-- The name of the table of names, off the given row's own list. -/
def namesName : String := Rows.lawS4236CExactRow.named.getD 0 ""

theorem own : ownKnob Ybad.prog.godebug = none := by kernel_rfl
theorem laidOut : laidOutB Ybad.prog = true := by kernel_rfl
theorem gNames : Ybad.prog.globalNamed namesName = some 0 := by kernel_rfl
theorem gPow : Ybad.prog.globalNamed Ybad.powName = some 1 := by kernel_rfl
theorem tNames : (Ybad.prog.globals[0]?).map (·.type) = some 26 := by kernel_rfl
theorem tPow : (Ybad.prog.globals[1]?).map (·.type) = some 37 := by kernel_rfl
theorem cells26 : Ybad.prog.cellsOf 26 = 5 := by kernel_rfl
theorem cells9 : Ybad.prog.cellsOf 9 = 1 := by kernel_rfl
theorem cells37 : Ybad.prog.cellsOf 37 = 20 := by kernel_rfl
theorem cells27 : Ybad.prog.cellsOf 27 = 1 := by kernel_rfl

/-- The door's own heap meets the condition: three closed facts. -/
theorem door_met (os : Os) (args : Array Value) : laidMetH Ybad.prog Rows.lawS4236CExactRow.laid ((World.doorLaid Ybad.prog 29 os).forCall (fun _ _ => 0) ⟨#[], args, []⟩).memory :=
  laidMetH_of_parts3 (fuel := 8) (laidMet_of_run' 8 (by kernel_rfl) (by kernel_rfl)) (by kernel_rfl) (by kernel_rfl)

/-- A listed array of strings, cell by cell. -/
theorem strs_of_trod {H : Type} {enc : TypeId × Value → H} {P : Program} {w : World} {base : Nat} {sp : Nat → Bool} {held : Bool} {fuel : Nat} {t e : TypeId} {n : Nat} {cs : List Value} {ds : List (DataW H)} {p : List MemPlace}
    (ht : P.underlying t = some (.array n e)) (he : P.underlying e = some .string) (hce : P.cellsOf e = 1)
    (h : DataW.trod enc P w base sp held fuel t cs = some (.agg ds, p)) (i : Nat) (hi : i < n) (l : List UInt8) (hd : ds[i]? = some (.lit (.string l))) : cs[i]? = some (.string ⟨l.toArray⟩) := by
  obtain ⟨xs, m, rfl, hx, hlen, hn, hel⟩ := DataW.trod_array ht h
  have h0 := hel i hi
  simp only [Prod.mk.injEq, DataW.agg.injEq] at hx
  rw [hx.1] at hd
  cases hxi : xs[i]? with
  | none => simp [hxi] at hd
  | some x =>
    rw [hxi, hce] at h0
    obtain ⟨s, e1, e2, _⟩ := DataW.trod_string he h0
    subst e2
    have hl : s.data.toList = l := by simpa [hxi] using hd
    have hc : cs[i]? = some (.string s) := by
      have := congrArg (·[0]?) e1
      simpa [List.getElem?_take, List.getElem?_drop] using this
    rw [hc, ← hl]

/-- WHAT THE CONDITION GIVES THE WALKS: the powers of ten, the levels' names. -/
theorem of_laid {W : World} (h : laidMetH Ybad.prog Rows.lawS4236CExactRow.laid W) : Lib.TabIs Ybad.prog W Ybad.powName .u64 Lib.pow10Tab ∧ Names W ∧ 0 < W.heap.size := by
  rw [MakeChecks.laidMetH_plain _ _ _ (by kernel_rfl)] at h
  have h2 := (h.tail).tail
  refine ⟨Lib.tabIs_of_head gPow tPow Ybad.underlying37 Ybad.underlying27 cells27 cells37 (rest := [(namesName, Rows.laid_example_com_palimpsest_palimpsest_internal_syntax_levelNames)]) h2, ?_⟩
  obtain ⟨ps, ⟨g0, t0, cs0, f0, p0, q0, hg0, ht0, hv0, hd0, _, _⟩, _, _⟩ := h2.tail
  obtain rfl := Option.some.inj (gNames.symm.trans hg0)
  obtain rfl := Option.some.inj (tNames.symm.trans ht0)
  have hcell : ∀ (i : Nat) (l : List UInt8), i < 5 → cs0.toList[i]? = some (.string ⟨l.toArray⟩) → W.cell? ⟨0, i, none⟩ = some (.string ⟨l.toArray⟩) := by
    intro i l _ hc
    have := World.var?_cell hg0 hv0 i
    rw [this]
    simpa using hc
  have hstr := fun (i : Nat) (hi : i < 5) (l : List UInt8) hd => strs_of_trod Ybad.underlying26 Ybad.underlying9 cells9 hd0 i hi l hd
  have hN : Names W :=
    ⟨hcell 1 _ (by omega) (hstr 1 (by omega) [114, 101, 97, 100, 32, 117, 110, 99, 111, 109, 109, 105, 116, 116, 101, 100] rfl),
     hcell 2 _ (by omega) (hstr 2 (by omega) [114, 101, 97, 100, 32, 99, 111, 109, 109, 105, 116, 116, 101, 100] rfl),
     hcell 3 _ (by omega) (hstr 3 (by omega) [114, 101, 112, 101, 97, 116, 97, 98, 108, 101, 32, 114, 101, 97, 100] rfl),
     hcell 4 _ (by omega) (hstr 4 (by omega) [115, 101, 114, 105, 97, 108, 105, 122, 97, 98, 108, 101] rfl)⟩
  exact ⟨hN, World.block_lt_of_cell? _ _ hN.1⟩

set_option maxHeartbeats 1000000 in
theorem lifted (os : Os) (started : os.Started) (H : Type) (enc : TypeId × Value → H) :
    ReturnsInHanded {} Ybad.checked os 3 .any (fun w args => (Rows.lawS4236CExactSpec.pre enc Ybad.prog Ybad.f3 [] false w args ∧ laidMetH Ybad.prog Rows.lawS4236CExactRow.laid w) ∧ sizedMet enc Ybad.prog Ybad.f3 (OpenSpec.ofChange Rows.lawS4236CExactSpec) false w args)
      (Rows.lawS4236CExactSpec.post enc Ybad.prog Ybad.f3 false true false false) := by
  refine returnsInHanded_of_change_and (C := Ybad.checked) (X := fun w _ => laidMetH Ybad.prog Rows.lawS4236CExactRow.laid w) (fun _ _ _ hh h => h.of_heap hh) own started (by kernel_rfl) Ybad.func3
    (ChangeSpec.witness_shaped (enc := enc) (C := Ybad.checked) (os := os) (X := fun w _ => laidMetH Ybad.prog Rows.lawS4236CExactRow.laid w) false (World.doorLaid Ybad.prog 29 os) #[.int .i64 0] 8 rfl (World.shaped_of_RefB (by kernel_rfl) (by kernel_rfl)) (by kernel_rfl) (by kernel_rfl) (by kernel_rfl) (door_met os _)) ?_
  intro W base args ds gs before hval0 hW _ _ hL _
  have hval : ∀ (j : Nat) t v, Ybad.f3.params[j]? = some t → args[j]? = some v → Value.okWide Ybad.prog W .any base t v := hval0
  have hW' := hW
  obtain ⟨p, q, hA0, hV0, rfl, hfz, hnd⟩ := hW
  have hA : DataW.TrodAll enc Ybad.prog W 0 (fun _ => true) true Ybad.f3.params.toList args.toList ds p := hA0
  have hV : DataW.TrodVars enc Ybad.prog W (fun _ => true) [namesName] gs q := hV0
  rw [Ybad.params3] at hA hval
  obtain ⟨v0, d0, rfl, rfl, h0⟩ := trodAll_one hA
  obtain ⟨g, t, cs, fuel, d, p', rfl, hg, ht, hvar, hd, rfl⟩ := trodVars_one hV
  obtain rfl := Option.some.inj (gNames.symm.trans hg)
  obtain rfl := Option.some.inj (tNames.symm.trans ht)
  obtain ⟨n, rfl, rfl, rfl, wn⟩ := open_int Ybad.underlying3 (hval 0 3 v0 rfl rfl) h0
  obtain ⟨htab, hN, h0lt⟩ := of_laid hL
  clear hA0 hV0 hval0 hA hV
  have hltv : ∀ x ∈ p', x.block < W.heap.size := fun x hx => hW'.lt x (List.mem_append_right _ (List.mem_append_right _ hx))
  have hbd := bounds_i64 wn
  refine (law_any n W hbd.1 hbd.2 hN htab).mono fun e W' ⟨he, hB⟩ => ?_
  subst he
  obtain ⟨fuel', hd'⟩ := Below.trod laidOut (by kernel_rfl) (of_decide_eq_true (by kernel_rfl)) (v := .agg cs) (⟨fuel, by simpa [Value.cells] using hd⟩ : DataW.Trod enc Ybad.prog W 0 (fun _ => true) true 26 (.agg cs) d p') hB hltv
  have hv' := trodVars_mk1 (enc := enc) (spare := fun b => decide (b < W.heap.size)) hg ht (var?_below hB hg h0lt hvar) (by simpa [Value.cells] using hd')
  exact ⟨_, rfl, _, _, _, [], [], (MemPlace.row ⟨0, 0, none⟩ cs.size ++ p'), hW', trodAll_mk1 (shut_bool Ybad.underlying4 _), trodAll_mk1 (shut_int Ybad.underlying3 wn), hv', hB.frame _, fun h => by cases h⟩

theorem row_holds : Rows.LawS4236CExactSaid :=
  OpenClaim.holds_of_wide 3 Ybad.f3 rfl rfl rfl rfl rfl rfl rfl ⟨rfl, rfl, rfl, rfl, rfl⟩ rfl rfl rfl rfl rfl (by kernel_rfl) Ybad.func3 (by kernel_rfl)
    (of_decide_eq_true (by kernel_rfl)) (by unfold Func.isWrapper; first | (rw [if_pos (by decide +kernel)]; kernel_rfl) | (rw [if_neg (by decide +kernel)]; exact ⟨rfl, rfl⟩))
    (fun os started H enc _ => lifted os started H enc)

/-- THE TIED CARD. -/
theorem lawS4236CExact_card_holds : Rows.LawS4236CExactCardSaid :=
  Claim7.holds_tied_plain_at .later [] [.data, .data, .data, .widerDeep] true (true, "1b8563b0cb9dcf94f5f344b524c73c745c8a37d3d65c76460a3d515862c63b4e") false
    row_holds (fun _ h => by cases h) (by kernel_rfl) (fun _ h => by cases h) lawS4236CExact_row_tie rfl ⟨rfl, rfl⟩ (by kernel_rfl) rfl
    (fun f fn hf hfn => by
      obtain rfl : f = 3 := Option.some.inj ((show Ybad.prog.funcNamed Rows.lawS4236CExactRow.func = some 3 by kernel_rfl).symm.trans hf) |>.symm
      obtain rfl : fn = Ybad.f3 := (Option.some.inj (Ybad.func3.symm.trans hfn)).symm
      exact ⟨by kernel_rfl, fun j t ht => by
        rw [Ybad.params3] at ht
        have hm : t ∈ [3] := by simpa using Array.mem_of_getElem? ht
        have hall : ([3].all fun u => !Ybad.prog.wantsStandIn u) = true := by kernel_rfl
        exact (show Ybad.prog.wantsStandIn t = false by simpa using List.all_eq_true.1 hall t hm)⟩)
    (by kernel_rfl)

end Go.Proofs.YbulkciryDoor
