/-
  A PROOF OF 'Rows.LawS4236BFifoSaid' ('engine.LawS4236BFifo').
-/
import Derived.Test.YbulkciryLaw
import Derived.WalkKit
import Derived.ProofKit
import Derived.OpenShut
import Derived.ShutString
import Derived.ChangeOld
import Derived.Below
import Derived.Deep.Slices
namespace Go.Proofs.Ybulkciry.lawS4236BFifo
open Go.ChangeShapes Go.WideShapes Go.ChangeAt Go.RowKit
set_option linter.unusedVariables false
set_option maxRecDepth 100000

theorem own : ownKnob Yba.prog.godebug = none := by kernel_rfl
theorem laidOut : laidOutB Yba.prog = true := by kernel_rfl

/-- The steps that came in, as the walk takes them. -/
theorem steps_in {H : Type} {enc : TypeId × Value → H} {W : World} {d : DataW H} {ps : List MemPlace} {a : Option Addr} {len cap fuel : Nat}
    (h : DataW.trod enc Yba.prog W 0 (fun _ => true) true fuel 46 [.slice a len cap] = some (d, ps)) : len ≤ maxLen ∧ ∃ F, Steps W a len F := by
  have ce : Yba.prog.cellsOf 50 = 4 := by kernel_rfl
  have c5 : Yba.prog.cellsOf 5 = 1 := by kernel_rfl
  have c48 : Yba.prog.cellsOf 48 = 1 := by kernel_rfl
  have c4 : Yba.prog.cellsOf 4 = 1 := by kernel_rfl
  rcases Go.Deep.open_slice Yba.underlying46 h with ⟨e, _⟩ | ⟨x, l, c, m, n, D, Pl, e, _, h1, h2, h3, _, h4⟩
  · obtain ⟨rfl, rfl, rfl⟩ : a = none ∧ len = 0 ∧ cap = 0 := by simpa using e
    exact ⟨Nat.zero_le _, fun _ => (0, 0, false, 0), ⟨fun k hk => absurd hk (Nat.not_lt_zero _), fun _ => by simp, fun _ => by simp, fun _ => by simp⟩⟩
  · obtain ⟨rfl, rfl, rfl⟩ : a = some x ∧ len = l ∧ cap = c := by simpa using e
    have hm : len ≤ m := by simp at h3; omega
    have hcell : ∀ i, ∃ f : Int × Int × Bool × Int, ((0 ≤ f.1 ∧ f.1 ≤ 255) ∧ (0 ≤ f.2.1 ∧ f.2.1 ≤ 65535) ∧ (0 ≤ f.2.2.2 ∧ f.2.2.2 ≤ 255)) ∧ (i < len → W.cell? (x.add (i * 4)) = some (.int .u8 f.1) ∧ W.cell? (x.add (i * 4 + 1)) = some (.int .u16 f.2.1) ∧ W.cell? (x.add (i * 4 + 2)) = some (.bool f.2.2.1) ∧ W.cell? (x.add (i * 4 + 3)) = some (.int .u8 f.2.2.2)) := by
      intro i
      by_cases hi : i < len
      · obtain ⟨cs', g1, g2⟩ := h4 i (by omega)
        rw [ce] at g1
        obtain ⟨_, hlen, hcl⟩ := World.cells?_some g1
        obtain ⟨xs, k, hk, hxy, _, hxl, hf⟩ := DataW.trod_struct Yba.underlying50 g2
        match cs', hlen with
        | [v0, v1, v2, v3], _ =>
          have t0 := hf 0 _ rfl
          have t1 := hf 1 _ rfl
          have t2 := hf 2 _ rfl
          have t3 := hf 3 _ rfl
          have e0 := hcl 0 (by omega)
          have e1 := hcl 1 (by omega)
          have e2 := hcl 2 (by omega)
          have e3 := hcl 3 (by omega)
          rw [Go.Deep.add_add] at e0 e1 e2 e3
          simp [c5, c48, c4] at t0 t1 t2 t3 e0 e1 e2 e3
          match xs, hxl with
          | [y0, y1, y2, y3], _ =>
            simp at t0 t1 t2 t3
            obtain ⟨p, b0, _, w0⟩ := DataW.trod_int Yba.underlying5 t0
            obtain ⟨q, b1, _, w1⟩ := DataW.trod_int Yba.underlying48 t1
            obtain ⟨r, b2, _⟩ := DataW.trod_bool Yba.underlying4 t2
            obtain ⟨s, b3, _, w3⟩ := DataW.trod_int Yba.underlying5 t3
            simp at b0 b1 b2 b3
            subst b0 b1 b2 b3
            exact ⟨(p, q, r, s), ⟨bounds_u8 w0, bounds_u16 w1, bounds_u8 w3⟩, fun _ => ⟨e0, e1, e2, e3⟩⟩
      · exact ⟨(0, 0, false, 0), by simp, fun h => absurd h hi⟩
    obtain ⟨F, hF⟩ := Classical.axiomOfChoice hcell
    refine ⟨by omega, F, ⟨fun k hk => ?_, fun k => (hF k).1.1, fun k => (hF k).1.2.1, fun k => (hF k).1.2.2⟩⟩
    obtain ⟨b, o, spot⟩ := x
    obtain ⟨k0, k1, k2, k3⟩ := (hF k).2 hk
    have hs : spot = none := by
      have := ((hF 0).2 (by omega)).1
      simpa [Addr.add] using World.cell?_spot this
    subst hs
    rw [add_at] at k0 k1 k2 k3
    have hb := World.block_lt_of_cell? _ _ k0
    exact ⟨b, o, rfl, hb, k0, by rw [Nat.add_assoc]; exact k1, by rw [Nat.add_assoc]; exact k2, by rw [Nat.add_assoc]; exact k3⟩

/-- More than 300 steps: nothing is looked at. -/
theorem law_big (a0 : Option Addr) (len cap : Nat) (w : World) (hb : 300 < len) (hm : len ≤ maxLen) :
    Calls Yba.prog 4 #[.slice a0 len cap] w fun e w' => e = .returned (.bool true) ∧ Below w.heap.size w w' := by
  unfold maxLen at hm
  have h1 : (300 : Int) < (len : Int) := by omega
  go_enter Yba.func4, Yba.ntmps4
  go_wp2
  go_ret
  exact ⟨rfl, Below.refl _ _⟩

set_option maxRecDepth 100000 in
theorem lifted (os : Os) (started : os.Started) (H : Type) (enc : TypeId × Value → H) :
    ReturnsInHanded {} Yba.checked os 4 .any (Rows.lawS4236BFifoSpec.pre6 enc Yba.prog Yba.f4 Rows.lawS4236BFifoRow.domain false) (Rows.lawS4236BFifoSpec.post enc Yba.prog Yba.f4 false true false false) := by
  refine returnsInHanded_of_change (C := Yba.checked) own started (by kernel_rfl) Yba.func4
    (ChangeSpec.witness6 (enc := enc) (C := Yba.checked) false ⟨#[], #[.slice none 0 0], []⟩ 8 (by kernel_rfl) (by kernel_rfl) (by kernel_rfl) (by kernel_rfl)) ?_
  intro W base args ds gs before hval0 hW hcnd _
  have hval : ∀ (j : Nat) t v, Yba.f4.params[j]? = some t → args[j]? = some v → Value.okWide Yba.prog W .any base t v := hval0
  have hW' := hW
  obtain ⟨p, q, hA0, hV, rfl, hfz, hnd⟩ := hW
  have hA : DataW.TrodAll enc Yba.prog W 0 (fun _ => true) true Yba.f4.params.toList args.toList ds p := hA0
  rw [Yba.params4] at hA hval
  obtain ⟨v0, vs0, d0, ds0, p0, q0, hargs, rfl, rfl, h0, r0⟩ := trodAll_cons hA
  obtain ⟨rfl, rfl, rfl⟩ := trodAll_nil r0
  obtain rfl : args = #[v0] := by cases args; simp_all
  obtain ⟨rfl, rfl⟩ := trodVars_none hV
  obtain ⟨a0, len0, cap0, rfl⟩ := okWide_slice Yba.underlying46 (hval 0 46 v0 rfl rfl)
  have k0 := h0
  have lt0 : ∀ x ∈ p0, x.block < W.heap.size := by obtain ⟨m, hm⟩ := k0; exact DataW.trod_lt m _ _ _ hm
  obtain ⟨hml, F, hS⟩ : len0 ≤ maxLen ∧ ∃ F, Steps W a0 len0 F := by
    obtain ⟨fuel, hf⟩ := h0
    exact steps_in hf
  clear hA0 hval0
  have key : Calls Yba.prog 4 #[.slice a0 len0 cap0] W fun e w' => e = .returned (.bool true) ∧ Below W.heap.size W w' := by
    by_cases hb : len0 ≤ 300
    · exact law_main W a0 len0 cap0 F hS hb
    · exact law_big a0 len0 cap0 W (by omega) hml
  refine key.mono fun e W' ⟨he, bel⟩ => ?_
  subst he
  exact ⟨_, rfl, _, _, _, [], _, [], hW', trodAll_mk1 (shut_bool Yba.underlying4 _), (trodAll_cons_mk (Below.trod laidOut (by kernel_rfl) (of_decide_eq_true (by kernel_rfl)) k0 bel lt0) trodAll_mk0), rfl, bel.frame _, fun h => by cases h⟩

theorem over : Rows.lawS4236BFifoRow.holds Yba.pinned (OpenSpec.ofChange Rows.lawS4236BFifoSpec) :=
  OpenClaim.holds_of_wide 4 Yba.f4 rfl rfl rfl rfl rfl rfl rfl ⟨rfl, rfl, rfl, rfl, rfl⟩ rfl rfl rfl rfl rfl (by kernel_rfl) Yba.func4 (by kernel_rfl)
    (of_decide_eq_true (by kernel_rfl)) (by unfold Func.isWrapper; first | (rw [if_pos (by decide +kernel)]; kernel_rfl) | (rw [if_neg (by decide +kernel)]; exact ⟨rfl, rfl⟩))
    (fun os started H enc _ => lifted os started H enc)

end Go.Proofs.Ybulkciry.lawS4236BFifo

namespace Go.Proofs.Ybulkciry
/-- THE STATEMENT. -/
theorem lawS4236BFifo_holds : Rows.LawS4236BFifoSaid := lawS4236BFifo.over
end Go.Proofs.Ybulkciry
