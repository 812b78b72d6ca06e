/-
  A PROOF OF 'Rows.LawS4235ALastWinsSaid' ('example.com/thrifty-pool/thrifty-pool.LawS4235ALastWins'): the frame by program (proof-skeleton.mjs), the walk typed by hand.
-/
import Derived.Test.YbulkcirkRows
import Derived.WalkKit
import Derived.ProofKit
import Derived.OpenShut
import Derived.ShutString
import Derived.ChangeOld
import Derived.Below
namespace Go.Proofs.Ybulkcirk.lawS4235ALastWins
open Go.ChangeShapes Go.WideShapes Go.ChangeAt Go.RowKit
open Go.ChangeMaps (open_string shut_string)
set_option linter.unusedVariables false

theorem own : ownKnob Yba.prog.godebug = none := by kernel_rfl
theorem laidOut : laidOutB Yba.prog = true := by kernel_rfl

/-- WHAT THE WALK IS TOLD OF A SLICE OF INTEGERS THAT CAME IN: it is nil; or it leads to a row of 'cap' cells, the numbers 'zs' (the first 'len' are its elements, the rest its spare room), each fitting its kind. -/
def IsRow (k : IntKind) (w : World) (a : Option Addr) (len cap : Nat) (zs : List Int) : Prop :=
  (a = none ∧ len = 0 ∧ cap = 0 ∧ zs = []) ∨
  ∃ x, a = some x ∧ len ≤ cap ∧ cap ≤ maxLen ∧ zs.length = cap ∧ (∀ i, i < zs.length → w.cell? (x.add i) = some (.int k (zs.getD i 0))) ∧ ∀ n ∈ zs, (Lit.int k n).wf = true

/-- What the walk takes of such a slice: its length's bound, and each element's cell. -/
theorem row_cells {w : World} {a : Option Addr} {len cap : Nat} {zs : List Int} (h : IsRow .i64 w a len cap zs) :
    len ≤ maxLen ∧ ∀ k : Nat, k < len → ∃ b off, a = some ⟨b, off, none⟩ ∧ b < w.heap.size ∧ w.cell? ⟨b, off + k, none⟩ = some (.int .i64 (zs.getD k 0)) := by
  rcases h with ⟨rfl, rfl, rfl, rfl⟩ | ⟨x, rfl, hl, hm, hz, hc, hw⟩
  · exact ⟨Nat.zero_le _, fun k hk => absurd hk (Nat.not_lt_zero _)⟩
  · refine ⟨Nat.le_trans hl hm, fun k hk => ?_⟩
    have h0 := hc k (by omega)
    obtain ⟨b, off, spot⟩ := x
    have hspot : spot = none := by simpa [Addr.add] using World.cell?_spot (hc 0 (by omega))
    subst hspot
    rw [Go.WideShapes.add_plain] at h0
    refine ⟨b, off, rfl, ?_, h0⟩
    apply Classical.byContradiction
    intro hn
    have e : w.heap[b]? = none := by simp; omega
    simp [World.cell?, e] at h0

/-- One round's writes: the option's field holds the new number, nothing older has turned. -/
theorem own_step {w wr : World} {z : Int} (hb : Below w.heap.size w wr) (hs : w.heap.size < wr.heap.size) (hc : wr.cell? ⟨w.heap.size, 3, none⟩ = some (.int .i64 z)) (hf : wr.frozen? ⟨w.heap.size, 3, none⟩ = false) (v : Value) (o : Obj) :
    (((wr.setCell ⟨w.heap.size, 3, none⟩ v).setCell ⟨w.heap.size, 3, none⟩ v).alloc o).cell? ⟨w.heap.size, 3, none⟩ = some v ∧
    (((wr.setCell ⟨w.heap.size, 3, none⟩ v).setCell ⟨w.heap.size, 3, none⟩ v).alloc o).frozen? ⟨w.heap.size, 3, none⟩ = false ∧
    w.heap.size < (((wr.setCell ⟨w.heap.size, 3, none⟩ v).setCell ⟨w.heap.size, 3, none⟩ v).alloc o).heap.size ∧
    Below w.heap.size w (((wr.setCell ⟨w.heap.size, 3, none⟩ v).setCell ⟨w.heap.size, 3, none⟩ v).alloc o) := by
  refine ⟨?_, ?_, ?_, ?_⟩
  · simp [go_sem, hc, hs]
  · simp [go_sem, hf, hs]
  · simp; omega
  · exact ((hb.setCell (Nat.le_refl _) _).setCell (Nat.le_refl _) _).alloc (by simp; omega) _

/-! ### STEP 1: THE WALK: the Go text returns true, AND WRITES NOTHING THAT WAS THERE: 'Below w.heap.size w w'' (Derived/Below.lean: '.refl', '.alloc', '.drew', '.setCell' at a new block, '.trans'). Open each 'IsRow' by 'rcases' AHEAD of 'go_enter'; part every test ahead of the walk. -/
theorem walk (a0 : Option Addr) (len0 cap0 : Nat) (z0 : List Int) (a1 : Int) (w : World) (w0 : IsRow .i64 w a0 len0 cap0 z0) (w1 : (Lit.int .i64 a1).wf = true) :
    Calls Yba.prog 4 #[.slice a0 len0 cap0, .int .i64 a1] w fun e w' => e = .returned (.bool true) ∧ Below w.heap.size w w' := by
  have hmf : ∀ (fn : Fn) (first cap : Array Value) (w : World), (Instr.makeFunc fn first cap).run Yba.prog w = .ok (.func fn first cap) w := fun _ _ _ _ => rfl
  obtain ⟨hlen, hcells⟩ := row_cells w0
  clear w0
  unfold maxLen at hlen
  by_cases hbig : len0 > 1024
  · go_enter Yba.func4, Yba.ntmps4
    go_wp2
    go_ret
    exact ⟨rfl, Below.refl _ _⟩
  · have hd : decide (1024 < (len0 : Int)) = false := by simp; omega
    go_enter Yba.func4, Yba.ntmps4
    go_wp2
    go_loopw [6, 7] (fun want i wr => ∃ (k : Nat) (z : Int), k ≤ len0 ∧ i = .int .i64 k ∧ want = .int .i64 z ∧ wr.cell? ⟨w.heap.size, 3, none⟩ = some (.int .i64 z) ∧ wr.frozen? ⟨w.heap.size, 3, none⟩ = false ∧ w.heap.size < wr.heap.size ∧ Below w.heap.size w wr) (fun _ i _ => len0 - (intOf i).toNat)
    case atStart => exact ⟨0, a1, Nat.zero_le _, rfl, rfl, by simp [go_sem], by simp [go_sem], by simp, (Below.refl _ _).alloc (Nat.le_refl _) _⟩
    case round =>
      obtain ⟨k, z, hk, rfl, rfl, hc, hf, hs, hb⟩ := hrel
      by_cases hlt : k < len0
      · obtain ⟨b, off, ha, hbl, hcell⟩ := hcells k hlt
        have hcr := (hb.cell (p := ⟨b, off + k, none⟩) hbl).trans hcell
        have hs' : w.heap.size < wr.heap.size + 1 := by omega
        have hbl' : b < wr.heap.size := by omega
        have hbl2 : b < wr.heap.size + 1 := by omega
        have hne : ¬ b = w.heap.size := by omega
        have hne2 : ¬ w.heap.size = wr.heap.size := by omega
        subst ha
        clear hcells
        go_wp2
        go_end0
        go_wp2
        go_end0
        go_wp2
        obtain ⟨g1, g2, g3, g4⟩ := own_step hb hs hc hf (.int .i64 (z0[k]?.getD 0)) (Obj.cells #[Value.int IntKind.i64 (z0[k]?.getD 0)] 3)
        exact ⟨⟨k + 1, _, by omega, by go_num, rfl, g1, g2, g3, g4⟩, by simp [intOf]; omega⟩
      · go_wp2
        go_ret
        exact ⟨by simp, hb⟩

/-! ### THE ROW's STEP: WRITTEN OUT: LEAVE IT -/
set_option maxRecDepth 100000 in
theorem lifted (os : Os) (started : os.Started) (H : Type) (enc : TypeId × Value → H) :
    ReturnsInHanded {} Yba.checked os 4 .any (Rows.lawS4235ALastWinsSpec.pre6 enc Yba.prog Yba.f4 Rows.lawS4235ALastWinsRow.domain false) (Rows.lawS4235ALastWinsSpec.post enc Yba.prog Yba.f4 false true false false) := by
  refine returnsInHanded_of_change (C := Yba.checked) own started (by kernel_rfl) Yba.func4
    (ChangeSpec.witness6 (enc := enc) (C := Yba.checked) false ⟨#[], #[.slice none 0 0, .int .i64 0], []⟩ 8 (by kernel_rfl) (by kernel_rfl) (by kernel_rfl) (by kernel_rfl)) ?_
  intro W base args ds gs before hval0 hW hcnd _
  have hval : ∀ (j : Nat) t v, Yba.f4.params[j]? = some t → args[j]? = some v → Value.okWide Yba.prog W .any base t v := hval0
  have hW' := hW
  obtain ⟨p, q, hA0, hV, rfl, hfz, hnd⟩ := hW
  have hA : DataW.TrodAll enc Yba.prog W 0 (fun _ => true) true Yba.f4.params.toList args.toList ds p := hA0
  rw [Yba.params4] at hA hval
  obtain ⟨v0, vs0, d0, ds0, p0, q0, hargs, rfl, rfl, h0, r0⟩ := trodAll_cons hA
  obtain ⟨v1, vs1, d1, ds1, p1, q1, rfl, rfl, rfl, h1, r1⟩ := trodAll_cons r0
  obtain ⟨rfl, rfl, rfl⟩ := trodAll_nil r1
  obtain rfl : args = #[v0, v1] := by cases args; simp_all
  obtain ⟨rfl, rfl⟩ := trodVars_none hV
  obtain ⟨a0, len0, cap0, rfl⟩ := okWide_slice Yba.underlying36 (hval 0 36 v0 rfl rfl)
  have k0 := h0
  have lt0 : ∀ x ∈ p0, x.block < W.heap.size := by obtain ⟨m, hm⟩ := k0; exact DataW.trod_lt m _ _ _ hm
  obtain ⟨z0, w0⟩ : ∃ zs, IsRow .i64 W a0 len0 cap0 zs := by
    obtain ⟨fuel, hf⟩ := h0
    rcases open_ints Yba.underlying36 Yba.underlying3 (by kernel_rfl) hf with ⟨hcs, _⟩ | ⟨x, l, c, zs, hcs, _, hl, hm, hz, _, hcell, hwz⟩
    · simp [Value.cells] at hcs
      obtain ⟨rfl, rfl, rfl⟩ := hcs
      exact ⟨[], .inl ⟨rfl, rfl, rfl, rfl⟩⟩
    · simp [Value.cells] at hcs
      obtain ⟨rfl, rfl, rfl⟩ := hcs
      exact ⟨zs, .inr ⟨_, rfl, hl, hm, by simpa using hz, hcell, hwz⟩⟩
  obtain ⟨a1, rfl, rfl, rfl, w1⟩ := open_int Yba.underlying3 (hval 1 3 v1 rfl rfl) h1
  clear hA0 hval0
  refine (walk a0 len0 cap0 z0 a1 W w0 w1).mono fun e W' ⟨he, bel⟩ => ?_
  subst he
  exact ⟨_, rfl, _, _, _, [], _, [], hW', trodAll_mk1 (shut_bool Yba.underlying4 _), (trodAll_cons_mk (Below.trod laidOut (by kernel_rfl) (of_decide_eq_true (by kernel_rfl)) k0 bel lt0) (trodAll_cons_mk (shut_int Yba.underlying3 w1) trodAll_mk0)), rfl, bel.frame _, fun h => by cases h⟩

theorem over : Rows.lawS4235ALastWinsRow.holds Yba.pinned (OpenSpec.ofChange Rows.lawS4235ALastWinsSpec) :=
  OpenClaim.holds_of_wide 4 Yba.f4 rfl rfl rfl rfl rfl rfl rfl ⟨rfl, rfl, rfl, rfl, rfl⟩ rfl rfl rfl rfl rfl (by kernel_rfl) Yba.func4 (by kernel_rfl)
    (of_decide_eq_true (by kernel_rfl)) (by unfold Func.isWrapper; first | (rw [if_pos (by decide +kernel)]; kernel_rfl) | (rw [if_neg (by decide +kernel)]; exact ⟨rfl, rfl⟩))
    (fun os started H enc _ => lifted os started H enc)

/-- ████ THE STATEMENT ████ -/
theorem proved : Rows.LawS4235ALastWinsSaid := over
end Go.Proofs.Ybulkcirk.lawS4235ALastWins

namespace Go.Proofs.Ybulkcirk
theorem lawS4235ALastWins_holds : Rows.LawS4235ALastWinsSaid := lawS4235ALastWins.proved
end Go.Proofs.Ybulkcirk
