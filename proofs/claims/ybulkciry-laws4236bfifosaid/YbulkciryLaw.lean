/-
  THE WALK OF 'engine.LawS4236BFifo'.
-/
import Derived.Test.YbulkciryOdd
import Derived.Deep.CutBlock
namespace Go.Proofs.Ybulkciry
open Go.RowKit
set_option maxRecDepth 100000
set_option linter.unusedVariables false

/-- The steps that came in. -/
structure Steps (w : World) (a0 : Option Addr) (len : Nat) (F : Nat → Int × Int × Bool × Int) : Prop where
  at_ : ∀ k, k < len → ∃ b off, a0 = some ⟨b, off, none⟩ ∧ b < w.heap.size ∧ w.cell? ⟨b, off + k * 4, none⟩ = some (.int .u8 (F k).1) ∧ w.cell? ⟨b, off + k * 4 + 1, none⟩ = some (.int .u16 (F k).2.1) ∧ w.cell? ⟨b, off + k * 4 + 2, none⟩ = some (.bool (F k).2.2.1) ∧ w.cell? ⟨b, off + k * 4 + 3, none⟩ = some (.int .u8 (F k).2.2.2)
  op : ∀ k, 0 ≤ (F k).1 ∧ (F k).1 ≤ 255
  ln : ∀ k, 0 ≤ (F k).2.1 ∧ (F k).2.1 ≤ 65535
  pick : ∀ k, 0 ≤ (F k).2.2.2 ∧ (F k).2.2.2 ≤ 255

set_option maxHeartbeats 4000000 in
theorem law_main (w : World) (a0 : Option Addr) (len cap0 : Nat) (F : Nat → Int × Int × Bool × Int) (hS : Steps w a0 len F) (hlen : len ≤ 300) :
    Calls Yba.prog 4 #[.slice a0 len cap0] w fun e w' => e = .returned (.bool true) ∧ Below w.heap.size w w' := by
  have hl0 : (len : Int) ≤ 300 := by omega
  have hd : decide ((300 : Int) < (len : Int)) = false := by simp; omega
  have HS : Hid _ := hS
  clear hS
  go_enter Yba.func4, Yba.ntmps4
  go_wp2_with fail
  go_loopw [4, 5, 6, 25] (fun tv kv sz i wr => ∃ (k : Nat) (T : Nat → ByteArray) (N : Nat) (ids ss : List Nat), k ≤ len ∧ i = .int .i64 k ∧ N ≤ k ∧ St w T wr w.heap.size k N ids ss tv kv ∧ sz = .int .i64 (tot T ids)) (fun _ _ _ i _ => len - (intOf i).toNat)
  case atStart =>
    refine ⟨0, fun _ => ⟨#[]⟩, 0, [], [], Nat.zero_le _, rfl, Nat.le_refl _, ⟨(Below.refl _ _).alloc (Nat.le_refl _) _, ⟨Nat.le_refl _, .inl ⟨rfl, rfl, ?_⟩⟩, World.ownsRow_nil _ _ _ _, .inl ⟨rfl, rfl⟩, by simp, fun i hi => by omega⟩, rfl⟩
    exact heap_alloc_new _ _
  case round =>
    obtain ⟨k, T, N, ids, ss, hk, rfl, hN, hst, rfl⟩ := hrel
    by_cases hlt : k < len
    · obtain ⟨b, off, rfl, hbw, s0, s1, s2, s3⟩ := HS.out.at_ k hlt
      have o1 := HS.out.op k
      have o2 := HS.out.ln k
      have o3 := HS.out.pick k
      obtain ⟨⟨op, ln, big, pick⟩, hF⟩ : ∃ f, F k = f := ⟨_, rfl⟩
      rw [hF] at s0 s1 s2 s3 o1 o2 o3
      simp only at s0 s1 s2 s3 o1 o2 o3
      have r0 := (hst.below.cell (p := ⟨b, off + k * 4, none⟩) hbw).trans s0
      have r1 := (hst.below.cell (p := ⟨b, off + k * 4 + 1, none⟩) hbw).trans s1
      have r2 := (hst.below.cell (p := ⟨b, off + k * 4 + 2, none⟩) hbw).trans s2
      have r3 := (hst.below.cell (p := ⟨b, off + k * 4 + 3, none⟩) hbw).trans s3
      have hbr : b < wr.heap.size := Nat.lt_of_lt_of_le hbw hst.below.size
      obtain ⟨z, hz⟩ : ∃ z, tot T ids = z := ⟨_, rfl⟩
      have hi0 : (0 : Int) ≤ (k : Int) := by omega
      have hi1 : (k : Int) < (len : Int) := by omega
      have hopm : op.tmod 2 = op % 2 := Int.tmod_eq_emod_of_nonneg o1.1
      rw [hz]
      have HI : Hid (St w T wr w.heap.size k N ids ss u4 u5 ∧ tot T ids = z) := ⟨hst, hz⟩
      clear hst hz s0 s1 s2 s3
      go_upto_if 32 with fail
      go_cut [4, 5, 6] from 400 (fun tv kv sz wx => ∃ (T' : Nat → ByteArray) (N' : Nat) (ids' ss' : List Nat), N' ≤ k + 1 ∧ St w T' wx w.heap.size (k + 1) N' ids' ss' tv kv ∧ sz = .int .i64 (tot T' ids'))
      case first =>
        have hst1 := HI.out.1.alloc (.cells #[.int .u8 op, .int .u16 ln, .bool big, .int .u8 pick] 50)
        have hz1 := HI.out.2
        have t1 : (wr.alloc (.cells #[.int .u8 op, .int .u16 ln, .bool big, .int .u8 pick] 50)).cell? ⟨wr.heap.size, 1, none⟩ = some (.int .u16 ln) := by simp [go_sem]
        have t2 : (wr.alloc (.cells #[.int .u8 op, .int .u16 ln, .bool big, .int .u8 pick] 50)).cell? ⟨wr.heap.size, 2, none⟩ = some (.bool big) := by simp [go_sem]
        have t3 : (wr.alloc (.cells #[.int .u8 op, .int .u16 ln, .bool big, .int .u8 pick] 50)).cell? ⟨wr.heap.size, 3, none⟩ = some (.int .u8 pick) := by simp [go_sem]
        by_cases he : op % 2 = 0
        · have heb : (op % 2 == 0) = true := by simp [he]
          refine wp_cond_true (show Value.bool (op % 2 == 0) = .bool true by rw [heb]) ?_
          refine even_arm w _ wr.heap.size k N z T ids ss u4 u5 op ln pick big hst1 hz1 hN (by omega) t1 t2 o2 _ _ _ _ _ _ _ _ _ _ _ _ _ _ _ _ _ _ _ _ _ _ _ _ _ _ _ _ _ _ _ _ _ _ _ _ _ _ _ _ _ _ _ _ _ _ _ _ _ _ _ _ _ _ _ _ _ _ _ _ _ _ _ _ _ _ _ _ _ _ _ _ _ _ _ _ _ _ _ _ _ _ _ _ _ _ _ _ _ _ _ _ _ _ _ _ _ _ _ _ _ _ _ _ _ _ _ _ _ _ _ _ _ _ _ _ _ _ _ _ _ _ _ _ _ _ _ _ _ _ _ _ _ _ _ _ _ _ _ _ _ _ _ _ _ _ _ _ _ _ _ _ _ _ _ _ _ _ _ _ _ _ _ _ _ _ _ _ _ _ _ _ _ _ _ _ _ _ _ _ _ _ _ _ _ _ _ _ _ _ _ _ _ _ _ _ _ _ ?_
          intro e0 e1 e2 e3 e4 e5 e6 e7 e8 e9 e10 e11 e12 e13 e14 e15 e16 e17 e18 e19 e20 e21 e22 e23 e24 e25 e26 e27 e28 e29 e30 e31 e32 e33 e34 e35 e36 e37 e38 e39 e40 e41 e42 e43 e44 e45 e46 e47 e48 e49 e50 e51 e52 e53 e54 e55 e56 e57 e58 e59 e60 e61 e62 e63 e64 e65 e66 e67 e68 e69 e70 e71 e72 e73 e74 e75 e76 e77 e78 e79 e80 e81 e82 e83 e84 e85 e86 e87 e88 e89 e90 e91 e92 e93 e94 e95 e96 e97 e98 e99 e100 e101 e102 e103 e104 e105 e106 e107 e108 e109 e110 e111 e112 e113 e114 e115 e116 e117 wx hx
          dsimp only
          go_wp2_with fail
          go_meet
          exact hx
        · have heb : (op % 2 == 0) = false := by simp [he]
          by_cases hN0 : N = 0
          · subst hN0
            obtain ⟨ta, tcap, rfl, _⟩ := HI.out.1.shape
            have HH : Hid (St w T (wr.alloc (.cells #[.int .u8 op, .int .u16 ln, .bool big, .int .u8 pick] 50)) w.heap.size (k + 1) 0 ids ss (.slice ta 0 tcap) u5 ∧ tot T ids = z) := ⟨hst1.mono (by omega), hz1⟩
            clear hst1 t1 t2 t3 HI
            go_wp2_with fail
            go_roundw
            case rel =>
              obtain ⟨m1, m2⟩ := HH.out
              exact ⟨k + 1, T, 0, ids, ss, by omega, by go_num, by omega, m1, by rw [m2]⟩
            case measure => simp [intOf]; omega
          · refine wp_cond_false (show Value.bool (op % 2 == 0) = .bool false by rw [heb]) ?_
            refine wp_mono (odd_arm w _ wr.heap.size k N z T ids ss u4 u5 op ln pick big hst1 hz1 hN (by omega) (by omega) t3 o3 _ _ _ _ _ _ _ _ _ _ _ _ _ _ _ _ _ _ _ _ _ _ _ _ _ _ _ _ _ _ _ _ _ _ _ _ _ _ _ _ _ _ _ _ _ _ _ _ _ _ _ _ _ _ _ _ _ _ _ _ _ _ _ _ _ _ _ _ _ _ _ _ _ _ _ _ _ _ _ _ _ _ _ _ _ _ _ _ _ _ _ _ _ _ _ _ _ _ _ _ _ _ _ _ _ _ _ _ _ _ _ _ _ _ _ _ _ _ _ _ _ _ _ _ _ _ _ _ _ _ _ _ _ _ _ _ _ _ _ _ _ _ _ _ _ _ _ _ _ _ _ _ _ _ _ _ _ _ _ _ _ _ _ _ _ _ _ _ _ _ _ _ _ _ _ _ _ _ _ _ _ _ _ _ _ _ _ _ _ _ _ _ _ _ _ _ _ (Exit.then _ _) ?_) (fun e a w h => noPanic_out h)
            intro e0 e1 e2 e3 e4 e5 e6 e7 e8 e9 e10 e11 e12 e13 e14 e15 e16 e17 e18 e19 e20 e21 e22 e23 e24 e25 e26 e27 e28 e29 e30 e31 e32 e33 e34 e35 e36 e37 e38 e39 e40 e41 e42 e43 e44 e45 e46 e47 e48 e49 e50 e51 e52 e53 e54 e55 e56 e57 e58 e59 e60 e61 e62 wx hx
            dsimp only
            go_wp2_with fail
            go_meet
            exact hx
      case rest =>
      obtain ⟨T', N', ids', ss', hN', hst', rfl⟩ := hcut
      obtain ⟨ta, tcap, rfl, htc⟩ := hst'.shape
      obtain ⟨ka, kcap, rfl, hkcap, hkc⟩ := hst'.ki.shape
      have hck := hst'.ks.check (by omega) ka ta kcap tcap N' hkc htc hst'.lt (by omega)
      obtain ⟨z', hz'⟩ : ∃ z', tot T' ids' = z' := ⟨_, rfl⟩
      rw [hz'] at hck ⊢
      have HC : Hid _ := hck
      have HT : Hid (St w T' wc w.heap.size (k + 1) N' ids' ss' (.slice ta N' tcap) (.slice ka ids'.length kcap) ∧ tot T' ids' = z') := ⟨hst', hz'⟩
      clear hst' hck hkc htc hz' HI r0 r1 r2 r3
      go_wp2_with (go_at_call 16; refine Calls.mono HC.out ?_; rintro e w2 ⟨rfl, hsame⟩)
      go_roundw
      case rel =>
        obtain ⟨m1, m2⟩ := HT.out
        exact ⟨k + 1, T', N', ids', ss', by omega, by go_num, by omega, m1.same hsame, by rw [m2]⟩
      case measure => simp [intOf]; omega
    · obtain ⟨z, hz⟩ : ∃ z, tot T ids = z := ⟨_, rfl⟩
      rw [hz]
      have HB := hst.below
      clear hst hz
      go_wp2_with fail
      go_ret
      exact ⟨rfl, HB⟩

end Go.Proofs.Ybulkciry
