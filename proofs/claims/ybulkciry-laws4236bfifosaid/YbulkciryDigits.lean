/-
  'zzs4236bdigits' ON THE ROAD OF 'engine.LawS4236BFifo', BY ITS CONTRACT; the texts are distinct.
-/
import Derived.Test.YbulkciryCheck
import Derived.Laws.AppendOwnNone
import Derived.Laws.IdiomStrings
namespace Go.Proofs.Ybulkciry
open Go.RowKit
set_option maxRecDepth 100000
set_option linter.unusedVariables false

theorem info5 : (Yba.prog.info? 5).map (fun i => (i.zero, i.size, i.bytes)) = some (some (.int .u8 0), 1, 1) := by kernel_rfl
theorem info3 : (Yba.prog.info? 3).map (fun i => (i.zero, i.size, i.bytes)) = some (some (.int .i64 0), 1, 8) := by kernel_rfl
theorem info9 : (Yba.prog.info? 9).map (fun i => (i.zero, i.size, i.bytes)) = some (some (.string ⟨#[]⟩), 1, 16) := by kernel_rfl
/-- The number that these digits write. -/
def val : List UInt8 → Nat
  | [] => 0
  | d :: l => (d.toNat - 48) * 10 ^ l.length + val l
abbrev u8s (l : List UInt8) : List Value := l.map fun d => .int .u8 (d.toNat : Int)

theorem digit_byte (m : Nat) : ∃ d : UInt8, (d.toNat : Int) = 48 + (m : Int) % 10 ∧ d.toNat - 48 = m % 10 := by
  refine ⟨UInt8.ofNat (48 + m % 10), ?_, ?_⟩
  · have : (UInt8.ofNat (48 + m % 10)).toNat = 48 + m % 10 := by simp; omega
    rw [this]; omega
  · have : (UInt8.ofNat (48 + m % 10)).toNat = 48 + m % 10 := by simp; omega
    rw [this]; omega

theorem val_step {m I : Nat} {l : List UInt8} {d : UInt8} (hd : d.toNat - 48 = m % 10) (h : m * 10 ^ l.length + val l = I) : m / 10 * 10 ^ (d :: l).length + val (d :: l) = I := by
  simp only [val, List.length_cons, hd, Nat.pow_succ]
  rw [← h, ← Nat.add_assoc]
  congr 1
  have := Nat.div_add_mod m 10
  have e : m / 10 * (10 ^ l.length * 10) = (10 * (m / 10)) * 10 ^ l.length := by
    rw [Nat.mul_comm (10 ^ l.length) 10, ← Nat.mul_assoc, Nat.mul_comm (m / 10) 10]
  rw [e, ← Nat.add_mul, this]

set_option maxHeartbeats 2000000 in
theorem digits_any (I : Nat) (hI : I ≤ 1000) (w : World) :
    Calls Yba.prog 14 #[.int .i64 I] w fun e w' => ∃ l : List UInt8, e = .returned (.string ⟨l.toArray⟩) ∧ val l = I ∧ l.length ≤ 1000 ∧ Below w.heap.size w w' := by
  obtain ⟨i5, hi5, hz50, hz51, hz52⟩ := info_parts info5
  by_cases h0 : I = 0
  · subst h0
    go_enter Yba.func14, Yba.ntmps14
    go_wp2
    go_ret
    exact ⟨[48], rfl, rfl, by simp, Below.refl _ _⟩
  · have h0i : ¬ (I : Int) ≤ 0 := by omega
    go_enter Yba.func14, Yba.ntmps14
    go_wp2_with fail
    go_loopw [0, 3] (fun i b wr => ∃ (m : Nat) (l : List UInt8), i = .int .i64 m ∧ wr.ownsRow w.heap.size 5 1 b l.length (u8s l) ∧ Hid (m * 10 ^ l.length + val l = I) ∧ m + l.length ≤ I ∧ Below w.heap.size w wr ∧ (b = .slice none 0 0 → m = I)) (fun i _ _ => (intOf i).toNat)
    case atStart => exact ⟨I, [], rfl, World.ownsRow_nil _ _ _ _, by simp [Hid, val], by simp, Below.refl _ _, fun _ => rfl⟩
    case round =>
      obtain ⟨m, l, rfl, hown, hval, hle, hb, hnil⟩ := hrel
      have hsz := hb.size
      by_cases hm : m = 0
      · subst hm
        rcases hown.2 with ⟨rfl, hl0⟩ | ⟨g, cap, cur, rfl, r⟩
        · exact absurd (hnil rfl).symm h0
        · have hconv := run_convert_bytes_back (P := Yba.prog) wr 64 9 5 ⟨g, 0, none⟩ cap l Yba.underlying64 Yba.underlying5 Yba.underlying9 (fun j hj => by
            rw [Go.WideShapes.add_plain]
            have := hown.cellAt j (by omega)
            simpa [List.getElem?_eq_getElem hj] using this)
          have hv0 := hval.out
          rw [Nat.zero_mul, Nat.zero_add] at hv0
          have HV : Hid (val l = I) := hv0
          clear hown r hnil hval hv0
          go_wp2_with fail
          go_ret
          exact ⟨l, rfl, HV.out, by omega, hb⟩
      · obtain ⟨d, hd1, hd2⟩ := digit_byte m
        have hmi : (0 : Int) < (m : Int) := by omega
        have hmle : (m : Int) ≤ 1000 := by omega
        have hmod : (m : Int).tmod 10 = (m : Int) % 10 := Int.tmod_eq_emod_of_nonneg (by omega)
        have hdiv : (m : Int).tdiv 10 = (m : Int) / 10 := Int.tdiv_eq_ediv_of_nonneg (by omega)
        have hlit : (wr.alloc (.cells #[.int .u8 (d.toNat : Int)] 5)).ownsRow w.heap.size 5 1 (.slice (some ⟨wr.heap.size, 0, none⟩) 1 1) 1 [.int .u8 (d.toNat : Int)] := World.ownsRow_lit wr _ 1 hsz (by unfold maxLen; omega) rfl
        rw [hd1] at hlit
        have HX : Hid (d.toNat - 48 = m % 10 ∧ (d.toNat : Int) = 48 + (m : Int) % 10) := ⟨hd2, hd1⟩
        have HL : Hid _ := hlit
        have HO : Hid (wr.ownsRow w.heap.size 5 1 _ l.length (u8s l)) := hown
        clear hd1 hd2 hlit
        rcases hown.2 with ⟨rfl, hl0⟩ | ⟨g, cap, cur, rfl, r⟩
        · obtain rfl : m = I := hnil rfl
          obtain rfl : l = [] := List.eq_nil_of_length_eq_zero hl0
          clear hown hnil
          go_wp2_with (at_builtin; refine wpList_append_own_none rfl (.tmp 12) (.tmp 13) 64 rfl w.heap.size 5 i5 1 Yba.underlying64 hi5 (.slice (some ⟨wr.heap.size, 0, none⟩) 1 1) 1 _ rfl HL.out rfl ?_)
          obtain ⟨x1, x2⟩ := HX.out
          refine ⟨⟨m / 10, [d], by simp, ?_, val_step x1 hval.out, by simp; omega, hb.alloc hsz _, by simp⟩, by simp [intOf]; omega⟩
          simp only [u8s, List.map_cons, List.map_nil, x2]
          exact HL.out
        · have hnews : ∀ j u, (u8s l)[j]? = some u → (wr.alloc (.cells #[.int .u8 (48 + (m : Int) % 10)] 5)).cell? ((⟨g, 0, none⟩ : Addr).add j) = some u := (hown.alloc _).cells rfl
          have HN : Hid _ := hnews
          clear hown r hnil hnews
          go_wp2_with (at_builtin; refine wpList_append_own _ rfl (.tmp 12) (.tmp 13) 64 rfl w.heap.size 5 i5 (.int .u8 0) 1 1 Yba.underlying64 hi5 hz50 hz51 hz52 rfl (by decide) (.slice (some ⟨wr.heap.size, 0, none⟩) 1 1) 1 _ rfl HL.out ⟨g, 0, none⟩ l.length cap (u8s l) rfl ?c0 ?c1 ?c2 ?c3 ?c4 ?c5 ?_)
          case c0 => simp
          case c1 => exact HN.out
          case c2 => intro u hu; simp at hu; obtain ⟨a, _, rfl⟩ := hu; rfl
          case c3 => unfold maxLen; omega
          case c4 => omega
          case c5 => simp; omega
          · intro v' w1 hown' hgrow hnil'
            have hb1 : Below w.heap.size w w1 := (hb.alloc hsz _).grown hgrow (by simp; omega) (fun k hk => by simp [Value.ownBlock] at hk; omega)
            have hnil2 : ¬ v' = .slice none 0 0 := fun e => hnil' e
            have HH : Hid (w1.ownsRow w.heap.size 5 1 v' (1 + l.length) ([.int .u8 (48 + (m : Int) % 10)] ++ u8s l) ∧ Below w.heap.size w w1 ∧ ¬ v' = .slice none 0 0) := ⟨hown', hb1, hnil2⟩
            clear hown' hgrow hnil' hb1 hnil2
            go_wp2_with fail
            obtain ⟨x1, x2⟩ := HX.out
            obtain ⟨y1, y2, y3⟩ := HH.out
            refine ⟨⟨m / 10, d :: l, by simp, ?_, val_step x1 hval.out, by simp; omega, y2, fun e => absurd e y3⟩, by simp [intOf]; omega⟩
            simp only [u8s, List.map_cons, x2, List.length_cons]
            rw [Nat.add_comm]
            exact y1

end Go.Proofs.Ybulkciry
