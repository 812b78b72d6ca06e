/-
  'zzs4236bcheck' ON THE ROAD OF 'engine.LawS4236BFifo', BY ITS CONTRACT.
-/
import Derived.Test.YbulkciryKeepC
import Derived.BigQuiet
namespace Go.Proofs.Ybulkciry
open Go.RowKit Go.Maps Go.WideMaps
set_option maxRecDepth 100000
set_option linter.unusedVariables false

/-- Nothing but draws. -/
structure Same (w w' : World) : Prop where
  heap : w'.heap = w.heap
  os : w'.os = w.os
  tape : w'.tape = w.tape
  output : w'.output = w.output
theorem Same.refl (w : World) : Same w w := ⟨rfl, rfl, rfl, rfl⟩
theorem Same.drew {w w' : World} (h : Same w w') : Same w w'.drew := ⟨h.heap, h.os, h.tape, h.output⟩
theorem Same.drewN {w w' : World} (h : Same w w') (n : Nat) : Same w (w'.drewN n) := ⟨h.heap, h.os, h.tape, h.output⟩
theorem Same.get {w w' : World} (h : Same w w') (b : Nat) : w'.heap[b]? = w.heap[b]? := by rw [h.heap]
theorem Same.cell {w w' : World} (h : Same w w') {a : Addr} {v : Value} (hc : w.cell? a = some v) : w'.cell? a = some v := by
  rw [World.cell?_of_block (w := w) (h.get a.block)]; exact hc

theorem MapIs.look_val {w : World} {M n b : Nat} {t : ByteArray} {mp : List (List UInt8 × Nat)} (h : MapIs w M n mp) (ht : t.size ≤ maxLen) (hm : (t.data.toList, b) ∈ mp) :
    (Instr.lookup 24 (.map (some M)) (.string t) false).run Yba.prog w = .ok (.pointer (some ⟨b, 0, none⟩)) w := by
  obtain ⟨D, h1, h2, h3, h4⟩ := h
  obtain ⟨v, ps, hrun, hv⟩ := h1.lookup keyed Yba.underlying24 (zero25 w) (show rdP (.pointer none) = some (.nil, []) from rfl) (keyOf_string_mk Yba.underlying9 ht)
  rw [(h3 _ b hm).2] at hv
  rw [hrun, rdP_inv hv]

/-- Element number k; behind the last: nil. -/
def elAt (es : List Nat) (k : Nat) : Value := if k < es.length then .pointer (some ⟨es.getD k 0, 0, none⟩) else .pointer none
theorem elAt_in {es : List Nat} {k f : Nat} (h : k < es.length) (hf : es.getD k 0 = f) : elAt es k = .pointer (some ⟨f, 0, none⟩) := by unfold elAt; rw [if_pos h, hf]
theorem elAt_out {es : List Nat} {k : Nat} (h : ¬ k < es.length) : elAt es k = .pointer none := by unfold elAt; rw [if_neg h]

theorem Ring.front {w : World} {K : Nat} {m : Value} {size : Int} {es ss : List Nat} (h : Ring w K m size es ss) :
    Calls Yba.prog 8 #[.pointer (some ⟨K, 1, none⟩)] w fun e w' => e = .returned (elAt es 0) ∧ w' = w := by
  have hkb := h.kb
  by_cases h0 : es.length = 0
  · obtain rfl : es = [] := List.eq_nil_of_length_eq_zero h0
    exact front_none K m _ _ size w hkb
  · have e2 : nodeAt K es 0 = ⟨es.getD 0 0, 0, none⟩ := by unfold nodeAt; rw [if_pos (by omega)]
    rw [e2] at hkb
    rw [elAt_in (by omega) rfl]
    exact front_some K _ m _ _ size (by omega) w hkb
theorem Ring.nextOf {w : World} {K : Nat} {m : Value} {size : Int} {es ss : List Nat} (h : Ring w K m size es ss) (hn : es.length ≤ 1000) (k f : Nat) (hk : k < es.length) (hf : es.getD k 0 = f) :
    Calls Yba.prog 10 #[.pointer (some ⟨f, 0, none⟩)] w fun e w' => e = .returned (elAt es (k + 1)) ∧ w' = w := by
  have he := h.eb k hk
  rw [hf] at he
  by_cases h1 : k + 1 < es.length
  · have e2 : nodeAt K es (k + 1) = ⟨es.getD (k + 1) 0, 0, none⟩ := by unfold nodeAt; rw [if_pos h1]
    rw [e2] at he
    rw [elAt_in h1 rfl]
    exact next_more K f _ _ _ _ _ _ _ _ m _ size (by omega) w h.kb he (h.eb (k + 1) h1)
  · have e2 : nodeAt K es (k + 1) = ⟨K, 1, none⟩ := by unfold nodeAt; rw [if_neg h1]
    rw [e2] at he
    rw [elAt_out h1]
    exact next_last K f _ _ _ _ m _ size (by omega) w h.kb he

set_option maxHeartbeats 4000000 in
theorem check_kept {A : Nat} {T : Nat → ByteArray} {w : World} {K M n : Nat} {es ss ids : List Nat} (h : Kept A T w K M n es ss ids) (hes : es.length ≤ 1000) (a1 a2 : Option Addr) (cap1 cap2 N : Nat)
    (h1 : ∀ j, j < ids.length → ∃ X off, a1 = some ⟨X, off, none⟩ ∧ w.cell? ⟨X, off + j, none⟩ = some (.int .i64 (ids.getD j 0)))
    (h2 : ∀ j, j < N → ∃ g, a2 = some ⟨g, 0, none⟩ ∧ w.cell? ⟨g, j, none⟩ = some (.string (T j))) (hN : ∀ i ∈ ids, i < N) (hN2 : N ≤ 1000) :
    Calls Yba.prog 16 #[ptr ⟨K, 0, none⟩, .slice a1 ids.length cap1, .slice a2 N cap2, .int .i64 (tot T ids)] w fun e w' => e = .returned (.bool true) ∧ Same w w' := by
  have hms := h.mp.len 3
  rw [pairs_length _ _ _ h.len, ← h.len] at hms
  have hl := h.len
  obtain ⟨⟨c0, c1, c2, c5, c6⟩, f0, f1, f2, f5, f6⟩ := h.ring.kb.cells
  rw [← hl] at c5
  have hlen := len_any K _ _ _ _ _ w h.ring.kb
  rw [← hl] at hlen
  have hfront := h.ring.front
  obtain ⟨L, hL⟩ : ∃ L, ids.length = L := ⟨_, rfl⟩
  have HK : Hid (Kept A T w K M n es ss ids) := h
  have HL : Hid (ids.length = L ∧ es.length = L ∧ es.length ≤ 1000) := ⟨hL, by omega, hes⟩
  have HF : Hid _ := hfront
  have HLen : Hid _ := hlen
  have H1 : Hid _ := h1
  have H2 : Hid _ := h2
  have HN : Hid _ := hN
  rw [hL] at hms c5 HLen ⊢
  have hLi : (L : Int) ≤ 1000 := by omega
  obtain ⟨z, hz⟩ : ∃ z, tot T ids = z := ⟨_, rfl⟩
  rw [hz] at c6 ⊢
  clear h h1 h2 hN hl hfront hlen hL hz hes
  have q1 := nes25
  have q2 := assert35_ok
  go_enter Yba.func16, Yba.ntmps16
  go_wp2_with (first | (go_at_call 7; refine Calls.mono HLen.out ?_; rintro e w' ⟨rfl, rfl⟩) | (go_at_call 8; refine Calls.mono HF.out ?_; rintro e w' ⟨rfl, rfl⟩))
  obtain ⟨HK2, HS⟩ : Hid (Kept A T w' K M n es ss ids) ∧ Same w' w' := ⟨HK, Same.refl _⟩
  go_loopw [9, 10] (fun e j wr => ∃ k : Nat, k ≤ L ∧ j = .int .i64 k ∧ e = elAt es k ∧ Same w' wr) (fun _ j _ => L - (intOf j).toNat)
  case atStart => exact ⟨0, Nat.zero_le _, rfl, rfl, Same.refl _⟩
  case round =>
    obtain ⟨k, hk, rfl, rfl, hsame⟩ := hrel
    clear c0 c1 c2 c5 c6 f0 f1 f2 f5 f6 hms
    by_cases hlt : k < L
    · have hk' := HK.out
      obtain ⟨e1, e2, e3⟩ := HL.out
      obtain ⟨X, off, rfl, x1⟩ := H1.out k (by omega)
      have hmem : ids.getD k 0 ∈ ids := getD_mem0 (by omega)
      have hidN := HN.out _ hmem
      obtain ⟨g, rfl, x2⟩ := H2.out _ hidN
      have hsb := hk'.sb k (by omega)
      have heb := hk'.ring.eb k (by omega)
      have hle := hk'.le _ hmem
      have hlook : ∀ W : World, Same w' W → (Instr.lookup 24 (.map (some M)) (.string (T (ids.getD k 0))) false).run Yba.prog W = .ok (.pointer (some ⟨es.getD k 0, 0, none⟩)) W := fun W hW =>
        (hk'.mp.of_block (hW.get M)).look_val (by unfold maxLen; omega) ((pairs_mem T _ _ _ _ hk'.len).2 ⟨k, by omega, rfl, rfl⟩)
      have hnext : ∀ W : World, Same w' W → Calls Yba.prog 10 #[.pointer (some ⟨es.getD k 0, 0, none⟩)] W fun e w'' => e = .returned (elAt es (k + 1)) ∧ w'' = W := fun W hW =>
        (hk'.ring.of_blocks (fun b _ => hW.get b)).nextOf e3 k _ (by omega) rfl
      obtain ⟨c0, _⟩ := hk'.ring.kb.cells.1
      rw [elAt_in (f := es.getD k 0) (by omega) rfl]
      obtain ⟨id, hid⟩ : ∃ id, ids.getD k 0 = id := ⟨_, rfl⟩
      obtain ⟨f, hf⟩ : ∃ f, es.getD k 0 = f := ⟨_, rfl⟩
      obtain ⟨s, hs⟩ : ∃ s, ss.getD k 0 = s := ⟨_, rfl⟩
      obtain ⟨t, ht⟩ : ∃ t, T id = t := ⟨_, rfl⟩
      rw [hf, hs] at heb
      rw [hid] at x1 x2 hidN hlook hsb
      rw [hs] at hsb
      rw [hf] at hlook hnext ⊢
      rw [ht] at x2 hlook hsb
      have y1 := hsame.cell x1
      have y2 := hsame.cell x2
      have y3 := hsame.cell hsb.cells.1
      have y4 := hsame.cell heb.cells.1.2.2.2
      have y5 := hsame.cell c0
      have l1 : ∀ p q : Nat, (Instr.lookup 24 (.map (some M)) (.string t) false).run Yba.prog ((wr.drewN p).drewN q) = .ok (.pointer (some ⟨f, 0, none⟩)) ((wr.drewN p).drewN q) := fun p q => hlook _ ((hsame.drewN p).drewN q)
      have l2 : ∀ p : Nat, (Instr.lookup 24 (.map (some M)) (.string t) false).run Yba.prog (wr.drewN p) = .ok (.pointer (some ⟨f, 0, none⟩)) (wr.drewN p) := fun p => hlook _ (hsame.drewN p)
      have hi0 : (0 : Int) ≤ (k : Int) := by omega
      have hi1 : (k : Int) < (L : Int) := by omega
      have hi2 : (id : Int) < (N : Int) := by omega
      have hi3 : (0 : Int) ≤ (id : Int) := by omega
      have HX : Hid _ := hnext
      clear hk' hsb heb hlook hnext x1 x2 hmem hid hf hs ht c0
      go_wp2_with fail
      go_quiet (fail)
      go_wp2_with fail
      go_quiet (fail)
      go_wp2_with fail
      refine Calls.mono (HX.out _ (hsame.drewN _)) ?_
      rintro e w2 ⟨rfl, rfl⟩
      go_wp2_with fail
      all_goals go_roundw
      case rel => exact ⟨k + 1, by omega, by go_num, rfl, hsame.drewN _⟩
      case measure => simp [intOf]; omega
    · have hkL : ¬ k < es.length := by have := HL.out; omega
      rw [elAt_out hkL]
      go_wp2_with fail
      go_ret
      exact ⟨rfl, hsame⟩

theorem lennil (w : World) : (Builtin.len_ #[24] 3 #[.map none]).run Yba.prog w = .ok (.int .i64 0) w := Maps.len_nil Yba.underlying24 3

set_option maxHeartbeats 4000000 in
theorem check_fresh {w : World} {K : Nat} (h : KB w K (.map none) (.pointer none) (.pointer none) 0 0) (a1 a2 : Option Addr) (cap1 cap2 N : Nat) :
    Calls Yba.prog 16 #[ptr ⟨K, 0, none⟩, .slice a1 0 cap1, .slice a2 N cap2, .int .i64 0] w fun e w' => e = .returned (.bool true) ∧ Same w w' := by
  have hlen := len_any K _ _ _ _ _ w h
  have hfront := front_none K _ _ _ _ w h
  obtain ⟨⟨c0, c1, c2, c5, c6⟩, f0, f1, f2, f5, f6⟩ := h.cells
  have HF : Hid _ := hfront
  have HLen : Hid _ := hlen
  have q1 := lennil
  clear h hlen hfront
  go_enter Yba.func16, Yba.ntmps16
  go_wp2_with (first | (go_at_call 7; refine Calls.mono HLen.out ?_; rintro e w' ⟨rfl, rfl⟩) | (go_at_call 8; refine Calls.mono HF.out ?_; rintro e w' ⟨rfl, rfl⟩))
  go_loopw [9, 10] (fun e j wr => e = .pointer none ∧ j = .int .i64 0 ∧ wr = w') (fun _ _ _ => 0)
  case atStart => exact ⟨rfl, rfl, rfl⟩
  case round =>
    obtain ⟨rfl, rfl, rfl⟩ := hrel
    go_wp2_with fail
    go_ret
    exact ⟨rfl, Same.refl _⟩

theorem KS.check {A : Nat} {T : Nat → ByteArray} {w : World} {K c : Nat} {ids ss : List Nat} (h : KS A T w K c ids ss) (hc : c ≤ 1000) (a1 a2 : Option Addr) (cap1 cap2 N : Nat)
    (h1 : ∀ j, j < ids.length → ∃ X off, a1 = some ⟨X, off, none⟩ ∧ w.cell? ⟨X, off + j, none⟩ = some (.int .i64 (ids.getD j 0)))
    (h2 : ∀ j, j < N → ∃ g, a2 = some ⟨g, 0, none⟩ ∧ w.cell? ⟨g, j, none⟩ = some (.string (T j))) (hN : ∀ i ∈ ids, i < N) (hN2 : N ≤ 1000) :
    Calls Yba.prog 16 #[ptr ⟨K, 0, none⟩, .slice a1 ids.length cap1, .slice a2 N cap2, .int .i64 (tot T ids)] w fun e w' => e = .returned (.bool true) ∧ Same w w' := by
  obtain ⟨hA, ⟨rfl, rfl, hkb⟩ | ⟨M, n, es, hk, k1, k2⟩⟩ := h
  · exact check_fresh hkb a1 a2 cap1 cap2 N
  · exact check_kept hk (by omega) a1 a2 cap1 cap2 N h1 h2 hN hN2

end Go.Proofs.Ybulkciry
