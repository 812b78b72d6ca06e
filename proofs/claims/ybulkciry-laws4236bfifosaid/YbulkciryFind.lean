/-
  'keptStatements.find' ON THE ROAD OF 'engine.LawS4236BFifo', BY ITS CONTRACT.
-/
import Derived.Test.YbulkciryMap
namespace Go.Proofs.Ybulkciry
open Go.RowKit
set_option maxRecDepth 100000
set_option linter.unusedVariables false

theorem assert35 (v : Value) (w : World) : (Instr.typeAssert (.iface 35 v) 20 35 false).run Yba.prog w = .ok v w := by kernel_rfl
theorem assert35_ok (v : Value) (w : World) : (Instr.typeAssert (.iface 35 v) 20 35 true).run Yba.prog w = .ok (.tuple #[v, .bool true]) w := by kernel_rfl

set_option maxHeartbeats 1000000 in
theorem find_in {w : World} {K M n : Nat} {size : Int} {es ss : List Nat} {mp : List (List UInt8 × Nat)} {t : ByteArray} (h : Ring w K (.map (some M)) size es ss) (hn : es.length ≤ 1000) (hM : MapIs w M n mp) (ht : t.size ≤ maxLen) (p f s : Nat) (hp : p < es.length) (hf : es.getD p 0 = f) (hs : ss.getD p 0 = s) (hm : (t.data.toList, f) ∈ mp) :
    Calls Yba.prog 6 #[ptr ⟨K, 0, none⟩, .string t] w fun e w' => e = .returned (ptr ⟨s, 0, none⟩) ∧ Ring w' K (.map (some M)) size (mv p es) (mv p ss) ∧ Fr w w' (K :: es) ∧ w'.heap.size = w.heap.size := by
  have hlook := hM.look_in ht hm
  obtain ⟨⟨c0, c1, c2, c5, c6⟩, f0, f1, f2, f5, f6⟩ := h.kb.cells
  have hmv := h.move hn p hp
  rw [hf] at hmv
  have hpost : ∀ w', Ring w' K (.map (some M)) size (mv p es) (mv p ss) → w'.cell? ⟨f, 3, none⟩ = some (.iface 35 (.pointer (some ⟨s, 0, none⟩))) := by
    intro w' hr
    have he := hr.eb (es.length - 1) (by rw [mv_length hp]; omega)
    have hsg : sg es.length p (es.length - 1) = p := by unfold sg; rw [if_neg (by omega)]
    rw [mv_getD hp (by omega), mv_getD (l := ss) (by rw [h.len]; exact hp) (by rw [h.len]; omega), h.len, hsg, hf, hs] at he
    exact he.cells.1.2.2.2
  have HP : Hid _ := hpost
  have HM : Hid (Calls Yba.prog 19 #[ptr ⟨K, 1, none⟩, ptr ⟨f, 0, none⟩] w fun e w' => e = .returned (.tuple #[]) ∧ Ring w' K (.map (some M)) size (mv p es) (mv p ss) ∧ Fr w w' (K :: es) ∧ w'.heap.size = w.heap.size) := hmv
  clear h hM hm hmv hpost hf hs hp
  go_enter Yba.func6, Yba.ntmps6
  go_wp2_with fail
  refine Calls.mono HM.out ?_
  rintro e w' ⟨rfl, hr, hfr, hsz⟩
  have d3 := HP.out w' hr
  have ha35 := assert35
  have HR : Hid (Ring w' K (.map (some M)) size (mv p es) (mv p ss) ∧ Fr w w' (K :: es) ∧ w'.heap.size = w.heap.size) := ⟨hr, hfr, hsz⟩
  clear hr hfr hsz
  go_wp2_with fail
  go_ret
  exact ⟨rfl, HR.out⟩

set_option maxHeartbeats 1000000 in
theorem find_out {w : World} {K M n : Nat} {size len : Int} {nx pv : Value} {mp : List (List UInt8 × Nat)} {t : ByteArray} (h : KB w K (.map (some M)) nx pv len size) (hM : MapIs w M n mp) (ht : t.size ≤ maxLen) (hm : ∀ b, (t.data.toList, b) ∉ mp) :
    Calls Yba.prog 6 #[ptr ⟨K, 0, none⟩, .string t] w fun e w' => e = .returned (.pointer none) ∧ w' = w := by
  have hlook := hM.look_out ht hm
  obtain ⟨⟨c0, c1, c2, c5, c6⟩, f0, f1, f2, f5, f6⟩ := h.cells
  clear h hM hm
  go_enter Yba.func6, Yba.ntmps6
  go_wp2_with fail
  go_ret
  exact ⟨rfl, rfl⟩

set_option maxHeartbeats 1000000 in
theorem find_nil {w : World} {K : Nat} {size len : Int} {nx pv : Value} {t : ByteArray} (h : KB w K (.map none) nx pv len size) (ht : t.size ≤ maxLen) :
    Calls Yba.prog 6 #[ptr ⟨K, 0, none⟩, .string t] w fun e w' => e = .returned (.pointer none) ∧ w' = w := by
  have hlook : (Instr.lookup 24 (.map none) (.string t) true).run Yba.prog w = .ok (.tuple #[.pointer none, .bool false]) w := by
    have := Maps.look_nil true keyed Yba.underlying24 (zero25 w) (Go.WideMaps.keyOf_string_mk Yba.underlying9 ht)
    simpa using this
  obtain ⟨⟨c0, c1, c2, c5, c6⟩, f0, f1, f2, f5, f6⟩ := h.cells
  clear h
  go_enter Yba.func6, Yba.ntmps6
  go_wp2_with fail
  go_ret
  exact ⟨rfl, rfl⟩

end Go.Proofs.Ybulkciry
