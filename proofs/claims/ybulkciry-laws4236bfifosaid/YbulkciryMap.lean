/-
  map[string]*list.Element ON THE ROAD OF 'engine.LawS4236BFifo', as a plain list of pairs.
-/
import Derived.Test.YbulkciryMove
import Derived.Maps.OwnSet
import Derived.StringKeys
namespace Go.Proofs.Ybulkciry
open Go.RowKit Go.Maps Go.WideMaps Go.ChangeMaps
set_option maxRecDepth 100000

/-- How an element's pointer reads. -/
def rdP : Value → Option (DataW Unit × List MemPlace)
  | .pointer none => some (.nil, [])
  | .pointer (some a) => if a.off = 0 ∧ a.spot = none then some (.lit (.int .i64 a.block), []) else none
  | _ => none
theorem rdP_mk (b : Nat) : rdP (.pointer (some ⟨b, 0, none⟩)) = some (.lit (.int .i64 b), []) := by simp [rdP]
theorem rdP_inv {v : Value} {b : Nat} {ps : List MemPlace} (h : rdP v = some (.lit (.int .i64 b), ps)) : v = .pointer (some ⟨b, 0, none⟩) := by
  unfold rdP at h
  split at h
  · simp at h
  · rename_i a
    split at h
    · rename_i ha
      obtain ⟨b', o, sp⟩ := a
      simp at h ha
      obtain ⟨rfl, rfl⟩ := ha
      have : b' = b := by have := h.1; omega
      rw [this]
    · simp at h
  · simp at h
theorem keyed : Keyed Yba.prog 9 := string_keyed Yba.underlying9

/-- Block M is a map that holds these pairs. -/
def MapIs (w : World) (M n : Nat) (mp : List (List UInt8 × Nat)) : Prop :=
  ∃ D : DataW Unit, w.ownsMap Yba.prog 9 rdP M n D ∧ size D = mp.length ∧ (∀ t b, (t, b) ∈ mp → has D (.string t) = true ∧ D.atKey (.string t) .nil = .lit (.int .i64 b)) ∧ (∀ t, (∀ b, (t, b) ∉ mp) → has D (.string t) = false)

theorem zero25 (w : World) : (zeroValue 25).run Yba.prog w = .ok (.pointer none) w := by kernel_rfl
theorem rdP_nil {v : Value} {ps : List MemPlace} (h : rdP v = some (.nil, ps)) : v = .pointer none := by
  unfold rdP at h
  split at h
  · rfl
  · split at h <;> simp at h
  · simp at h

theorem lit_ne {a b : List UInt8} (h : ¬ a = b) : (Lit.string a) ≠ .string b := fun e => h (by simpa using e)

theorem MapIs.store {w : World} {M n : Nat} {mp : List (List UInt8 × Nat)} (h : MapIs w M n mp) (hn : n < maxLen) {t : ByteArray} (ht : t.size ≤ maxLen) (hnew : ∀ b, (t.data.toList, b) ∉ mp) (b : Nat) :
    ∃ w', (Instr.mapUpdate 24 (.map (some M)) (.string t) (.pointer (some ⟨b, 0, none⟩))).run Yba.prog w = .ok () w' ∧ MapIs w' M (n + 1) (mp ++ [(t.data.toList, b)]) ∧ w.mapTurned w' M := by
  obtain ⟨D, h1, h2, h3, h4⟩ := h
  obtain ⟨w', hrun, ho, htn⟩ := h1.store keyed Yba.underlying24 hn (keyOf_string_mk Yba.underlying9 ht) (rdP_mk b)
  refine ⟨w', hrun, ⟨_, ho, ?_, ?_, ?_⟩, htn⟩
  · rw [size_put (h1.tidy keyed), h4 _ hnew]
    simp [h2]
  · intro t' b' hm
    rcases List.mem_append.1 hm with hm | hm
    · have hne : (Lit.string t') ≠ .string t.data.toList := lit_ne (fun e => hnew b' (by rw [← e]; exact hm))
      rw [has_put_other hne, atKey_put_other hne]
      exact h3 t' b' hm
    · obtain ⟨rfl, rfl⟩ : t' = t.data.toList ∧ b' = b := by simpa using hm
      exact ⟨has_put_same h1.isMap (show WideAt.IsKeyLit (.string t.data.toList) from trivial) _, atKey_put_same h1.isMap (show WideAt.IsKeyLit (.string t.data.toList) from trivial) _ _⟩
  · intro t' hno
    have hne : (Lit.string t') ≠ .string t.data.toList := lit_ne (fun e => hno b (by rw [e]; simp))
    rw [has_put_other hne]
    exact h4 t' (fun b' hm => hno b' (List.mem_append_left _ hm))

theorem MapIs.drop {w : World} {M n b : Nat} {t : ByteArray} {mp : List (List UInt8 × Nat)} (h : MapIs w M n ((t.data.toList, b) :: mp)) (ht : t.size ≤ maxLen) (hnew : ∀ b, (t.data.toList, b) ∉ mp) (ty : TypeId) :
    ∃ w', (Builtin.delete_ #[24, 9] ty #[.map (some M), .string t]).run Yba.prog w = .ok (.tuple #[]) w' ∧ MapIs w' M n mp ∧ w.mapTurned w' M := by
  obtain ⟨D, h1, h2, h3, h4⟩ := h
  obtain ⟨w', hrun, ho, htn⟩ := h1.drop keyed Yba.underlying24 (keyOf_string_mk Yba.underlying9 ht) ty
  refine ⟨w', hrun, ⟨_, ho, ?_, ?_, ?_⟩, htn⟩
  · have := size_del (k := .string t.data.toList) (h1.tidy keyed)
    rw [(h3 _ b (by simp)).1] at this
    simp [h2] at this
    omega
  · intro t' b' hm
    have hne : (Lit.string t') ≠ .string t.data.toList := lit_ne (fun e => hnew b' (by rw [← e]; exact hm))
    rw [has_del_other hne, atKey_del_other hne]
    exact h3 t' b' (List.mem_cons_of_mem _ hm)
  · intro t' hno
    by_cases e : t' = t.data.toList
    · subst e; exact has_del_same
    · have hne : (Lit.string t') ≠ .string t.data.toList := fun e' => e (by simpa using e')
      rw [has_del_other hne]
      refine h4 t' (fun b' hm => ?_)
      rcases List.mem_cons.1 hm with hm | hm
      · simp at hm; exact e hm.1
      · exact hno b' hm

theorem MapIs.look_in {w : World} {M n b : Nat} {t : ByteArray} {mp : List (List UInt8 × Nat)} (h : MapIs w M n mp) (ht : t.size ≤ maxLen) (hm : (t.data.toList, b) ∈ mp) :
    (Instr.lookup 24 (.map (some M)) (.string t) true).run Yba.prog w = .ok (.tuple #[.pointer (some ⟨b, 0, none⟩), .bool true]) w := by
  obtain ⟨D, h1, h2, h3, h4⟩ := h
  obtain ⟨v, ps, hrun, hv⟩ := h1.look_ok keyed Yba.underlying24 (zero25 w) (show rdP (.pointer none) = some (.nil, []) from rfl) (keyOf_string_mk Yba.underlying9 ht)
  rw [(h3 _ b hm).2] at hv
  rw [hrun, rdP_inv hv, (h3 _ b hm).1]
theorem MapIs.look_out {w : World} {M n : Nat} {t : ByteArray} {mp : List (List UInt8 × Nat)} (h : MapIs w M n mp) (ht : t.size ≤ maxLen) (hm : ∀ b, (t.data.toList, b) ∉ mp) :
    (Instr.lookup 24 (.map (some M)) (.string t) true).run Yba.prog w = .ok (.tuple #[.pointer none, .bool false]) w := by
  obtain ⟨D, h1, h2, h3, h4⟩ := h
  obtain ⟨v, ps, hrun, hv⟩ := h1.look_ok keyed Yba.underlying24 (zero25 w) (show rdP (.pointer none) = some (.nil, []) from rfl) (keyOf_string_mk Yba.underlying9 ht)
  rw [atKey_of_not_has (h4 _ hm)] at hv
  rw [hrun, rdP_nil hv, h4 _ hm]
theorem MapIs.len {w : World} {M n : Nat} {mp : List (List UInt8 × Nat)} (h : MapIs w M n mp) (ty : TypeId) : (Builtin.len_ #[24] ty #[.map (some M)]).run Yba.prog w = .ok (.int .i64 mp.length) w := by
  obtain ⟨D, h1, h2, h3, h4⟩ := h
  rw [h1.len Yba.underlying24, h2]

end Go.Proofs.Ybulkciry
