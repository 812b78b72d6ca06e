/-
  'Reader.useBlock', 'Reader.iface' OF THE LAW 'capture.LawS4247ABlock', BY THEIR CONTRACTS.
-/
import Derived.Test.YbulkcixwFmtGets
import Derived.Test.YbulkcixwFmtPut
import Derived.Stop.CallBack
import Derived.Stop.IfaceNil
import Derived.Stop.Told
import GoSem.ClaimData
import Derived.Deep.RegionWith
namespace Go.Proofs.YbulkcixwFmt
open Go.RowKit Go.Extern.Stop Go.Stop Go.Extern

def rd16 (le : Bool) (bs : List Int) (i : Nat) : Int := if le then g16 (bs.getD i 0) (bs.getD (i + 1) 0) else g16 (bs.getD (i + 1) 0) (bs.getD i 0)
def rd32 (le : Bool) (bs : List Int) (i : Nat) : Int :=
  if le then g32 (bs.getD i 0) (bs.getD (i + 1) 0) (bs.getD (i + 2) 0) (bs.getD (i + 3) 0) else g32 (bs.getD (i + 3) 0) (bs.getD (i + 2) 0) (bs.getD (i + 1) 0) (bs.getD i 0)

/-- The cells of a row of interfaces. -/
def flat (fs : List (Int × Int)) : List Value := fs.flatMap fun p => [.int .u16 p.1, .int .u32 p.2]

/-- The reader's block. -/
def Rd (w : World) (R : Nat) (le : Bool) (V : Value) : Prop :=
  w.heap[R]? = some (.cells #[.pointer none, .iface (if le then 36 else 33) (.agg #[]), .slice none 0 0, .nilFunc, .int .u16 0, V] 41 (0, 0))

/-- A block's body: its bytes, in a row that lies there. -/
def BodyIs (w : World) (v : Value) (bs : List Int) : Prop :=
  (∀ x ∈ bs, 0 ≤ x ∧ x ≤ 255) ∧ ((v = .slice none 0 0 ∧ bs = []) ∨ ∃ g cap, v = .slice (some ⟨g, 0, none⟩) bs.length cap ∧ bs.length ≤ cap ∧ cap ≤ maxLen ∧ g < w.heap.size ∧ ∀ j, j < bs.length → w.cell? ⟨g, j, none⟩ = some (.int .u8 (bs.getD j 0)))

theorem call11 (args : Array Value) (w : World) : (callFunc 11 args).run Ybaf.prog w = ((FmtStop.errorf #[9, 63] #[48] args).run Ybaf.prog w).andThen fun v w' => .ok (.value v) w' :=
  run_callFunc_extern Ybaf.func11 (by kernel_rfl) (by kernel_rfl) (by kernel_rfl) (by kernel_rfl) args w
theorem fguard (name : String) (w : World) : (FmtStop.guard name).run Ybaf.prog w = .ok () w := by kernel_rfl

def shape22 : List UInt8 := FmtStop.intCode .u32 :: FmtStop.pack "uint32".toUTF8.data.toList
theorem op22w (name : String) (x : Int) (w : World) : (FmtStop.operand name true 100 false (.iface 22 (.int .u32 x))).run Ybaf.prog w = .ok (shape22, Go.Extern.Stop.digits 8 (x % 2 ^ 64).toNat) w := by kernel_rfl
theorem ptr60 (w : World) : (FmtStop.ptrTo "errors.errorString").run Ybaf.prog w = .ok 60 w := by kernel_rfl
theorem elem60 (w : World) : (elemOf 60).run Ybaf.prog w = .ok 62 w := by kernel_rfl

set_option maxHeartbeats 1000000 in
/-- fmt.Errorf with one uint32: a new error, whatever its text. -/
theorem errorf_any (F : Interp) (f : ByteArray) (hp : ∀ w, (FmtDoors.printed f 1).run Ybaf.prog w = .ok [(0, 100, false)] w) (b : Nat) (x : Int) (w : World) (hF : F.answers w.tape)
    (hc : w.cell? ⟨b, 0, none⟩ = some (.iface 22 (.int .u32 x))) :
    Calls Ybaf.prog 10 #[.string f, .slice (some ⟨b, 0, none⟩) 1 1] w fun e w' => ∃ t y, e = .returned (.iface t y) ∧ Below w.heap.size w w' := by
  have hF' := answers_open hF
  have f1 := call11
  have f2 := fguard
  have f3 := op22w
  have f4 := ptr60
  have f5 := elem60
  go_enter Ybaf.func10, Ybaf.ntmps10
  go_wp2
  go_ret
  exact ⟨_, _, rfl, by go_grown⟩

/-- Behind a 'Below': old cells and marks read as before. -/
theorem bcell {B : Nat} {W w1 : World} (hb : Below B W w1) : (∀ b o, b < B → w1.cell? ⟨b, o, none⟩ = W.cell? ⟨b, o, none⟩) ∧ (∀ b o, b < B → w1.frozen? ⟨b, o, none⟩ = W.frozen? ⟨b, o, none⟩) :=
  ⟨fun b o h => hb.cell (p := ⟨b, o, none⟩) h, fun b o h => hb.frozen (p := ⟨b, o, none⟩) h⟩

set_option maxHeartbeats 1000000 in
theorem iface_bad (F : Interp) (R : Nat) (le : Bool) (a : Option Addr) (n c : Nat) (id : Int) (w : World) (hF : F.answers w.tape) (hR : Rd w R le (.slice a n c)) (hn : n ≤ 1024) (hid : (n : Int) ≤ id ∧ id ≤ 4294967295) :
    Calls Ybaf.prog 9 #[.pointer (some ⟨R, 0, none⟩), .int .u32 id] w fun e w' => ∃ t x, e = .returned (.tuple #[.agg #[.int .u16 0, .int .u32 0], .iface t x]) ∧ Below w.heap.size w w' := by
  have hlt : R < w.heap.size := (Array.getElem?_eq_some_iff.1 hR).1
  have hc := cell_of_row w R 5 _ _ _ hR
  simp at hc
  have hF' := answers_open hF
  have hlt1 : R < w.heap.size + 1 := by omega
  have hlt2 : R < w.heap.size + 1 + 1 := by omega
  clear hR
  go_enter Ybaf.func9, Ybaf.ntmps9
  go_wp2_with fail
  refine (errorf_any F _ (fun _ => by kernel_rfl) (w.heap.size + 1) id _ (by exact hF) (by simp [go_sem])).mono ?_
  rintro e w1 ⟨t, y, rfl, hb⟩
  obtain ⟨hc1, hf1⟩ := bcell hb
  have hz : w.heap.size < w1.heap.size := by have := hb.size; simp at this; omega
  have hq0 := hc1 w.heap.size 0 (by simp; omega)
  have hq1 := hc1 w.heap.size 1 (by simp; omega)
  have hp0 := hf1 w.heap.size 0 (by simp; omega)
  have hp1 := hf1 w.heap.size 1 (by simp; omega)
  simp at hq0 hq1 hp0 hp1
  clear hc1 hf1
  go_wp2
  refine bodyPost_ret (v := .tuple #[.agg #[.int .u16 0, .int .u32 0], .iface t y]) (by simp [results, Ybaf.results9, go_sem, hq0, hq1]) rfl ⟨t, y, rfl, ?_⟩
  exact (((((Below.refl _ w).alloc (Nat.le_refl _) _).alloc (by simp) _).trans (hb.mono (by simp; omega))).setCell (Nat.le_refl _) _).setCell (Nat.le_refl _) _

set_option maxHeartbeats 1000000 in
theorem iface_ok (R : Nat) (le : Bool) (g n c k : Nat) (x y : Int) (w : World) (hR : Rd w R le (.slice (some ⟨g, 0, none⟩) n c)) (hn : n ≤ 1024) (hk : k < n) (hg : g < w.heap.size)
    (h0 : w.cell? ⟨g, k * 2, none⟩ = some (.int .u16 x)) (h1 : w.cell? ⟨g, k * 2 + 1, none⟩ = some (.int .u32 y)) :
    Calls Ybaf.prog 9 #[.pointer (some ⟨R, 0, none⟩), .int .u32 (k : Int)] w fun e w' => e = .returned (.tuple #[.agg #[.int .u16 x, .int .u32 y], .nilIface]) ∧ Below w.heap.size w w' := by
  have hlt : R < w.heap.size := (Array.getElem?_eq_some_iff.1 hR).1
  have hc := cell_of_row w R 5 _ _ _ hR
  simp at hc
  have hlt1 : R < w.heap.size + 1 := by omega
  have hg1 : g < w.heap.size + 1 := by omega
  clear hR
  go_enter Ybaf.func9, Ybaf.ntmps9
  go_wp2
  exact bodyPost_ret (v := .tuple #[.agg #[.int .u16 x, .int .u32 y], .nilIface]) (by simp [results, Ybaf.results9, go_sem]) rfl ⟨rfl, (Below.refl _ w).alloc (Nat.le_refl _) _⟩

end Go.Proofs.YbulkcixwFmt
