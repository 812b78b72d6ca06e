/-
  THE SHELF's CONTRACT OF strconv.Itoa AT THIS DUMP, IN PLAIN WORDS (written for this program by the kit's lay-shelf.mjs and lay-plain.mjs; the other layings struck).
-/
import Derived.Shelf.LaysM
import Derived.Shelf.Strconv.Itoa3
import Derived.Test.YbulkciryDoorRows
namespace Go.Proofs
/-- The name of the table of powers of ten, off the given row's own list. -/
def Ybad.powName : String := YbulkciryDoor.Rows.lawS4236CExactRow.named.getD 1 ""
open Go.Shelf
def Ybad.laysM171_ren : Go.Shelf.Ren := ⟨fun | 171 => 6 | 243 => 8 | 246 => 9 | 283 => 10 | 284 => 11 | 285 => 12 | 286 => 13 | 129 => 15 | 317 => 14 | 318 => 16 | 319 => 17 | 320 => 18 | 337 => 19 | 338 => 20 | n => n, fun | 3 => 3 | 9 => 9 | 2 => 2 | 4 => 4 | 171 => 28 | 0 => 0 | 53 => 27 | 37 => 29 | 5 => 5 | 173 => 33 | 212 => 37 | 51 => 38 | 20 => 20 | 213 => 39 | 46 => 40 | 232 => 43 | 233 => 44 | n => n, fun | 17 => 1 | 18 => 2 | 19 => 3 | n => n⟩
theorem Ybad.laysM171 : Go.Proofs.LaysM.n171 Ybad.prog Ybad.laysM171_ren := {
  mixed := by kernel_rfl
  f129 := Ybad.func15.trans (congrArg some (by kernel_rfl))
  f171 := Ybad.func6.trans (congrArg some (by kernel_rfl))
  f243 := Ybad.func8.trans (congrArg some (by kernel_rfl))
  f246 := Ybad.func9.trans (congrArg some (by kernel_rfl))
  f283 := Ybad.func10.trans (congrArg some (by kernel_rfl))
  f284 := Ybad.func11.trans (congrArg some (by kernel_rfl))
  f285 := Ybad.func12.trans (congrArg some (by kernel_rfl))
  f286 := Ybad.func13.trans (congrArg some (by kernel_rfl))
  f317 := Ybad.func14.trans (congrArg some (by kernel_rfl))
  f318 := Ybad.func16.trans (congrArg some (by kernel_rfl))
  f319 := Ybad.func17.trans (congrArg some (by kernel_rfl))
  f320 := Ybad.func18.trans (congrArg some (by kernel_rfl))
  f337 := Ybad.func19.trans (congrArg some (by kernel_rfl))
  f338 := Ybad.func20.trans (congrArg some (by kernel_rfl))
  t0 := Ybad.underlying0
  a0 := Ybad.isAgg0
  z0 := Ybad.sizeOf0
  v0 := Ybad.zeroValue0
  t2 := Ybad.underlying2
  a2 := Ybad.isAgg2
  z2 := Ybad.sizeOf2
  v2 := Ybad.zeroValue2
  t3 := Ybad.underlying3
  a3 := Ybad.isAgg3
  z3 := Ybad.sizeOf3
  v3 := Ybad.zeroValue3
  t4 := Ybad.underlying4
  a4 := Ybad.isAgg4
  z4 := Ybad.sizeOf4
  v4 := Ybad.zeroValue4
  t5 := Ybad.underlying5
  a5 := Ybad.isAgg5
  z5 := Ybad.sizeOf5
  v5 := Ybad.zeroValue5
  t9 := Ybad.underlying9
  a9 := Ybad.isAgg9
  z9 := Ybad.sizeOf9
  v9 := Ybad.zeroValue9
  t20 := Ybad.underlying20
  a20 := Ybad.isAgg20
  z20 := Ybad.sizeOf20
  v20 := Ybad.zeroValue20
  t37 := Ybad.underlying29
  a37 := Ybad.isAgg29
  z37 := Ybad.sizeOf29
  v37 := Ybad.zeroValue29
  t46 := Ybad.underlying40
  a46 := Ybad.isAgg40
  z46 := Ybad.sizeOf40
  v46 := Ybad.zeroValue40
  t51 := Ybad.underlying38
  a51 := Ybad.isAgg38
  z51 := Ybad.sizeOf38
  v51 := Ybad.zeroValue38
  t53 := Ybad.underlying27
  a53 := Ybad.isAgg27
  z53 := Ybad.sizeOf27
  v53 := Ybad.zeroValue27
  t171 := Ybad.underlying28
  a171 := Ybad.isAgg28
  z171 := Ybad.sizeOf28
  v171 := Ybad.zeroValue28
  t173 := Ybad.underlying33
  a173 := Ybad.isAgg33
  z173 := Ybad.sizeOf33
  v173 := Ybad.zeroValue33
  t212 := Ybad.underlying37
  a212 := Ybad.isAgg37
  z212 := Ybad.sizeOf37
  v212 := Ybad.zeroValue37
  t213 := Ybad.underlying39
  a213 := Ybad.isAgg39
  z213 := Ybad.sizeOf39
  t232 := Ybad.underlying43
  a232 := Ybad.isAgg43
  z232 := Ybad.sizeOf43
  v232 := Ybad.zeroValue43
  t233 := Ybad.underlying44
  a233 := Ybad.isAgg44
  z233 := Ybad.sizeOf44
  v233 := Ybad.zeroValue44
  g17 := by kernel_rfl
  g18 := by kernel_rfl
  g19 := by kernel_rfl
  i0 := by kernel_rfl
  i2 := by kernel_rfl
  i3 := by kernel_rfl
  i4 := by kernel_rfl
  i5 := by kernel_rfl
  i9 := by kernel_rfl
  i20 := by kernel_rfl
  i37 := by kernel_rfl
  i46 := by kernel_rfl
  i51 := by kernel_rfl
  i53 := by kernel_rfl
  i171 := by kernel_rfl
  i173 := by kernel_rfl
  i212 := by kernel_rfl
  i232 := by kernel_rfl
  i233 := by kernel_rfl
  m17 := by kernel_rfl
  m18 := by kernel_rfl
  m19 := by kernel_rfl }
open Go.RowKit Go.Sort Go.Lib in
/-- strconv.Itoa: "Itoa is equivalent to FormatInt(int64(i), 10).": i's DECIMAL NUMERAL ('Lib.itoa': a '-' where i is negative, then the digits), FOR EVERY int. The world behind the call: the world before it, new blocks behind the heap (the library's 'var a [24]byte'), draws. (LAID: no walk: one application.) -/
theorem Ybad.strconv_Itoa (n : Int) (h0 : -9223372036854775808 ≤ n) (h1 : n ≤ 9223372036854775807) (w : World) (htab : Lib.TabIs Ybad.prog w Ybad.powName .u64 Lib.pow10Tab) :
    Calls Ybad.prog 6 #[.int .i64 n] w fun e w' => e = .returned (.string ⟨(Lib.itoa n).toArray⟩) ∧ ∃ k os, w' = grow (w.drewN k) os := Any.strconv_Itoa Ybad.laysM171 n h0 h1 w htab
end Go.Proofs
