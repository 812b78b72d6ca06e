/-
  THE SHELF's CONTRACT OF strings.Repeat AT THIS DUMP, IN PLAIN WORDS (written for this program by the kit's lay-shelf.mjs and lay-plain.mjs; the other layings struck).
-/
import Derived.Shelf.Strings.Repeat
import Derived.Test.YbulkciryRows
namespace Go.Proofs
open Go.Shelf
def Yba.lays105_ren : Go.Shelf.Ren := ⟨fun | 105 => 13 | 212 => 20 | 99 => 21 | 165 => 22 | 166 => 23 | 170 => 24 | 169 => 25 | 263 => 30 | 264 => 31 | 206 => 32 | 240 => 33 | 241 => 34 | 276 => 36 | 277 => 37 | n => n, fun | 9 => 9 | 3 => 3 | 4 => 4 | 20 => 20 | 0 => 0 | 46 => 59 | 109 => 60 | 5 => 5 | 72 => 66 | 76 => 70 | 51 => 77 | 146 => 78 | 53 => 80 | 148 => 81 | 70 => 63 | 37 => 64 | 75 => 69 | 127 => 83 | 164 => 84 | 80 => 72 | n => n, fun | n => n⟩
theorem Yba.lays105 : Go.Proofs.Lays.n105 Yba.prog Yba.lays105_ren := {
  mixed := by kernel_rfl
  f99 := Yba.func21.trans (congrArg some (by kernel_rfl))
  f105 := Yba.func13.trans (congrArg some (by kernel_rfl))
  f165 := Yba.func22.trans (congrArg some (by kernel_rfl))
  f166 := Yba.func23.trans (congrArg some (by kernel_rfl))
  f169 := Yba.func25.trans (congrArg some (by kernel_rfl))
  f170 := Yba.func24.trans (congrArg some (by kernel_rfl))
  f206 := Yba.func32.trans (congrArg some (by kernel_rfl))
  f212 := Yba.func20.trans (congrArg some (by kernel_rfl))
  f240 := Yba.func33.trans (congrArg some (by kernel_rfl))
  f241 := Yba.func34.trans (congrArg some (by kernel_rfl))
  f263 := Yba.func30.trans (congrArg some (by kernel_rfl))
  f264 := Yba.func31.trans (congrArg some (by kernel_rfl))
  f276 := Yba.func36.trans (congrArg some (by kernel_rfl))
  f277 := Yba.func37.trans (congrArg some (by kernel_rfl))
  t0 := Yba.underlying0
  a0 := Yba.isAgg0
  z0 := Yba.sizeOf0
  v0 := Yba.zeroValue0
  t3 := Yba.underlying3
  a3 := Yba.isAgg3
  z3 := Yba.sizeOf3
  v3 := Yba.zeroValue3
  t4 := Yba.underlying4
  a4 := Yba.isAgg4
  z4 := Yba.sizeOf4
  v4 := Yba.zeroValue4
  t5 := Yba.underlying5
  a5 := Yba.isAgg5
  z5 := Yba.sizeOf5
  v5 := Yba.zeroValue5
  t9 := Yba.underlying9
  a9 := Yba.isAgg9
  z9 := Yba.sizeOf9
  v9 := Yba.zeroValue9
  t20 := Yba.underlying20
  a20 := Yba.isAgg20
  z20 := Yba.sizeOf20
  v20 := Yba.zeroValue20
  t37 := Yba.underlying64
  a37 := Yba.isAgg64
  z37 := Yba.sizeOf64
  v37 := Yba.zeroValue64
  t46 := Yba.underlying59
  a46 := Yba.isAgg59
  z46 := Yba.sizeOf59
  v46 := Yba.zeroValue59
  t51 := Yba.underlying77
  a51 := Yba.isAgg77
  z51 := Yba.sizeOf77
  v51 := Yba.zeroValue77
  t53 := Yba.underlying80
  a53 := Yba.isAgg80
  z53 := Yba.sizeOf80
  v53 := Yba.zeroValue80
  t70 := Yba.underlying63
  a70 := Yba.isAgg63
  z70 := Yba.sizeOf63
  v70 := Yba.zeroValue63
  t72 := Yba.underlying66
  a72 := Yba.isAgg66
  z72 := Yba.sizeOf66
  v72 := Yba.zeroValue66
  t75 := Yba.underlying69
  a75 := Yba.isAgg69
  z75 := Yba.sizeOf69
  v75 := Yba.zeroValue69
  t76 := Yba.underlying70
  a76 := Yba.isAgg70
  z76 := Yba.sizeOf70
  v76 := Yba.zeroValue70
  t109 := Yba.underlying60
  a109 := Yba.isAgg60
  z109 := Yba.sizeOf60
  v109 := Yba.zeroValue60
  t127 := Yba.underlying83
  a127 := Yba.isAgg83
  z127 := Yba.sizeOf83
  v127 := Yba.zeroValue83
  t146 := Yba.underlying78
  a146 := Yba.isAgg78
  z146 := Yba.sizeOf78
  v146 := Yba.zeroValue78
  t148 := Yba.underlying81
  a148 := Yba.isAgg81
  z148 := Yba.sizeOf81
  v148 := Yba.zeroValue81
  t164 := Yba.underlying84
  a164 := Yba.isAgg84
  z164 := Yba.sizeOf84
  v164 := Yba.zeroValue84 }
theorem Yba.Builder_Extra_105 : Builder.Extra Yba.prog Yba.lays105_ren := {
  sizeBuilder := by kernel_rfl
  liesBuilder := by kernel_rfl
  t5 := Yba.underlying5
  a5 := Yba.isAgg5
  z5 := Yba.sizeOf5
  v5 := Yba.zeroValue5
  infoByte := by kernel_rfl
  cellsByte := by kernel_rfl
  sizeByte := by kernel_rfl
  neB5 := by decide }
open Go.RowKit Go.Lib in
/-- THE MAIN CASE: at least two copies of a string that is not empty. (LAID: no walk: one application.) -/
theorem Yba.strings_Repeat (s : ByteArray) (c : Nat) (w : World) (hc : c ≤ 9223372036854775807) (hlen : s.size * c ≤ 140737488355328) :
    Calls Yba.prog 13 #[.string s, .int .i64 c] w fun e w' => e = .returned (.string ⟨(Lib.repeatL s.data.toList c).toArray⟩) ∧ Below w.heap.size w w' := Any.strings_Repeat Yba.lays105 Yba.Builder_Extra_105 s c w hc hlen
end Go.Proofs
