import Derived.Shelf.LaysM
import Derived.Shelf.Strconv.Itoa3
import Derived.Test.Qxb6629213aDoorRows
namespace Go.Proofs
open Go.Shelf
/-- The table's name, as the given row spells it. -/
abbrev Qxb6629213aDoor.tabName : String := Qxb6629213aDoor.Rows.fnUnsettledInsertShardRow.named.headD ""
def Tryd.laysM171_ren : Go.Shelf.Ren := ⟨fun | 171 => 21 | 243 => 23 | 246 => 24 | 283 => 25 | 284 => 26 | 285 => 27 | 286 => 28 | 129 => 30 | 317 => 29 | 318 => 31 | 319 => 32 | 320 => 33 | 337 => 34 | 338 => 35 | n => n, fun | 3 => 3 | 9 => 9 | 2 => 2 | 4 => 4 | 171 => 62 | 0 => 0 | 53 => 24 | 37 => 63 | 5 => 5 | 173 => 67 | 212 => 71 | 51 => 72 | 20 => 20 | 213 => 73 | 46 => 75 | 232 => 78 | 233 => 79 | n => n, fun | 17 => 0 | 18 => 1 | 19 => 2 | n => n⟩
theorem Tryd.laysM171 : Go.Proofs.LaysM.n171 Tryd.prog Tryd.laysM171_ren := {
  mixed := by kernel_rfl
  f129 := Tryd.func30.trans (congrArg some (by kernel_rfl))
  f171 := Tryd.func21.trans (congrArg some (by kernel_rfl))
  f243 := Tryd.func23.trans (congrArg some (by kernel_rfl))
  f246 := Tryd.func24.trans (congrArg some (by kernel_rfl))
  f283 := Tryd.func25.trans (congrArg some (by kernel_rfl))
  f284 := Tryd.func26.trans (congrArg some (by kernel_rfl))
  f285 := Tryd.func27.trans (congrArg some (by kernel_rfl))
  f286 := Tryd.func28.trans (congrArg some (by kernel_rfl))
  f317 := Tryd.func29.trans (congrArg some (by kernel_rfl))
  f318 := Tryd.func31.trans (congrArg some (by kernel_rfl))
  f319 := Tryd.func32.trans (congrArg some (by kernel_rfl))
  f320 := Tryd.func33.trans (congrArg some (by kernel_rfl))
  f337 := Tryd.func34.trans (congrArg some (by kernel_rfl))
  f338 := Tryd.func35.trans (congrArg some (by kernel_rfl))
  t0 := Tryd.underlying0
  a0 := Tryd.isAgg0
  z0 := Tryd.sizeOf0
  v0 := Tryd.zeroValue0
  t2 := Tryd.underlying2
  a2 := Tryd.isAgg2
  z2 := Tryd.sizeOf2
  v2 := Tryd.zeroValue2
  t3 := Tryd.underlying3
  a3 := Tryd.isAgg3
  z3 := Tryd.sizeOf3
  v3 := Tryd.zeroValue3
  t4 := Tryd.underlying4
  a4 := Tryd.isAgg4
  z4 := Tryd.sizeOf4
  v4 := Tryd.zeroValue4
  t5 := Tryd.underlying5
  a5 := Tryd.isAgg5
  z5 := Tryd.sizeOf5
  v5 := Tryd.zeroValue5
  t9 := Tryd.underlying9
  a9 := Tryd.isAgg9
  z9 := Tryd.sizeOf9
  v9 := Tryd.zeroValue9
  t20 := Tryd.underlying20
  a20 := Tryd.isAgg20
  z20 := Tryd.sizeOf20
  v20 := Tryd.zeroValue20
  t37 := Tryd.underlying63
  a37 := Tryd.isAgg63
  z37 := Tryd.sizeOf63
  v37 := Tryd.zeroValue63
  t46 := Tryd.underlying75
  a46 := Tryd.isAgg75
  z46 := Tryd.sizeOf75
  v46 := Tryd.zeroValue75
  t51 := Tryd.underlying72
  a51 := Tryd.isAgg72
  z51 := Tryd.sizeOf72
  v51 := Tryd.zeroValue72
  t53 := Tryd.underlying24
  a53 := Tryd.isAgg24
  z53 := Tryd.sizeOf24
  v53 := Tryd.zeroValue24
  t171 := Tryd.underlying62
  a171 := Tryd.isAgg62
  z171 := Tryd.sizeOf62
  v171 := Tryd.zeroValue62
  t173 := Tryd.underlying67
  a173 := Tryd.isAgg67
  z173 := Tryd.sizeOf67
  v173 := Tryd.zeroValue67
  t212 := Tryd.underlying71
  a212 := Tryd.isAgg71
  z212 := Tryd.sizeOf71
  v212 := Tryd.zeroValue71
  t213 := Tryd.underlying73
  a213 := Tryd.isAgg73
  z213 := Tryd.sizeOf73
  t232 := Tryd.underlying78
  a232 := Tryd.isAgg78
  z232 := Tryd.sizeOf78
  v232 := Tryd.zeroValue78
  t233 := Tryd.underlying79
  a233 := Tryd.isAgg79
  z233 := Tryd.sizeOf79
  v233 := Tryd.zeroValue79
  g17 := by kernel_rfl
  g18 := by kernel_rfl
  g19 := by kernel_rfl
  i0 := by kernel_rfl
  i2 := by kernel_rfl
  i3 := by kernel_rfl
  i4 := by kernel_rfl
  i5 := by kernel_rfl
  i9 := by kernel_rfl
  i20 := by kernel_rfl
  i37 := by kernel_rfl
  i46 := by kernel_rfl
  i51 := by kernel_rfl
  i53 := by kernel_rfl
  i171 := by kernel_rfl
  i173 := by kernel_rfl
  i212 := by kernel_rfl
  i232 := by kernel_rfl
  i233 := by kernel_rfl
  m17 := by kernel_rfl
  m18 := by kernel_rfl
  m19 := by kernel_rfl }
open Go.RowKit Go.Sort Go.Lib in
/-- strconv.Itoa: "Itoa is equivalent to FormatInt(int64(i), 10).": i's DECIMAL NUMERAL ('Lib.itoa': a '-' where i is negative, then the digits), FOR EVERY int. The world behind the call: the world before it, new blocks behind the heap (the library's 'var a [24]byte'), draws. (LAID: no walk: one application.) -/
theorem Tryd.strconv_Itoa (n : Int) (h0 : -9223372036854775808 ≤ n) (h1 : n ≤ 9223372036854775807) (w : World) (htab : Lib.TabIs Tryd.prog w Qxb6629213aDoor.tabName .u64 Lib.pow10Tab) :
    Calls Tryd.prog 21 #[.int .i64 n] w fun e w' => e = .returned (.string ⟨(Lib.itoa n).toArray⟩) ∧ ∃ k os, w' = grow (w.drewN k) os := Any.strconv_Itoa Tryd.laysM171 n h0 h1 w htab
end Go.Proofs
