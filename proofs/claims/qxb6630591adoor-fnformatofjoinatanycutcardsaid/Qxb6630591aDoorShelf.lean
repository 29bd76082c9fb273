import Derived.Shelf.LaysM
import Derived.Shelf.Strings.Builder1
import Derived.Shelf.Strconv.Itoa3
import Derived.Test.Qxb6630591aDoorRows
namespace Go.Proofs
open Go.Shelf
/-- The table's name, as the given row spells it. -/
abbrev Qxb6630591aDoor.tabName : String := Qxb6630591aDoor.Rows.fnFormatMatchesRunStartEndModelRow.named.headD ""
def Tryd.lays170_ren : Go.Shelf.Ren := ⟨fun | 170 => 12 | n => n, fun | 70 => 30 | 3 => 3 | 0 => 0 | 72 => 32 | 37 => 26 | 5 => 5 | n => n, fun | n => n⟩
theorem Tryd.lays170 : Go.Proofs.Lays.n170 Tryd.prog Tryd.lays170_ren := {
  mixed := by kernel_rfl
  f170 := Tryd.func12.trans (congrArg some (by kernel_rfl))
  t0 := Tryd.underlying0
  a0 := Tryd.isAgg0
  z0 := Tryd.sizeOf0
  v0 := Tryd.zeroValue0
  t3 := Tryd.underlying3
  a3 := Tryd.isAgg3
  z3 := Tryd.sizeOf3
  v3 := Tryd.zeroValue3
  t37 := Tryd.underlying26
  a37 := Tryd.isAgg26
  z37 := Tryd.sizeOf26
  v37 := Tryd.zeroValue26
  t70 := Tryd.underlying30
  a70 := Tryd.isAgg30
  z70 := Tryd.sizeOf30
  v70 := Tryd.zeroValue30
  t72 := Tryd.underlying32
  a72 := Tryd.isAgg32
  z72 := Tryd.sizeOf32
  v72 := Tryd.zeroValue32 }
open Go.RowKit in
/-- (*strings.Builder).Len: "Len returns the number of accumulated bytes; b.Len() == len(b.String()).": the world is as it was. (LAID: no walk: one application.) -/
theorem Tryd.Builder_Len (B b : Nat) (bs : List Value) (w : World) (h : Lib.IsBuilder 32 5 B b bs w) :
    Calls Tryd.prog 12 #[.pointer (some ⟨b, 0, none⟩)] w fun e w' => e = .returned (.int .i64 bs.length) ∧ w' = w := Any.Builder_Len Tryd.lays170 B b bs w h
def Tryd.lays169_ren : Go.Shelf.Ren := ⟨fun | 169 => 16 | n => n, fun | 70 => 30 | 9 => 9 | 0 => 0 | 72 => 32 | 37 => 26 | 127 => 43 | 3 => 3 | 5 => 5 | n => n, fun | n => n⟩
theorem Tryd.lays169 : Go.Proofs.Lays.n169 Tryd.prog Tryd.lays169_ren := {
  mixed := by kernel_rfl
  f169 := Tryd.func16.trans (congrArg some (by kernel_rfl))
  t0 := Tryd.underlying0
  a0 := Tryd.isAgg0
  z0 := Tryd.sizeOf0
  v0 := Tryd.zeroValue0
  t3 := Tryd.underlying3
  a3 := Tryd.isAgg3
  z3 := Tryd.sizeOf3
  v3 := Tryd.zeroValue3
  t9 := Tryd.underlying9
  a9 := Tryd.isAgg9
  z9 := Tryd.sizeOf9
  v9 := Tryd.zeroValue9
  t37 := Tryd.underlying26
  a37 := Tryd.isAgg26
  z37 := Tryd.sizeOf26
  v37 := Tryd.zeroValue26
  t70 := Tryd.underlying30
  a70 := Tryd.isAgg30
  z70 := Tryd.sizeOf30
  v70 := Tryd.zeroValue30
  t72 := Tryd.underlying32
  a72 := Tryd.isAgg32
  z72 := Tryd.sizeOf32
  v72 := Tryd.zeroValue32
  t127 := Tryd.underlying43
  a127 := Tryd.isAgg43
  z127 := Tryd.sizeOf43
  v127 := Tryd.zeroValue43 }
theorem Tryd.Builder_Extra_169 : Builder.Extra Tryd.prog Tryd.lays169_ren := {
  sizeBuilder := by kernel_rfl
  liesBuilder := by kernel_rfl
  t5 := Tryd.underlying5
  a5 := Tryd.isAgg5
  z5 := Tryd.sizeOf5
  v5 := Tryd.zeroValue5
  infoByte := by kernel_rfl
  cellsByte := by kernel_rfl
  sizeByte := by kernel_rfl
  neB5 := by decide }
open Go.RowKit in
/-- (*strings.Builder).String: "String returns the accumulated string.": WHATEVER THE BUILDER HOLDS. (LAID: no walk: one application.) -/
theorem Tryd.Builder_String_any (B b : Nat) (l : List UInt8) (w : World) (h : Lib.IsBuilder 32 5 B b (Lib.byteCells l) w) (hBw : B ≤ w.heap.size) :
    Calls Tryd.prog 16 #[.pointer (some ⟨b, 0, none⟩)] w fun e w' => e = .returned (.string ⟨l.toArray⟩) ∧ Below B w w' := Any.Builder_String_any Tryd.lays169 Tryd.Builder_Extra_169 B b l w h hBw
def Tryd.laysM171_ren : Go.Shelf.Ren := ⟨fun | 171 => 15 | 243 => 18 | 246 => 20 | 283 => 21 | 284 => 22 | 285 => 23 | 286 => 24 | 129 => 26 | 317 => 25 | 318 => 27 | 319 => 28 | 320 => 29 | 337 => 30 | 338 => 31 | n => n, fun | 3 => 3 | 9 => 9 | 2 => 2 | 4 => 4 | 171 => 47 | 0 => 0 | 53 => 41 | 37 => 26 | 5 => 5 | 173 => 50 | 212 => 54 | 51 => 55 | 20 => 20 | 213 => 56 | 46 => 58 | 232 => 61 | 233 => 62 | n => n, fun | 17 => 0 | 18 => 1 | 19 => 2 | n => n⟩
theorem Tryd.laysM171 : Go.Proofs.LaysM.n171 Tryd.prog Tryd.laysM171_ren := {
  mixed := by kernel_rfl
  f129 := Tryd.func26.trans (congrArg some (by kernel_rfl))
  f171 := Tryd.func15.trans (congrArg some (by kernel_rfl))
  f243 := Tryd.func18.trans (congrArg some (by kernel_rfl))
  f246 := Tryd.func20.trans (congrArg some (by kernel_rfl))
  f283 := Tryd.func21.trans (congrArg some (by kernel_rfl))
  f284 := Tryd.func22.trans (congrArg some (by kernel_rfl))
  f285 := Tryd.func23.trans (congrArg some (by kernel_rfl))
  f286 := Tryd.func24.trans (congrArg some (by kernel_rfl))
  f317 := Tryd.func25.trans (congrArg some (by kernel_rfl))
  f318 := Tryd.func27.trans (congrArg some (by kernel_rfl))
  f319 := Tryd.func28.trans (congrArg some (by kernel_rfl))
  f320 := Tryd.func29.trans (congrArg some (by kernel_rfl))
  f337 := Tryd.func30.trans (congrArg some (by kernel_rfl))
  f338 := Tryd.func31.trans (congrArg some (by kernel_rfl))
  t0 := Tryd.underlying0
  a0 := Tryd.isAgg0
  z0 := Tryd.sizeOf0
  v0 := Tryd.zeroValue0
  t2 := Tryd.underlying2
  a2 := Tryd.isAgg2
  z2 := Tryd.sizeOf2
  v2 := Tryd.zeroValue2
  t3 := Tryd.underlying3
  a3 := Tryd.isAgg3
  z3 := Tryd.sizeOf3
  v3 := Tryd.zeroValue3
  t4 := Tryd.underlying4
  a4 := Tryd.isAgg4
  z4 := Tryd.sizeOf4
  v4 := Tryd.zeroValue4
  t5 := Tryd.underlying5
  a5 := Tryd.isAgg5
  z5 := Tryd.sizeOf5
  v5 := Tryd.zeroValue5
  t9 := Tryd.underlying9
  a9 := Tryd.isAgg9
  z9 := Tryd.sizeOf9
  v9 := Tryd.zeroValue9
  t20 := Tryd.underlying20
  a20 := Tryd.isAgg20
  z20 := Tryd.sizeOf20
  v20 := Tryd.zeroValue20
  t37 := Tryd.underlying26
  a37 := Tryd.isAgg26
  z37 := Tryd.sizeOf26
  v37 := Tryd.zeroValue26
  t46 := Tryd.underlying58
  a46 := Tryd.isAgg58
  z46 := Tryd.sizeOf58
  v46 := Tryd.zeroValue58
  t51 := Tryd.underlying55
  a51 := Tryd.isAgg55
  z51 := Tryd.sizeOf55
  v51 := Tryd.zeroValue55
  t53 := Tryd.underlying41
  a53 := Tryd.isAgg41
  z53 := Tryd.sizeOf41
  v53 := Tryd.zeroValue41
  t171 := Tryd.underlying47
  a171 := Tryd.isAgg47
  z171 := Tryd.sizeOf47
  v171 := Tryd.zeroValue47
  t173 := Tryd.underlying50
  a173 := Tryd.isAgg50
  z173 := Tryd.sizeOf50
  v173 := Tryd.zeroValue50
  t212 := Tryd.underlying54
  a212 := Tryd.isAgg54
  z212 := Tryd.sizeOf54
  v212 := Tryd.zeroValue54
  t213 := Tryd.underlying56
  a213 := Tryd.isAgg56
  z213 := Tryd.sizeOf56
  t232 := Tryd.underlying61
  a232 := Tryd.isAgg61
  z232 := Tryd.sizeOf61
  v232 := Tryd.zeroValue61
  t233 := Tryd.underlying62
  a233 := Tryd.isAgg62
  z233 := Tryd.sizeOf62
  v233 := Tryd.zeroValue62
  g17 := by kernel_rfl
  g18 := by kernel_rfl
  g19 := by kernel_rfl
  i0 := by kernel_rfl
  i2 := by kernel_rfl
  i3 := by kernel_rfl
  i4 := by kernel_rfl
  i5 := by kernel_rfl
  i9 := by kernel_rfl
  i20 := by kernel_rfl
  i37 := by kernel_rfl
  i46 := by kernel_rfl
  i51 := by kernel_rfl
  i53 := by kernel_rfl
  i171 := by kernel_rfl
  i173 := by kernel_rfl
  i212 := by kernel_rfl
  i232 := by kernel_rfl
  i233 := by kernel_rfl
  m17 := by kernel_rfl
  m18 := by kernel_rfl
  m19 := by kernel_rfl }
open Go.RowKit Go.Sort Go.Lib in
/-- strconv.Itoa: "Itoa is equivalent to FormatInt(int64(i), 10).": i's DECIMAL NUMERAL ('Lib.itoa': a '-' where i is negative, then the digits), FOR EVERY int. The world behind the call: the world before it, new blocks behind the heap (the library's 'var a [24]byte'), draws. (LAID: no walk: one application.) -/
theorem Tryd.strconv_Itoa (n : Int) (h0 : -9223372036854775808 ≤ n) (h1 : n ≤ 9223372036854775807) (w : World) (htab : Lib.TabIs Tryd.prog w Qxb6630591aDoor.tabName .u64 Lib.pow10Tab) :
    Calls Tryd.prog 15 #[.int .i64 n] w fun e w' => e = .returned (.string ⟨(Lib.itoa n).toArray⟩) ∧ ∃ k os, w' = grow (w.drewN k) os := Any.strconv_Itoa Tryd.laysM171 n h0 h1 w htab
end Go.Proofs
