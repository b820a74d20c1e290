/-
The library's contracts at this program, laid in plain words.
-/
import Derived.Shelf.Strconv.Itoa0
import Derived.Shelf.Strconv.Itoa1
import Derived.Shelf.LaysM
import Derived.Shelf.Strconv.Itoa2
import Derived.Shelf.Strconv.Itoa3
import Derived.Shelf.Strconv.Itoa4
import Derived.Shelf.Strconv.ParseIntEmpty
import Derived.Shelf.Strconv.Clone
import Derived.Shelf.Strconv.SyntaxError
import Derived.Shelf.Strconv.Lower
import Derived.Shelf.Strconv.ParseUint10
import Derived.Shelf.Strconv.ParseUint10Empty
import Derived.Shelf.Strconv.RangeError
import Derived.Shelf.Strconv.ParseUintEmpty
import Derived.Shelf.Strconv.ParseUint10b64
import Derived.Shelf.Strconv.ParseUint10b32
import Derived.Shelf.Strconv.ParseUint10b16
import Derived.Shelf.Strconv.ParseUint10b8
import Derived.Shelf.Bits.Mul64
import Derived.Test.YtbjoipclkapcjaaGreatDoorProg
namespace Go.Proofs
open Go.Shelf
def Tryz.laysM173_ren : Go.Shelf.Ren := ⟨fun | 173 => 8 | 246 => 13 | 283 => 19 | 284 => 20 | 285 => 21 | 286 => 22 | 129 => 27 | 317 => 26 | 318 => 28 | 319 => 29 | 320 => 30 | 337 => 34 | 338 => 35 | n => n, fun | 2 => 2 | 3 => 3 | 9 => 9 | 4 => 4 | 171 => 44 | 0 => 0 | 53 => 45 | 37 => 48 | 5 => 5 | 173 => 49 | 212 => 53 | 51 => 54 | 20 => 20 | 213 => 55 | 46 => 57 | 232 => 74 | 233 => 75 | n => n, fun | 17 => 0 | 18 => 1 | 19 => 2 | n => n⟩
theorem Tryz.laysM173 : Go.Proofs.LaysM.n173 Tryz.prog Tryz.laysM173_ren := {
  mixed := by kernel_rfl
  f129 := Tryz.func27.trans (congrArg some (by kernel_rfl))
  f173 := Tryz.func8.trans (congrArg some (by kernel_rfl))
  f246 := Tryz.func13.trans (congrArg some (by kernel_rfl))
  f283 := Tryz.func19.trans (congrArg some (by kernel_rfl))
  f284 := Tryz.func20.trans (congrArg some (by kernel_rfl))
  f285 := Tryz.func21.trans (congrArg some (by kernel_rfl))
  f286 := Tryz.func22.trans (congrArg some (by kernel_rfl))
  f317 := Tryz.func26.trans (congrArg some (by kernel_rfl))
  f318 := Tryz.func28.trans (congrArg some (by kernel_rfl))
  f319 := Tryz.func29.trans (congrArg some (by kernel_rfl))
  f320 := Tryz.func30.trans (congrArg some (by kernel_rfl))
  f337 := Tryz.func34.trans (congrArg some (by kernel_rfl))
  f338 := Tryz.func35.trans (congrArg some (by kernel_rfl))
  t0 := Tryz.underlying0
  a0 := Tryz.isAgg0
  z0 := Tryz.sizeOf0
  v0 := Tryz.zeroValue0
  t2 := Tryz.underlying2
  a2 := Tryz.isAgg2
  z2 := Tryz.sizeOf2
  v2 := Tryz.zeroValue2
  t3 := Tryz.underlying3
  a3 := Tryz.isAgg3
  z3 := Tryz.sizeOf3
  v3 := Tryz.zeroValue3
  t4 := Tryz.underlying4
  a4 := Tryz.isAgg4
  z4 := Tryz.sizeOf4
  v4 := Tryz.zeroValue4
  t5 := Tryz.underlying5
  a5 := Tryz.isAgg5
  z5 := Tryz.sizeOf5
  v5 := Tryz.zeroValue5
  t9 := Tryz.underlying9
  a9 := Tryz.isAgg9
  z9 := Tryz.sizeOf9
  v9 := Tryz.zeroValue9
  t20 := Tryz.underlying20
  a20 := Tryz.isAgg20
  z20 := Tryz.sizeOf20
  v20 := Tryz.zeroValue20
  t37 := Tryz.underlying48
  a37 := Tryz.isAgg48
  z37 := Tryz.sizeOf48
  v37 := Tryz.zeroValue48
  t46 := Tryz.underlying57
  a46 := Tryz.isAgg57
  z46 := Tryz.sizeOf57
  v46 := Tryz.zeroValue57
  t51 := Tryz.underlying54
  a51 := Tryz.isAgg54
  z51 := Tryz.sizeOf54
  v51 := Tryz.zeroValue54
  t53 := Tryz.underlying45
  a53 := Tryz.isAgg45
  z53 := Tryz.sizeOf45
  v53 := Tryz.zeroValue45
  t171 := Tryz.underlying44
  a171 := Tryz.isAgg44
  z171 := Tryz.sizeOf44
  v171 := Tryz.zeroValue44
  t173 := Tryz.underlying49
  a173 := Tryz.isAgg49
  z173 := Tryz.sizeOf49
  v173 := Tryz.zeroValue49
  t212 := Tryz.underlying53
  a212 := Tryz.isAgg53
  z212 := Tryz.sizeOf53
  v212 := Tryz.zeroValue53
  t213 := Tryz.underlying55
  a213 := Tryz.isAgg55
  z213 := Tryz.sizeOf55
  t232 := Tryz.underlying74
  a232 := Tryz.isAgg74
  z232 := Tryz.sizeOf74
  v232 := Tryz.zeroValue74
  t233 := Tryz.underlying75
  a233 := Tryz.isAgg75
  z233 := Tryz.sizeOf75
  v233 := Tryz.zeroValue75
  g17 := by kernel_rfl
  g18 := by kernel_rfl
  g19 := by kernel_rfl
  i0 := by kernel_rfl
  i2 := by kernel_rfl
  i3 := by kernel_rfl
  i4 := by kernel_rfl
  i5 := by kernel_rfl
  i9 := by kernel_rfl
  i20 := by kernel_rfl
  i37 := by kernel_rfl
  i46 := by kernel_rfl
  i51 := by kernel_rfl
  i53 := by kernel_rfl
  i171 := by kernel_rfl
  i173 := by kernel_rfl
  i212 := by kernel_rfl
  i232 := by kernel_rfl
  i233 := by kernel_rfl
  m17 := by kernel_rfl
  m18 := by kernel_rfl
  m19 := by kernel_rfl }
open Go.RowKit Go.Sort Go.Lib in
theorem Tryz.strconv_FormatInt_10 (n : Int) (h0 : -9223372036854775808 ≤ n) (h1 : n ≤ 9223372036854775807) (w : World) (htab : Lib.TabIs Tryz.prog w "internal/strconv.uint64pow10" .u64 Lib.pow10Tab) :
    Calls Tryz.prog 8 #[.int .i64 n, .int .i64 10] w fun e w' => e = .returned (.string ⟨(Lib.itoa n).toArray⟩) ∧ ∃ k os, w' = grow (w.drewN k) os := Any.strconv_FormatInt_10 Tryz.laysM173 n h0 h1 w htab
end Go.Proofs
