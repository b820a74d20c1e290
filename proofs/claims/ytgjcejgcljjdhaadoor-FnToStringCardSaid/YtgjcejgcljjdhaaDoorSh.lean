/-
The library's contracts at this program, laid in plain words.
-/
import Derived.Shelf.Small.Bits
import Derived.Shelf.Small.Wraps
import Derived.Shelf.Strconv.Itoa0
import Derived.Shelf.Strconv.Itoa1
import Derived.Shelf.LaysM
import Derived.Shelf.Strconv.Itoa2
import Derived.Shelf.Strconv.Itoa3
import Derived.Shelf.Strconv.Itoa4
import Derived.Shelf.Strconv.ParseIntEmpty
import Derived.Shelf.Strconv.Clone
import Derived.Shelf.Strconv.SyntaxError
import Derived.Shelf.LaysC
import Derived.Shelf.Strconv.ToError
import Derived.Shelf.Strconv.Lower
import Derived.Shelf.Strconv.ParseUint10
import Derived.Shelf.Strconv.ParseUint10Empty
import Derived.Shelf.Strconv.ParseUint10Any
import Derived.Shelf.Strconv.ParseInt10
import Derived.Shelf.Strconv.RangeError
import Derived.Shelf.Strconv.ToErrorRange
import Derived.Shelf.Strconv.ParseUintEmpty
import Derived.Shelf.Strconv.ParseUint10b64
import Derived.Shelf.Strconv.ParseUint10b32
import Derived.Shelf.Strconv.ParseUint10b16
import Derived.Shelf.Strconv.ParseUint10b8
import Derived.Shelf.Strconv.ParseUint10At
import Derived.Shelf.Strconv.ParseInt10At64
import Derived.Shelf.Strconv.ParseInt10At32
import Derived.Shelf.Strconv.ParseInt10At16
import Derived.Shelf.Strconv.ParseInt10At8
import Derived.Shelf.Strconv.ParseInt10All
import Derived.Shelf.Strconv.ParseIntPublic10
import Derived.Shelf.Sort.Plain
import Derived.Shelf.Bits.Mul64
import Derived.Shelf.Slices.In.SortNone
import Derived.Shelf.Slices.In.SortNone2
import Derived.Test.YtgjcejgcljjdhaaDoorProg
namespace Go.Proofs
open Go.Shelf
def Tryd.lays121_ren : Go.Shelf.Ren := ⟨fun | 121 => 53 | 214 => 66 | n => n, fun | 4 => 4 | 9 => 9 | n => n, fun | n => n⟩
theorem Tryd.lays121 : Go.Proofs.Lays.n121 Tryd.prog Tryd.lays121_ren := {
  mixed := by kernel_rfl
  f121 := Tryd.func53.trans (congrArg some (by kernel_rfl))
  f214 := Tryd.func66.trans (congrArg some (by kernel_rfl))
  t4 := Tryd.underlying4
  a4 := Tryd.isAgg4
  z4 := Tryd.sizeOf4
  v4 := Tryd.zeroValue4
  t9 := Tryd.underlying9
  a9 := Tryd.isAgg9
  z9 := Tryd.sizeOf9
  v9 := Tryd.zeroValue9 }
open Go.RowKit in
theorem Tryd.strconv_FormatBool (b : Bool) (w : World) :
    Calls Tryd.prog 53 #[.bool b] w fun e w' => e = .returned (.string ⟨(Lib.formatBool b).toArray⟩) ∧ w' = w := Any.strconv_FormatBool Tryd.lays121 b w
def Tryd.laysM171_ren : Go.Shelf.Ren := ⟨fun | 171 => 54 | 243 => 67 | 246 => 44 | 283 => 49 | 284 => 50 | 285 => 51 | 286 => 52 | 129 => 62 | 317 => 61 | 318 => 63 | 319 => 64 | 320 => 65 | 337 => 76 | 338 => 77 | n => n, fun | 3 => 3 | 9 => 9 | 2 => 2 | 4 => 4 | 171 => 62 | 0 => 0 | 53 => 63 | 37 => 60 | 5 => 5 | 173 => 66 | 212 => 82 | 51 => 83 | 20 => 20 | 213 => 84 | 46 => 86 | 232 => 109 | 233 => 110 | n => n, fun | 17 => 0 | 18 => 1 | 19 => 2 | n => n⟩
theorem Tryd.laysM171 : Go.Proofs.LaysM.n171 Tryd.prog Tryd.laysM171_ren := {
  mixed := by kernel_rfl
  f129 := Tryd.func62.trans (congrArg some (by kernel_rfl))
  f171 := Tryd.func54.trans (congrArg some (by kernel_rfl))
  f243 := Tryd.func67.trans (congrArg some (by kernel_rfl))
  f246 := Tryd.func44.trans (congrArg some (by kernel_rfl))
  f283 := Tryd.func49.trans (congrArg some (by kernel_rfl))
  f284 := Tryd.func50.trans (congrArg some (by kernel_rfl))
  f285 := Tryd.func51.trans (congrArg some (by kernel_rfl))
  f286 := Tryd.func52.trans (congrArg some (by kernel_rfl))
  f317 := Tryd.func61.trans (congrArg some (by kernel_rfl))
  f318 := Tryd.func63.trans (congrArg some (by kernel_rfl))
  f319 := Tryd.func64.trans (congrArg some (by kernel_rfl))
  f320 := Tryd.func65.trans (congrArg some (by kernel_rfl))
  f337 := Tryd.func76.trans (congrArg some (by kernel_rfl))
  f338 := Tryd.func77.trans (congrArg some (by kernel_rfl))
  t0 := Tryd.underlying0
  a0 := Tryd.isAgg0
  z0 := Tryd.sizeOf0
  v0 := Tryd.zeroValue0
  t2 := Tryd.underlying2
  a2 := Tryd.isAgg2
  z2 := Tryd.sizeOf2
  v2 := Tryd.zeroValue2
  t3 := Tryd.underlying3
  a3 := Tryd.isAgg3
  z3 := Tryd.sizeOf3
  v3 := Tryd.zeroValue3
  t4 := Tryd.underlying4
  a4 := Tryd.isAgg4
  z4 := Tryd.sizeOf4
  v4 := Tryd.zeroValue4
  t5 := Tryd.underlying5
  a5 := Tryd.isAgg5
  z5 := Tryd.sizeOf5
  v5 := Tryd.zeroValue5
  t9 := Tryd.underlying9
  a9 := Tryd.isAgg9
  z9 := Tryd.sizeOf9
  v9 := Tryd.zeroValue9
  t20 := Tryd.underlying20
  a20 := Tryd.isAgg20
  z20 := Tryd.sizeOf20
  v20 := Tryd.zeroValue20
  t37 := Tryd.underlying60
  a37 := Tryd.isAgg60
  z37 := Tryd.sizeOf60
  v37 := Tryd.zeroValue60
  t46 := Tryd.underlying86
  a46 := Tryd.isAgg86
  z46 := Tryd.sizeOf86
  v46 := Tryd.zeroValue86
  t51 := Tryd.underlying83
  a51 := Tryd.isAgg83
  z51 := Tryd.sizeOf83
  v51 := Tryd.zeroValue83
  t53 := Tryd.underlying63
  a53 := Tryd.isAgg63
  z53 := Tryd.sizeOf63
  v53 := Tryd.zeroValue63
  t171 := Tryd.underlying62
  a171 := Tryd.isAgg62
  z171 := Tryd.sizeOf62
  v171 := Tryd.zeroValue62
  t173 := Tryd.underlying66
  a173 := Tryd.isAgg66
  z173 := Tryd.sizeOf66
  v173 := Tryd.zeroValue66
  t212 := Tryd.underlying82
  a212 := Tryd.isAgg82
  z212 := Tryd.sizeOf82
  v212 := Tryd.zeroValue82
  t213 := Tryd.underlying84
  a213 := Tryd.isAgg84
  z213 := Tryd.sizeOf84
  t232 := Tryd.underlying109
  a232 := Tryd.isAgg109
  z232 := Tryd.sizeOf109
  v232 := Tryd.zeroValue109
  t233 := Tryd.underlying110
  a233 := Tryd.isAgg110
  z233 := Tryd.sizeOf110
  v233 := Tryd.zeroValue110
  g17 := by kernel_rfl
  g18 := by kernel_rfl
  g19 := by kernel_rfl
  i0 := by kernel_rfl
  i2 := by kernel_rfl
  i3 := by kernel_rfl
  i4 := by kernel_rfl
  i5 := by kernel_rfl
  i9 := by kernel_rfl
  i20 := by kernel_rfl
  i37 := by kernel_rfl
  i46 := by kernel_rfl
  i51 := by kernel_rfl
  i53 := by kernel_rfl
  i171 := by kernel_rfl
  i173 := by kernel_rfl
  i212 := by kernel_rfl
  i232 := by kernel_rfl
  i233 := by kernel_rfl
  m17 := by kernel_rfl
  m18 := by kernel_rfl
  m19 := by kernel_rfl }
open Go.RowKit Go.Sort Go.Lib in
theorem Tryd.strconv_Itoa (n : Int) (h0 : -9223372036854775808 ≤ n) (h1 : n ≤ 9223372036854775807) (w : World) (htab : Lib.TabIs Tryd.prog w "internal/strconv.uint64pow10" .u64 Lib.pow10Tab) :
    Calls Tryd.prog 54 #[.int .i64 n] w fun e w' => e = .returned (.string ⟨(Lib.itoa n).toArray⟩) ∧ ∃ k os, w' = grow (w.drewN k) os := Any.strconv_Itoa Tryd.laysM171 n h0 h1 w htab
def Tryd.laysM173_ren : Go.Shelf.Ren := ⟨fun | 173 => 32 | 246 => 44 | 283 => 49 | 284 => 50 | 285 => 51 | 286 => 52 | 129 => 62 | 317 => 61 | 318 => 63 | 319 => 64 | 320 => 65 | 337 => 76 | 338 => 77 | n => n, fun | 2 => 2 | 3 => 3 | 9 => 9 | 4 => 4 | 171 => 62 | 0 => 0 | 53 => 63 | 37 => 60 | 5 => 5 | 173 => 66 | 212 => 82 | 51 => 83 | 20 => 20 | 213 => 84 | 46 => 86 | 232 => 109 | 233 => 110 | n => n, fun | 17 => 0 | 18 => 1 | 19 => 2 | n => n⟩
theorem Tryd.laysM173 : Go.Proofs.LaysM.n173 Tryd.prog Tryd.laysM173_ren := {
  mixed := by kernel_rfl
  f129 := Tryd.func62.trans (congrArg some (by kernel_rfl))
  f173 := Tryd.func32.trans (congrArg some (by kernel_rfl))
  f246 := Tryd.func44.trans (congrArg some (by kernel_rfl))
  f283 := Tryd.func49.trans (congrArg some (by kernel_rfl))
  f284 := Tryd.func50.trans (congrArg some (by kernel_rfl))
  f285 := Tryd.func51.trans (congrArg some (by kernel_rfl))
  f286 := Tryd.func52.trans (congrArg some (by kernel_rfl))
  f317 := Tryd.func61.trans (congrArg some (by kernel_rfl))
  f318 := Tryd.func63.trans (congrArg some (by kernel_rfl))
  f319 := Tryd.func64.trans (congrArg some (by kernel_rfl))
  f320 := Tryd.func65.trans (congrArg some (by kernel_rfl))
  f337 := Tryd.func76.trans (congrArg some (by kernel_rfl))
  f338 := Tryd.func77.trans (congrArg some (by kernel_rfl))
  t0 := Tryd.underlying0
  a0 := Tryd.isAgg0
  z0 := Tryd.sizeOf0
  v0 := Tryd.zeroValue0
  t2 := Tryd.underlying2
  a2 := Tryd.isAgg2
  z2 := Tryd.sizeOf2
  v2 := Tryd.zeroValue2
  t3 := Tryd.underlying3
  a3 := Tryd.isAgg3
  z3 := Tryd.sizeOf3
  v3 := Tryd.zeroValue3
  t4 := Tryd.underlying4
  a4 := Tryd.isAgg4
  z4 := Tryd.sizeOf4
  v4 := Tryd.zeroValue4
  t5 := Tryd.underlying5
  a5 := Tryd.isAgg5
  z5 := Tryd.sizeOf5
  v5 := Tryd.zeroValue5
  t9 := Tryd.underlying9
  a9 := Tryd.isAgg9
  z9 := Tryd.sizeOf9
  v9 := Tryd.zeroValue9
  t20 := Tryd.underlying20
  a20 := Tryd.isAgg20
  z20 := Tryd.sizeOf20
  v20 := Tryd.zeroValue20
  t37 := Tryd.underlying60
  a37 := Tryd.isAgg60
  z37 := Tryd.sizeOf60
  v37 := Tryd.zeroValue60
  t46 := Tryd.underlying86
  a46 := Tryd.isAgg86
  z46 := Tryd.sizeOf86
  v46 := Tryd.zeroValue86
  t51 := Tryd.underlying83
  a51 := Tryd.isAgg83
  z51 := Tryd.sizeOf83
  v51 := Tryd.zeroValue83
  t53 := Tryd.underlying63
  a53 := Tryd.isAgg63
  z53 := Tryd.sizeOf63
  v53 := Tryd.zeroValue63
  t171 := Tryd.underlying62
  a171 := Tryd.isAgg62
  z171 := Tryd.sizeOf62
  v171 := Tryd.zeroValue62
  t173 := Tryd.underlying66
  a173 := Tryd.isAgg66
  z173 := Tryd.sizeOf66
  v173 := Tryd.zeroValue66
  t212 := Tryd.underlying82
  a212 := Tryd.isAgg82
  z212 := Tryd.sizeOf82
  v212 := Tryd.zeroValue82
  t213 := Tryd.underlying84
  a213 := Tryd.isAgg84
  z213 := Tryd.sizeOf84
  t232 := Tryd.underlying109
  a232 := Tryd.isAgg109
  z232 := Tryd.sizeOf109
  v232 := Tryd.zeroValue109
  t233 := Tryd.underlying110
  a233 := Tryd.isAgg110
  z233 := Tryd.sizeOf110
  v233 := Tryd.zeroValue110
  g17 := by kernel_rfl
  g18 := by kernel_rfl
  g19 := by kernel_rfl
  i0 := by kernel_rfl
  i2 := by kernel_rfl
  i3 := by kernel_rfl
  i4 := by kernel_rfl
  i5 := by kernel_rfl
  i9 := by kernel_rfl
  i20 := by kernel_rfl
  i37 := by kernel_rfl
  i46 := by kernel_rfl
  i51 := by kernel_rfl
  i53 := by kernel_rfl
  i171 := by kernel_rfl
  i173 := by kernel_rfl
  i212 := by kernel_rfl
  i232 := by kernel_rfl
  i233 := by kernel_rfl
  m17 := by kernel_rfl
  m18 := by kernel_rfl
  m19 := by kernel_rfl }
open Go.RowKit Go.Sort Go.Lib in
theorem Tryd.strconv_FormatInt_10 (n : Int) (h0 : -9223372036854775808 ≤ n) (h1 : n ≤ 9223372036854775807) (w : World) (htab : Lib.TabIs Tryd.prog w "internal/strconv.uint64pow10" .u64 Lib.pow10Tab) :
    Calls Tryd.prog 32 #[.int .i64 n, .int .i64 10] w fun e w' => e = .returned (.string ⟨(Lib.itoa n).toArray⟩) ∧ ∃ k os, w' = grow (w.drewN k) os := Any.strconv_FormatInt_10 Tryd.laysM173 n h0 h1 w htab
end Go.Proofs
