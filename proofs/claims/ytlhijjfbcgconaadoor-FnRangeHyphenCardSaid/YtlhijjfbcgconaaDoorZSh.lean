/-
The library's contracts at this program, laid in plain words.
-/
import Derived.Shelf.Strconv.Itoa0
import Derived.Shelf.Strconv.Itoa1
import Derived.Shelf.LaysM
import Derived.Shelf.Strconv.Itoa2
import Derived.Shelf.Strconv.Itoa3
import Derived.Ground.MpProg
import Derived.Shelf.Pu.ParseUintPublic10
import Derived.Shelf.Pu.ErrVarParseUint
import Derived.Shelf.Strings.Prefix
import Derived.Shelf.Unicode.Decode
import Derived.Shelf.Unicode.DecodeSlow
import Derived.Test.YtlhijjfbcgconaaDoorProg
namespace Go.Proofs
open Go.Shelf
def Tryd.laysPu14_ren : Go.Shelf.Ren := ⟨fun | 14 => 59 | 16 => 72 | 17 => 73 | 19 => 82 | 20 => 83 | 21 => 84 | 22 => 85 | 23 => 86 | 24 => 87 | 25 => 99 | 27 => 100 | 26 => 65 | 28 => 112 | 29 => 124 | 30 => 88 | 31 => 89 | 32 => 90 | 33 => 91 | 35 => 102 | 34 => 101 | 36 => 103 | 37 => 104 | 38 => 105 | 39 => 113 | 40 => 114 | n => n, fun | 9 => 9 | 3 => 3 | 22 => 22 | 24 => 55 | 25 => 80 | 4 => 4 | 34 => 100 | 5 => 5 | 36 => 102 | 37 => 83 | 0 => 0 | 39 => 103 | 21 => 21 | 44 => 129 | 47 => 145 | 50 => 98 | 48 => 96 | 2 => 2 | 52 => 107 | 55 => 110 | 59 => 131 | 60 => 132 | 20 => 20 | 61 => 133 | 65 => 148 | 66 => 149 | 67 => 59 | n => n, fun | 0 => 2 | 1 => 3 | 2 => 4 | 3 => 5 | 4 => 6 | n => n⟩
theorem Tryd.laysPu14 : Go.Proofs.LaysPu.n14 Tryd.prog Tryd.laysPu14_ren := {
  mixed := by kernel_rfl
  f14 := Tryd.func59.trans (congrArg some (by kernel_rfl))
  f16 := Tryd.func72.trans (congrArg some (by kernel_rfl))
  f17 := Tryd.func73.trans (congrArg some (by kernel_rfl))
  f19 := Tryd.func82.trans (congrArg some (by kernel_rfl))
  f20 := Tryd.func83.trans (congrArg some (by kernel_rfl))
  f21 := Tryd.func84.trans (congrArg some (by kernel_rfl))
  f22 := Tryd.func85.trans (congrArg some (by kernel_rfl))
  f23 := Tryd.func86.trans (congrArg some (by kernel_rfl))
  f24 := Tryd.func87.trans (congrArg some (by kernel_rfl))
  f25 := Tryd.func99.trans (congrArg some (by kernel_rfl))
  f26 := Tryd.func65.trans (congrArg some (by kernel_rfl))
  f27 := Tryd.func100.trans (congrArg some (by kernel_rfl))
  f28 := Tryd.func112.trans (congrArg some (by kernel_rfl))
  f29 := Tryd.func124.trans (congrArg some (by kernel_rfl))
  f30 := Tryd.func88.trans (congrArg some (by kernel_rfl))
  f31 := Tryd.func89.trans (congrArg some (by kernel_rfl))
  f32 := Tryd.func90.trans (congrArg some (by kernel_rfl))
  f33 := Tryd.func91.trans (congrArg some (by kernel_rfl))
  f34 := Tryd.func101.trans (congrArg some (by kernel_rfl))
  f35 := Tryd.func102.trans (congrArg some (by kernel_rfl))
  f36 := Tryd.func103.trans (congrArg some (by kernel_rfl))
  f37 := Tryd.func104.trans (congrArg some (by kernel_rfl))
  f38 := Tryd.func105.trans (congrArg some (by kernel_rfl))
  f39 := Tryd.func113.trans (congrArg some (by kernel_rfl))
  f40 := Tryd.func114.trans (congrArg some (by kernel_rfl))
  t0 := Tryd.underlying0
  a0 := Tryd.isAgg0
  z0 := Tryd.sizeOf0
  v0 := Tryd.zeroValue0
  i0 := by kernel_rfl
  t2 := Tryd.underlying2
  a2 := Tryd.isAgg2
  z2 := Tryd.sizeOf2
  v2 := Tryd.zeroValue2
  i2 := by kernel_rfl
  t3 := Tryd.underlying3
  a3 := Tryd.isAgg3
  z3 := Tryd.sizeOf3
  v3 := Tryd.zeroValue3
  i3 := by kernel_rfl
  t4 := Tryd.underlying4
  a4 := Tryd.isAgg4
  z4 := Tryd.sizeOf4
  v4 := Tryd.zeroValue4
  i4 := by kernel_rfl
  t5 := Tryd.underlying5
  a5 := Tryd.isAgg5
  z5 := Tryd.sizeOf5
  v5 := Tryd.zeroValue5
  i5 := by kernel_rfl
  t9 := Tryd.underlying9
  a9 := Tryd.isAgg9
  z9 := Tryd.sizeOf9
  v9 := Tryd.zeroValue9
  i9 := by kernel_rfl
  t20 := Tryd.underlying20
  a20 := Tryd.isAgg20
  z20 := Tryd.sizeOf20
  v20 := Tryd.zeroValue20
  i20 := by kernel_rfl
  t21 := Tryd.underlying21
  a21 := Tryd.isAgg21
  z21 := Tryd.sizeOf21
  v21 := Tryd.zeroValue21
  i21 := by kernel_rfl
  t22 := Tryd.underlying22
  a22 := Tryd.isAgg22
  z22 := Tryd.sizeOf22
  v22 := Tryd.zeroValue22
  i22 := by kernel_rfl
  t24 := Tryd.underlying55
  a24 := Tryd.isAgg55
  z24 := Tryd.sizeOf55
  v24 := Tryd.zeroValue55
  i24 := by kernel_rfl
  t25 := Tryd.underlying80
  a25 := Tryd.isAgg80
  z25 := Tryd.sizeOf80
  v25 := Tryd.zeroValue80
  i25 := by kernel_rfl
  t34 := Tryd.underlying100
  a34 := Tryd.isAgg100
  z34 := Tryd.sizeOf100
  v34 := Tryd.zeroValue100
  i34 := by kernel_rfl
  c34 := by kernel_rfl
  t36 := Tryd.underlying102
  a36 := Tryd.isAgg102
  z36 := Tryd.sizeOf102
  v36 := Tryd.zeroValue102
  i36 := by kernel_rfl
  t37 := Tryd.underlying83
  a37 := Tryd.isAgg83
  z37 := Tryd.sizeOf83
  v37 := Tryd.zeroValue83
  i37 := by kernel_rfl
  t39 := Tryd.underlying103
  a39 := Tryd.isAgg103
  z39 := Tryd.sizeOf103
  v39 := Tryd.zeroValue103
  i39 := by kernel_rfl
  t44 := Tryd.underlying129
  a44 := Tryd.isAgg129
  z44 := Tryd.sizeOf129
  v44 := Tryd.zeroValue129
  i44 := by kernel_rfl
  t47 := Tryd.underlying145
  a47 := Tryd.isAgg145
  z47 := Tryd.sizeOf145
  v47 := Tryd.zeroValue145
  i47 := by kernel_rfl
  t48 := Tryd.underlying96
  a48 := Tryd.isAgg96
  z48 := Tryd.sizeOf96
  v48 := Tryd.zeroValue96
  i48 := by kernel_rfl
  t50 := Tryd.underlying98
  a50 := Tryd.isAgg98
  z50 := Tryd.sizeOf98
  v50 := Tryd.zeroValue98
  i50 := by kernel_rfl
  t52 := Tryd.underlying107
  a52 := Tryd.isAgg107
  z52 := Tryd.sizeOf107
  v52 := Tryd.zeroValue107
  i52 := by kernel_rfl
  t55 := Tryd.underlying110
  a55 := Tryd.isAgg110
  z55 := Tryd.sizeOf110
  v55 := Tryd.zeroValue110
  i55 := by kernel_rfl
  t59 := Tryd.underlying131
  a59 := Tryd.isAgg131
  z59 := Tryd.sizeOf131
  v59 := Tryd.zeroValue131
  i59 := by kernel_rfl
  t60 := Tryd.underlying132
  a60 := Tryd.isAgg132
  z60 := Tryd.sizeOf132
  v60 := Tryd.zeroValue132
  i60 := by kernel_rfl
  t61 := Tryd.underlying133
  a61 := Tryd.isAgg133
  z61 := Tryd.sizeOf133
  t65 := Tryd.underlying148
  a65 := Tryd.isAgg148
  z65 := Tryd.sizeOf148
  v65 := Tryd.zeroValue148
  i65 := by kernel_rfl
  t66 := Tryd.underlying149
  a66 := Tryd.isAgg149
  z66 := Tryd.sizeOf149
  v66 := Tryd.zeroValue149
  i66 := by kernel_rfl
  t67 := Tryd.underlying59
  a67 := Tryd.isAgg59
  z67 := Tryd.sizeOf59
  v67 := Tryd.zeroValue59
  i67 := by kernel_rfl
  g0 := by kernel_rfl
  m0 := by kernel_rfl
  g1 := by kernel_rfl
  m1 := by kernel_rfl
  g2 := by kernel_rfl
  m2 := by kernel_rfl
  g3 := by kernel_rfl
  m3 := by kernel_rfl
  g4 := by kernel_rfl
  m4 := by kernel_rfl }
open Go.RowKit in
theorem Tryd.strconv_ParseUint_10_at64_ok (s : ByteArray) (hmax : s.size ≤ 9223372036854775806) (u : Nat) (h : Lib.parseUintB 64 s.data.toList = .ok u) (w : World) :
    Calls Tryd.prog 59 #[.string s, .int .i64 10, .int .i64 64] w fun e w' => e = .returned (.tuple #[.int .u64 u, .nilIface]) ∧ (w' = w ∨ w' = Lib.bytesWorld w 5 s) := Any.strconv_ParseUint_10_at64_ok Tryd.laysPu14 s hmax u h w
def Tryd.lays101_ren : Go.Shelf.Ren := ⟨fun | 101 => 66 | 208 => 79 | 206 => 98 | n => n, fun | 9 => 9 | 4 => 4 | 3 => 3 | n => n, fun | n => n⟩
theorem Tryd.lays101 : Go.Proofs.Lays.n101 Tryd.prog Tryd.lays101_ren := {
  mixed := by kernel_rfl
  f101 := Tryd.func66.trans (congrArg some (by kernel_rfl))
  f206 := Tryd.func98.trans (congrArg some (by kernel_rfl))
  f208 := Tryd.func79.trans (congrArg some (by kernel_rfl))
  t3 := Tryd.underlying3
  a3 := Tryd.isAgg3
  z3 := Tryd.sizeOf3
  v3 := Tryd.zeroValue3
  t4 := Tryd.underlying4
  a4 := Tryd.isAgg4
  z4 := Tryd.sizeOf4
  v4 := Tryd.zeroValue4
  t9 := Tryd.underlying9
  a9 := Tryd.isAgg9
  z9 := Tryd.sizeOf9
  v9 := Tryd.zeroValue9 }
open Go.RowKit Go.Lib in
theorem Tryd.strings_TrimPrefix (s p : ByteArray) (w : World) :
    Calls Tryd.prog 66 #[.string s, .string p] w fun e w' => e = .returned (.string ⟨(Lib.trimPrefix s.data.toList p.data.toList).toArray⟩) ∧ w' = w := Any.strings_TrimPrefix Tryd.lays101 s p w
end Go.Proofs

