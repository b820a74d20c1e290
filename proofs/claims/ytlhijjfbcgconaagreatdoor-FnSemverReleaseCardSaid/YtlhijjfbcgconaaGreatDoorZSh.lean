/-
The library's contracts at this program, laid in plain words.
-/
import Derived.Shelf.Strconv.Itoa0
import Derived.Shelf.Strconv.Itoa1
import Derived.Shelf.LaysM
import Derived.Shelf.Strconv.Itoa2
import Derived.Shelf.Strconv.Itoa3
import Derived.Ground.MpProg
import Derived.Shelf.Pu.ParseUintPublic10
import Derived.Shelf.Pu.ErrVarParseUint
import Derived.Shelf.Strings.Prefix
import Derived.Shelf.Unicode.Decode
import Derived.Shelf.Unicode.DecodeSlow
import Derived.Shelf.Unicode.DecodeAny
import Derived.Test.YtlhijjfbcgconaaGreatDoorProg
namespace Go.Proofs
open Go.Shelf
def Tryz.laysPu14_ren : Go.Shelf.Ren := ⟨fun | 14 => 39 | 16 => 51 | 17 => 52 | 19 => 65 | 20 => 66 | 21 => 67 | 22 => 68 | 23 => 69 | 24 => 70 | 25 => 80 | 27 => 81 | 26 => 25 | 28 => 84 | 29 => 85 | 30 => 86 | 31 => 87 | 32 => 88 | 33 => 89 | 35 => 91 | 34 => 90 | 36 => 92 | 37 => 93 | 38 => 94 | 39 => 95 | 40 => 96 | n => n, fun | 9 => 9 | 3 => 3 | 22 => 22 | 24 => 38 | 25 => 81 | 4 => 4 | 34 => 94 | 5 => 5 | 36 => 96 | 37 => 87 | 0 => 0 | 39 => 97 | 21 => 21 | 44 => 109 | 47 => 112 | 50 => 79 | 48 => 77 | 2 => 2 | 52 => 114 | 55 => 117 | 59 => 120 | 60 => 121 | 20 => 20 | 61 => 122 | 65 => 126 | 66 => 127 | 67 => 100 | n => n, fun | 0 => 2 | 1 => 3 | 2 => 4 | 3 => 5 | 4 => 6 | n => n⟩
theorem Tryz.laysPu14 : Go.Proofs.LaysPu.n14 Tryz.prog Tryz.laysPu14_ren := {
  mixed := by kernel_rfl
  f14 := Tryz.func39.trans (congrArg some (by kernel_rfl))
  f16 := Tryz.func51.trans (congrArg some (by kernel_rfl))
  f17 := Tryz.func52.trans (congrArg some (by kernel_rfl))
  f19 := Tryz.func65.trans (congrArg some (by kernel_rfl))
  f20 := Tryz.func66.trans (congrArg some (by kernel_rfl))
  f21 := Tryz.func67.trans (congrArg some (by kernel_rfl))
  f22 := Tryz.func68.trans (congrArg some (by kernel_rfl))
  f23 := Tryz.func69.trans (congrArg some (by kernel_rfl))
  f24 := Tryz.func70.trans (congrArg some (by kernel_rfl))
  f25 := Tryz.func80.trans (congrArg some (by kernel_rfl))
  f26 := Tryz.func25.trans (congrArg some (by kernel_rfl))
  f27 := Tryz.func81.trans (congrArg some (by kernel_rfl))
  f28 := Tryz.func84.trans (congrArg some (by kernel_rfl))
  f29 := Tryz.func85.trans (congrArg some (by kernel_rfl))
  f30 := Tryz.func86.trans (congrArg some (by kernel_rfl))
  f31 := Tryz.func87.trans (congrArg some (by kernel_rfl))
  f32 := Tryz.func88.trans (congrArg some (by kernel_rfl))
  f33 := Tryz.func89.trans (congrArg some (by kernel_rfl))
  f34 := Tryz.func90.trans (congrArg some (by kernel_rfl))
  f35 := Tryz.func91.trans (congrArg some (by kernel_rfl))
  f36 := Tryz.func92.trans (congrArg some (by kernel_rfl))
  f37 := Tryz.func93.trans (congrArg some (by kernel_rfl))
  f38 := Tryz.func94.trans (congrArg some (by kernel_rfl))
  f39 := Tryz.func95.trans (congrArg some (by kernel_rfl))
  f40 := Tryz.func96.trans (congrArg some (by kernel_rfl))
  t0 := Tryz.underlying0
  a0 := Tryz.isAgg0
  z0 := Tryz.sizeOf0
  v0 := Tryz.zeroValue0
  i0 := by kernel_rfl
  t2 := Tryz.underlying2
  a2 := Tryz.isAgg2
  z2 := Tryz.sizeOf2
  v2 := Tryz.zeroValue2
  i2 := by kernel_rfl
  t3 := Tryz.underlying3
  a3 := Tryz.isAgg3
  z3 := Tryz.sizeOf3
  v3 := Tryz.zeroValue3
  i3 := by kernel_rfl
  t4 := Tryz.underlying4
  a4 := Tryz.isAgg4
  z4 := Tryz.sizeOf4
  v4 := Tryz.zeroValue4
  i4 := by kernel_rfl
  t5 := Tryz.underlying5
  a5 := Tryz.isAgg5
  z5 := Tryz.sizeOf5
  v5 := Tryz.zeroValue5
  i5 := by kernel_rfl
  t9 := Tryz.underlying9
  a9 := Tryz.isAgg9
  z9 := Tryz.sizeOf9
  v9 := Tryz.zeroValue9
  i9 := by kernel_rfl
  t20 := Tryz.underlying20
  a20 := Tryz.isAgg20
  z20 := Tryz.sizeOf20
  v20 := Tryz.zeroValue20
  i20 := by kernel_rfl
  t21 := Tryz.underlying21
  a21 := Tryz.isAgg21
  z21 := Tryz.sizeOf21
  v21 := Tryz.zeroValue21
  i21 := by kernel_rfl
  t22 := Tryz.underlying22
  a22 := Tryz.isAgg22
  z22 := Tryz.sizeOf22
  v22 := Tryz.zeroValue22
  i22 := by kernel_rfl
  t24 := Tryz.underlying38
  a24 := Tryz.isAgg38
  z24 := Tryz.sizeOf38
  v24 := Tryz.zeroValue38
  i24 := by kernel_rfl
  t25 := Tryz.underlying81
  a25 := Tryz.isAgg81
  z25 := Tryz.sizeOf81
  v25 := Tryz.zeroValue81
  i25 := by kernel_rfl
  t34 := Tryz.underlying94
  a34 := Tryz.isAgg94
  z34 := Tryz.sizeOf94
  v34 := Tryz.zeroValue94
  i34 := by kernel_rfl
  c34 := by kernel_rfl
  t36 := Tryz.underlying96
  a36 := Tryz.isAgg96
  z36 := Tryz.sizeOf96
  v36 := Tryz.zeroValue96
  i36 := by kernel_rfl
  t37 := Tryz.underlying87
  a37 := Tryz.isAgg87
  z37 := Tryz.sizeOf87
  v37 := Tryz.zeroValue87
  i37 := by kernel_rfl
  t39 := Tryz.underlying97
  a39 := Tryz.isAgg97
  z39 := Tryz.sizeOf97
  v39 := Tryz.zeroValue97
  i39 := by kernel_rfl
  t44 := Tryz.underlying109
  a44 := Tryz.isAgg109
  z44 := Tryz.sizeOf109
  v44 := Tryz.zeroValue109
  i44 := by kernel_rfl
  t47 := Tryz.underlying112
  a47 := Tryz.isAgg112
  z47 := Tryz.sizeOf112
  v47 := Tryz.zeroValue112
  i47 := by kernel_rfl
  t48 := Tryz.underlying77
  a48 := Tryz.isAgg77
  z48 := Tryz.sizeOf77
  v48 := Tryz.zeroValue77
  i48 := by kernel_rfl
  t50 := Tryz.underlying79
  a50 := Tryz.isAgg79
  z50 := Tryz.sizeOf79
  v50 := Tryz.zeroValue79
  i50 := by kernel_rfl
  t52 := Tryz.underlying114
  a52 := Tryz.isAgg114
  z52 := Tryz.sizeOf114
  v52 := Tryz.zeroValue114
  i52 := by kernel_rfl
  t55 := Tryz.underlying117
  a55 := Tryz.isAgg117
  z55 := Tryz.sizeOf117
  v55 := Tryz.zeroValue117
  i55 := by kernel_rfl
  t59 := Tryz.underlying120
  a59 := Tryz.isAgg120
  z59 := Tryz.sizeOf120
  v59 := Tryz.zeroValue120
  i59 := by kernel_rfl
  t60 := Tryz.underlying121
  a60 := Tryz.isAgg121
  z60 := Tryz.sizeOf121
  v60 := Tryz.zeroValue121
  i60 := by kernel_rfl
  t61 := Tryz.underlying122
  a61 := Tryz.isAgg122
  z61 := Tryz.sizeOf122
  t65 := Tryz.underlying126
  a65 := Tryz.isAgg126
  z65 := Tryz.sizeOf126
  v65 := Tryz.zeroValue126
  i65 := by kernel_rfl
  t66 := Tryz.underlying127
  a66 := Tryz.isAgg127
  z66 := Tryz.sizeOf127
  v66 := Tryz.zeroValue127
  i66 := by kernel_rfl
  t67 := Tryz.underlying100
  a67 := Tryz.isAgg100
  z67 := Tryz.sizeOf100
  v67 := Tryz.zeroValue100
  i67 := by kernel_rfl
  g0 := by kernel_rfl
  m0 := by kernel_rfl
  g1 := by kernel_rfl
  m1 := by kernel_rfl
  g2 := by kernel_rfl
  m2 := by kernel_rfl
  g3 := by kernel_rfl
  m3 := by kernel_rfl
  g4 := by kernel_rfl
  m4 := by kernel_rfl }
open Go.RowKit in
theorem Tryz.strconv_ParseUint_10_at64_ok (s : ByteArray) (hmax : s.size ≤ 9223372036854775806) (u : Nat) (h : Lib.parseUintB 64 s.data.toList = .ok u) (w : World) :
    Calls Tryz.prog 39 #[.string s, .int .i64 10, .int .i64 64] w fun e w' => e = .returned (.tuple #[.int .u64 u, .nilIface]) ∧ (w' = w ∨ w' = Lib.bytesWorld w 5 s) := Any.strconv_ParseUint_10_at64_ok Tryz.laysPu14 s hmax u h w
open Go.RowKit in
theorem Tryz.strconv_ParseUint_10_at64_syntax (s : ByteArray) (hlim : s.size ≤ 281474976710656) (h0 : ∀ u, Lib.parseUintB 64 s.data.toList ≠ .ok u) (h1 : Lib.parseUintB 64 s.data.toList ≠ .range) (ev : Value) (w : World) (hv : w.cell? ⟨2, 0, none⟩ = some ev) (hev : ev = .nilIface ∨ ∃ te pe, ev = .iface te pe) :
    Calls Tryz.prog 39 #[.string s, .int .i64 10, .int .i64 64] w fun e w' => ∃ N, e = .returned (.tuple #[.int .u64 0, .iface 97 (.pointer (some ⟨N, 0, none⟩))]) ∧ w.heap.size ≤ N ∧ w'.heap[N]? = some (.cells #[.string ⟨#[80, 97, 114, 115, 101, 85, 105, 110, 116]⟩, .string s, ev] 109 (0, 0)) ∧ Below w.heap.size w w' := Any.strconv_ParseUint_10_at64_syntax Tryz.laysPu14 s hlim (by cases hq_ : Lib.parseUintB 64 s.data.toList with | ok u => exact absurd hq_ (h0 u) | range => exact absurd hq_ h1 | _ => rfl) ev w hv hev
open Go.RowKit in
theorem Tryz.strconv_ParseUint_10_at64_range (s : ByteArray) (hlim : s.size ≤ 281474976710656) (h : Lib.parseUintB 64 s.data.toList = .range) (ev : Value) (w : World) (hv : w.cell? ⟨3, 0, none⟩ = some ev) (hev : ev = .nilIface ∨ ∃ te pe, ev = .iface te pe) :
    Calls Tryz.prog 39 #[.string s, .int .i64 10, .int .i64 64] w fun e w' => ∃ N, e = .returned (.tuple #[.int .u64 18446744073709551615, .iface 97 (.pointer (some ⟨N, 0, none⟩))]) ∧ w.heap.size ≤ N ∧ w'.heap[N]? = some (.cells #[.string ⟨#[80, 97, 114, 115, 101, 85, 105, 110, 116]⟩, .string s, ev] 109 (0, 0)) ∧ Below w.heap.size w w' := Any.strconv_ParseUint_10_at64_range Tryz.laysPu14 s hlim h ev w hv hev
def Tryz.lays101_ren : Go.Shelf.Ren := ⟨fun | 101 => 36 | 208 => 46 | 206 => 63 | n => n, fun | 9 => 9 | 4 => 4 | 3 => 3 | n => n, fun | n => n⟩
theorem Tryz.lays101 : Go.Proofs.Lays.n101 Tryz.prog Tryz.lays101_ren := {
  mixed := by kernel_rfl
  f101 := Tryz.func36.trans (congrArg some (by kernel_rfl))
  f206 := Tryz.func63.trans (congrArg some (by kernel_rfl))
  f208 := Tryz.func46.trans (congrArg some (by kernel_rfl))
  t3 := Tryz.underlying3
  a3 := Tryz.isAgg3
  z3 := Tryz.sizeOf3
  v3 := Tryz.zeroValue3
  t4 := Tryz.underlying4
  a4 := Tryz.isAgg4
  z4 := Tryz.sizeOf4
  v4 := Tryz.zeroValue4
  t9 := Tryz.underlying9
  a9 := Tryz.isAgg9
  z9 := Tryz.sizeOf9
  v9 := Tryz.zeroValue9 }
open Go.RowKit Go.Lib in
theorem Tryz.strings_TrimPrefix (s p : ByteArray) (w : World) :
    Calls Tryz.prog 36 #[.string s, .string p] w fun e w' => e = .returned (.string ⟨(Lib.trimPrefix s.data.toList p.data.toList).toArray⟩) ∧ w' = w := Any.strings_TrimPrefix Tryz.lays101 s p w
end Go.Proofs

