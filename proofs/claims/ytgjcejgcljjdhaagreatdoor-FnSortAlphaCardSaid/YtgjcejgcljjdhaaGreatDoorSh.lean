/-
The library's contracts at this program, laid in plain words.
-/
import Derived.Shelf.Strings.Builder1
import Derived.Shelf.Strings.Builder2
import Derived.Shelf.Strings.OnBuilder
import Derived.Shelf.Small.Bits
import Derived.Shelf.Small.Wraps
import Derived.Shelf.Strconv.Itoa0
import Derived.Shelf.Strconv.Itoa1
import Derived.Shelf.LaysM
import Derived.Shelf.Strconv.Itoa2
import Derived.Shelf.Strconv.Itoa3
import Derived.Shelf.Strconv.Itoa4
import Derived.Shelf.Strconv.ParseIntEmpty
import Derived.Shelf.Strconv.Clone
import Derived.Shelf.Strconv.SyntaxError
import Derived.Shelf.LaysC
import Derived.Shelf.Strconv.ToError
import Derived.Shelf.Strconv.Lower
import Derived.Shelf.Strconv.ParseUint10
import Derived.Shelf.Strconv.ParseUint10Empty
import Derived.Shelf.Strconv.ParseUint10Any
import Derived.Shelf.Strconv.ParseInt10
import Derived.Shelf.Strconv.RangeError
import Derived.Shelf.Strconv.ToErrorRange
import Derived.Shelf.Strconv.ParseUintEmpty
import Derived.Shelf.Strconv.ParseUint10b64
import Derived.Shelf.Strconv.ParseUint10b32
import Derived.Shelf.Strconv.ParseUint10b16
import Derived.Shelf.Strconv.ParseUint10b8
import Derived.Shelf.Strconv.ParseUint10At
import Derived.Shelf.Strconv.ParseInt10At64
import Derived.Shelf.Strconv.ParseInt10At32
import Derived.Shelf.Strconv.ParseInt10At16
import Derived.Shelf.Strconv.ParseInt10At8
import Derived.Shelf.Strconv.ParseInt10All
import Derived.Shelf.Strconv.ParseIntPublic10
import Derived.Shelf.Sort.Plain
import Derived.Ground.GgtProg
import Derived.Shelf.GgSortMore.Iface
import Derived.Shelf.GgSortMore.IfaceD
import Derived.Shelf.GgSortMore.IfacePart
import Derived.Shelf.GgSortMore.IfacePdq
import Derived.Shelf.GgSortMore.SortSort
import Derived.Ground.GguProg
import Derived.Shelf.GgSortLib.LibTypes
import Derived.Shelf.Bits.Mul64
import Derived.Shelf.Slices.In.SortNone
import Derived.Shelf.Slices.In.SortNone2
import Derived.Ground.GgsProg
import Derived.Shelf.SlSortFunc.Xorshift
import Derived.Shelf.SlSortIface.SiftDown
import Derived.Shelf.SlSortIface.HeapSort
import Derived.Shelf.SlSortIface.PartialInsertion
import Derived.Test.YtgjcejgcljjdhaaGreatDoorProg
namespace Go.Proofs
open Go.Shelf
def Tryz.lays156_ren : Go.Shelf.Ren := ⟨fun | 156 => 43 | 165 => 57 | 166 => 58 | 169 => 59 | 240 => 73 | 241 => 74 | 276 => 89 | 277 => 90 | n => n, fun | 31 => 27 | 9 => 9 | 3 => 3 | 4 => 4 | 0 => 0 | 20 => 20 | 72 => 77 | 76 => 81 | 70 => 75 | 37 => 63 | 75 => 80 | 127 => 101 | 164 => 112 | 5 => 5 | 80 => 83 | n => n, fun | n => n⟩
theorem Tryz.lays156 : Go.Proofs.Lays.n156 Tryz.prog Tryz.lays156_ren := {
  mixed := by kernel_rfl
  f156 := Tryz.func43.trans (congrArg some (by kernel_rfl))
  f165 := Tryz.func57.trans (congrArg some (by kernel_rfl))
  f166 := Tryz.func58.trans (congrArg some (by kernel_rfl))
  f169 := Tryz.func59.trans (congrArg some (by kernel_rfl))
  f240 := Tryz.func73.trans (congrArg some (by kernel_rfl))
  f241 := Tryz.func74.trans (congrArg some (by kernel_rfl))
  f276 := Tryz.func89.trans (congrArg some (by kernel_rfl))
  f277 := Tryz.func90.trans (congrArg some (by kernel_rfl))
  t0 := Tryz.underlying0
  a0 := Tryz.isAgg0
  z0 := Tryz.sizeOf0
  v0 := Tryz.zeroValue0
  t3 := Tryz.underlying3
  a3 := Tryz.isAgg3
  z3 := Tryz.sizeOf3
  v3 := Tryz.zeroValue3
  t4 := Tryz.underlying4
  a4 := Tryz.isAgg4
  z4 := Tryz.sizeOf4
  v4 := Tryz.zeroValue4
  t9 := Tryz.underlying9
  a9 := Tryz.isAgg9
  z9 := Tryz.sizeOf9
  v9 := Tryz.zeroValue9
  t20 := Tryz.underlying20
  a20 := Tryz.isAgg20
  z20 := Tryz.sizeOf20
  v20 := Tryz.zeroValue20
  t31 := Tryz.underlying27
  a31 := Tryz.isAgg27
  z31 := Tryz.sizeOf27
  v31 := Tryz.zeroValue27
  t37 := Tryz.underlying63
  a37 := Tryz.isAgg63
  z37 := Tryz.sizeOf63
  v37 := Tryz.zeroValue63
  t70 := Tryz.underlying75
  a70 := Tryz.isAgg75
  z70 := Tryz.sizeOf75
  v70 := Tryz.zeroValue75
  t72 := Tryz.underlying77
  a72 := Tryz.isAgg77
  z72 := Tryz.sizeOf77
  v72 := Tryz.zeroValue77
  t75 := Tryz.underlying80
  a75 := Tryz.isAgg80
  z75 := Tryz.sizeOf80
  v75 := Tryz.zeroValue80
  t76 := Tryz.underlying81
  a76 := Tryz.isAgg81
  z76 := Tryz.sizeOf81
  v76 := Tryz.zeroValue81
  t127 := Tryz.underlying101
  a127 := Tryz.isAgg101
  z127 := Tryz.sizeOf101
  v127 := Tryz.zeroValue101
  t164 := Tryz.underlying112
  a164 := Tryz.isAgg112
  z164 := Tryz.sizeOf112
  v164 := Tryz.zeroValue112 }
theorem Tryz.Builder_Extra_156 : Builder.Extra Tryz.prog Tryz.lays156_ren := {
  sizeBuilder := by kernel_rfl
  liesBuilder := by kernel_rfl
  t5 := Tryz.underlying5
  a5 := Tryz.isAgg5
  z5 := Tryz.sizeOf5
  v5 := Tryz.zeroValue5
  infoByte := by kernel_rfl
  cellsByte := by kernel_rfl
  sizeByte := by kernel_rfl
  neB5 := by decide }
open Go.RowKit in
theorem Tryz.strings_Join_none (a : Option Addr) (c : Nat) (sep : ByteArray) (w : World) :
    Calls Tryz.prog 43 #[.slice a 0 c, .string sep] w fun e w' => e = .returned (.string ⟨#[]⟩) ∧ w' = w := Any.strings_Join_none Tryz.lays156 Tryz.Builder_Extra_156 a c sep w
open Go.RowKit in
theorem Tryz.strings_Join (bk o c : Nat) (xs : List ByteArray) (sep : ByteArray) (w : World) (hcells : ∀ (j : Nat) x, xs[j]? = some x → w.cell? ⟨bk, o + j, none⟩ = some (.string x)) (hbk : bk < w.heap.size) (hN : xs.length ≤ 140737488355328) (hcap : xs.length ≤ c) (hlen : (Lib.join (xs.map (·.data.toList)) sep.data.toList).length ≤ 140737488355328) :
    Calls Tryz.prog 43 #[.slice (some ⟨bk, o, none⟩) xs.length c, .string sep] w fun e w' => e = .returned (.string ⟨(Lib.join (xs.map (·.data.toList)) sep.data.toList).toArray⟩) ∧ Below w.heap.size w w' := Any.strings_Join Tryz.lays156 Tryz.Builder_Extra_156 bk o c xs sep w hcells hbk hN hcap hlen
def Tryz.lays121_ren : Go.Shelf.Ren := ⟨fun | 121 => 61 | 214 => 77 | n => n, fun | 4 => 4 | 9 => 9 | n => n, fun | n => n⟩
theorem Tryz.lays121 : Go.Proofs.Lays.n121 Tryz.prog Tryz.lays121_ren := {
  mixed := by kernel_rfl
  f121 := Tryz.func61.trans (congrArg some (by kernel_rfl))
  f214 := Tryz.func77.trans (congrArg some (by kernel_rfl))
  t4 := Tryz.underlying4
  a4 := Tryz.isAgg4
  z4 := Tryz.sizeOf4
  v4 := Tryz.zeroValue4
  t9 := Tryz.underlying9
  a9 := Tryz.isAgg9
  z9 := Tryz.sizeOf9
  v9 := Tryz.zeroValue9 }
open Go.RowKit in
theorem Tryz.strconv_FormatBool (b : Bool) (w : World) :
    Calls Tryz.prog 61 #[.bool b] w fun e w' => e = .returned (.string ⟨(Lib.formatBool b).toArray⟩) ∧ w' = w := Any.strconv_FormatBool Tryz.lays121 b w
def Tryz.laysM171_ren : Go.Shelf.Ren := ⟨fun | 171 => 62 | 243 => 78 | 246 => 37 | 283 => 50 | 284 => 51 | 285 => 52 | 286 => 53 | 129 => 66 | 317 => 65 | 318 => 67 | 319 => 68 | 320 => 69 | 337 => 81 | 338 => 82 | n => n, fun | 3 => 3 | 9 => 9 | 2 => 2 | 4 => 4 | 171 => 69 | 0 => 0 | 53 => 70 | 37 => 63 | 5 => 5 | 173 => 73 | 212 => 90 | 51 => 91 | 20 => 20 | 213 => 92 | 46 => 94 | 232 => 128 | 233 => 129 | n => n, fun | 17 => 0 | 18 => 1 | 19 => 2 | n => n⟩
theorem Tryz.laysM171 : Go.Proofs.LaysM.n171 Tryz.prog Tryz.laysM171_ren := {
  mixed := by kernel_rfl
  f129 := Tryz.func66.trans (congrArg some (by kernel_rfl))
  f171 := Tryz.func62.trans (congrArg some (by kernel_rfl))
  f243 := Tryz.func78.trans (congrArg some (by kernel_rfl))
  f246 := Tryz.func37.trans (congrArg some (by kernel_rfl))
  f283 := Tryz.func50.trans (congrArg some (by kernel_rfl))
  f284 := Tryz.func51.trans (congrArg some (by kernel_rfl))
  f285 := Tryz.func52.trans (congrArg some (by kernel_rfl))
  f286 := Tryz.func53.trans (congrArg some (by kernel_rfl))
  f317 := Tryz.func65.trans (congrArg some (by kernel_rfl))
  f318 := Tryz.func67.trans (congrArg some (by kernel_rfl))
  f319 := Tryz.func68.trans (congrArg some (by kernel_rfl))
  f320 := Tryz.func69.trans (congrArg some (by kernel_rfl))
  f337 := Tryz.func81.trans (congrArg some (by kernel_rfl))
  f338 := Tryz.func82.trans (congrArg some (by kernel_rfl))
  t0 := Tryz.underlying0
  a0 := Tryz.isAgg0
  z0 := Tryz.sizeOf0
  v0 := Tryz.zeroValue0
  t2 := Tryz.underlying2
  a2 := Tryz.isAgg2
  z2 := Tryz.sizeOf2
  v2 := Tryz.zeroValue2
  t3 := Tryz.underlying3
  a3 := Tryz.isAgg3
  z3 := Tryz.sizeOf3
  v3 := Tryz.zeroValue3
  t4 := Tryz.underlying4
  a4 := Tryz.isAgg4
  z4 := Tryz.sizeOf4
  v4 := Tryz.zeroValue4
  t5 := Tryz.underlying5
  a5 := Tryz.isAgg5
  z5 := Tryz.sizeOf5
  v5 := Tryz.zeroValue5
  t9 := Tryz.underlying9
  a9 := Tryz.isAgg9
  z9 := Tryz.sizeOf9
  v9 := Tryz.zeroValue9
  t20 := Tryz.underlying20
  a20 := Tryz.isAgg20
  z20 := Tryz.sizeOf20
  v20 := Tryz.zeroValue20
  t37 := Tryz.underlying63
  a37 := Tryz.isAgg63
  z37 := Tryz.sizeOf63
  v37 := Tryz.zeroValue63
  t46 := Tryz.underlying94
  a46 := Tryz.isAgg94
  z46 := Tryz.sizeOf94
  v46 := Tryz.zeroValue94
  t51 := Tryz.underlying91
  a51 := Tryz.isAgg91
  z51 := Tryz.sizeOf91
  v51 := Tryz.zeroValue91
  t53 := Tryz.underlying70
  a53 := Tryz.isAgg70
  z53 := Tryz.sizeOf70
  v53 := Tryz.zeroValue70
  t171 := Tryz.underlying69
  a171 := Tryz.isAgg69
  z171 := Tryz.sizeOf69
  v171 := Tryz.zeroValue69
  t173 := Tryz.underlying73
  a173 := Tryz.isAgg73
  z173 := Tryz.sizeOf73
  v173 := Tryz.zeroValue73
  t212 := Tryz.underlying90
  a212 := Tryz.isAgg90
  z212 := Tryz.sizeOf90
  v212 := Tryz.zeroValue90
  t213 := Tryz.underlying92
  a213 := Tryz.isAgg92
  z213 := Tryz.sizeOf92
  t232 := Tryz.underlying128
  a232 := Tryz.isAgg128
  z232 := Tryz.sizeOf128
  v232 := Tryz.zeroValue128
  t233 := Tryz.underlying129
  a233 := Tryz.isAgg129
  z233 := Tryz.sizeOf129
  v233 := Tryz.zeroValue129
  g17 := by kernel_rfl
  g18 := by kernel_rfl
  g19 := by kernel_rfl
  i0 := by kernel_rfl
  i2 := by kernel_rfl
  i3 := by kernel_rfl
  i4 := by kernel_rfl
  i5 := by kernel_rfl
  i9 := by kernel_rfl
  i20 := by kernel_rfl
  i37 := by kernel_rfl
  i46 := by kernel_rfl
  i51 := by kernel_rfl
  i53 := by kernel_rfl
  i171 := by kernel_rfl
  i173 := by kernel_rfl
  i212 := by kernel_rfl
  i232 := by kernel_rfl
  i233 := by kernel_rfl
  m17 := by kernel_rfl
  m18 := by kernel_rfl
  m19 := by kernel_rfl }
open Go.RowKit Go.Sort Go.Lib in
theorem Tryz.strconv_Itoa (n : Int) (h0 : -9223372036854775808 ≤ n) (h1 : n ≤ 9223372036854775807) (w : World) (htab : Lib.TabIs Tryz.prog w "internal/strconv.uint64pow10" .u64 Lib.pow10Tab) :
    Calls Tryz.prog 62 #[.int .i64 n] w fun e w' => e = .returned (.string ⟨(Lib.itoa n).toArray⟩) ∧ ∃ k os, w' = grow (w.drewN k) os := Any.strconv_Itoa Tryz.laysM171 n h0 h1 w htab
def Tryz.laysM173_ren : Go.Shelf.Ren := ⟨fun | 173 => 27 | 246 => 37 | 283 => 50 | 284 => 51 | 285 => 52 | 286 => 53 | 129 => 66 | 317 => 65 | 318 => 67 | 319 => 68 | 320 => 69 | 337 => 81 | 338 => 82 | n => n, fun | 2 => 2 | 3 => 3 | 9 => 9 | 4 => 4 | 171 => 69 | 0 => 0 | 53 => 70 | 37 => 63 | 5 => 5 | 173 => 73 | 212 => 90 | 51 => 91 | 20 => 20 | 213 => 92 | 46 => 94 | 232 => 128 | 233 => 129 | n => n, fun | 17 => 0 | 18 => 1 | 19 => 2 | n => n⟩
theorem Tryz.laysM173 : Go.Proofs.LaysM.n173 Tryz.prog Tryz.laysM173_ren := {
  mixed := by kernel_rfl
  f129 := Tryz.func66.trans (congrArg some (by kernel_rfl))
  f173 := Tryz.func27.trans (congrArg some (by kernel_rfl))
  f246 := Tryz.func37.trans (congrArg some (by kernel_rfl))
  f283 := Tryz.func50.trans (congrArg some (by kernel_rfl))
  f284 := Tryz.func51.trans (congrArg some (by kernel_rfl))
  f285 := Tryz.func52.trans (congrArg some (by kernel_rfl))
  f286 := Tryz.func53.trans (congrArg some (by kernel_rfl))
  f317 := Tryz.func65.trans (congrArg some (by kernel_rfl))
  f318 := Tryz.func67.trans (congrArg some (by kernel_rfl))
  f319 := Tryz.func68.trans (congrArg some (by kernel_rfl))
  f320 := Tryz.func69.trans (congrArg some (by kernel_rfl))
  f337 := Tryz.func81.trans (congrArg some (by kernel_rfl))
  f338 := Tryz.func82.trans (congrArg some (by kernel_rfl))
  t0 := Tryz.underlying0
  a0 := Tryz.isAgg0
  z0 := Tryz.sizeOf0
  v0 := Tryz.zeroValue0
  t2 := Tryz.underlying2
  a2 := Tryz.isAgg2
  z2 := Tryz.sizeOf2
  v2 := Tryz.zeroValue2
  t3 := Tryz.underlying3
  a3 := Tryz.isAgg3
  z3 := Tryz.sizeOf3
  v3 := Tryz.zeroValue3
  t4 := Tryz.underlying4
  a4 := Tryz.isAgg4
  z4 := Tryz.sizeOf4
  v4 := Tryz.zeroValue4
  t5 := Tryz.underlying5
  a5 := Tryz.isAgg5
  z5 := Tryz.sizeOf5
  v5 := Tryz.zeroValue5
  t9 := Tryz.underlying9
  a9 := Tryz.isAgg9
  z9 := Tryz.sizeOf9
  v9 := Tryz.zeroValue9
  t20 := Tryz.underlying20
  a20 := Tryz.isAgg20
  z20 := Tryz.sizeOf20
  v20 := Tryz.zeroValue20
  t37 := Tryz.underlying63
  a37 := Tryz.isAgg63
  z37 := Tryz.sizeOf63
  v37 := Tryz.zeroValue63
  t46 := Tryz.underlying94
  a46 := Tryz.isAgg94
  z46 := Tryz.sizeOf94
  v46 := Tryz.zeroValue94
  t51 := Tryz.underlying91
  a51 := Tryz.isAgg91
  z51 := Tryz.sizeOf91
  v51 := Tryz.zeroValue91
  t53 := Tryz.underlying70
  a53 := Tryz.isAgg70
  z53 := Tryz.sizeOf70
  v53 := Tryz.zeroValue70
  t171 := Tryz.underlying69
  a171 := Tryz.isAgg69
  z171 := Tryz.sizeOf69
  v171 := Tryz.zeroValue69
  t173 := Tryz.underlying73
  a173 := Tryz.isAgg73
  z173 := Tryz.sizeOf73
  v173 := Tryz.zeroValue73
  t212 := Tryz.underlying90
  a212 := Tryz.isAgg90
  z212 := Tryz.sizeOf90
  v212 := Tryz.zeroValue90
  t213 := Tryz.underlying92
  a213 := Tryz.isAgg92
  z213 := Tryz.sizeOf92
  t232 := Tryz.underlying128
  a232 := Tryz.isAgg128
  z232 := Tryz.sizeOf128
  v232 := Tryz.zeroValue128
  t233 := Tryz.underlying129
  a233 := Tryz.isAgg129
  z233 := Tryz.sizeOf129
  v233 := Tryz.zeroValue129
  g17 := by kernel_rfl
  g18 := by kernel_rfl
  g19 := by kernel_rfl
  i0 := by kernel_rfl
  i2 := by kernel_rfl
  i3 := by kernel_rfl
  i4 := by kernel_rfl
  i5 := by kernel_rfl
  i9 := by kernel_rfl
  i20 := by kernel_rfl
  i37 := by kernel_rfl
  i46 := by kernel_rfl
  i51 := by kernel_rfl
  i53 := by kernel_rfl
  i171 := by kernel_rfl
  i173 := by kernel_rfl
  i212 := by kernel_rfl
  i232 := by kernel_rfl
  i233 := by kernel_rfl
  m17 := by kernel_rfl
  m18 := by kernel_rfl
  m19 := by kernel_rfl }
open Go.RowKit Go.Sort Go.Lib in
theorem Tryz.strconv_FormatInt_10 (n : Int) (h0 : -9223372036854775808 ≤ n) (h1 : n ≤ 9223372036854775807) (w : World) (htab : Lib.TabIs Tryz.prog w "internal/strconv.uint64pow10" .u64 Lib.pow10Tab) :
    Calls Tryz.prog 27 #[.int .i64 n, .int .i64 10] w fun e w' => e = .returned (.string ⟨(Lib.itoa n).toArray⟩) ∧ ∃ k os, w' = grow (w.drewN k) os := Any.strconv_FormatInt_10 Tryz.laysM173 n h0 h1 w htab
def Tryz.laysGt11_ren : Go.Shelf.Ren := ⟨fun | 11 => 60 | 17 => 75 | 18 => 76 | 31 => 91 | 32 => 66 | 33 => 92 | 34 => 93 | 35 => 94 | 36 => 95 | 37 => 96 | 38 => 97 | 39 => 98 | 40 => 99 | 43 => 110 | 44 => 111 | 45 => 112 | 46 => 113 | 47 => 114 | 50 => 141 | n => n, fun | 45 => 103 | 3 => 3 | 4 => 4 | 47 => 94 | 0 => 0 | 56 => 91 | 58 => 70 | 61 => 117 | 60 => 116 | 65 => 122 | 5 => 5 | 9 => 9 | 67 => 140 | 71 => 144 | 73 => 177 | 74 => 153 | 43 => 104 | 26 => 120 | 38 => 139 | n => n, fun | n => n⟩
theorem Tryz.laysGt11 : Go.Proofs.LaysGt.n11 Tryz.prog Tryz.laysGt11_ren := {
  mixed := by kernel_rfl
  f11 := Tryz.func60.trans (congrArg some (by kernel_rfl))
  f17 := Tryz.func75.trans (congrArg some (by kernel_rfl))
  f18 := Tryz.func76.trans (congrArg some (by kernel_rfl))
  f31 := Tryz.func91.trans (congrArg some (by kernel_rfl))
  f32 := Tryz.func66.trans (congrArg some (by kernel_rfl))
  f33 := Tryz.func92.trans (congrArg some (by kernel_rfl))
  f34 := Tryz.func93.trans (congrArg some (by kernel_rfl))
  f35 := Tryz.func94.trans (congrArg some (by kernel_rfl))
  f36 := Tryz.func95.trans (congrArg some (by kernel_rfl))
  f37 := Tryz.func96.trans (congrArg some (by kernel_rfl))
  f38 := Tryz.func97.trans (congrArg some (by kernel_rfl))
  f39 := Tryz.func98.trans (congrArg some (by kernel_rfl))
  f40 := Tryz.func99.trans (congrArg some (by kernel_rfl))
  f43 := Tryz.func110.trans (congrArg some (by kernel_rfl))
  f44 := Tryz.func111.trans (congrArg some (by kernel_rfl))
  f45 := Tryz.func112.trans (congrArg some (by kernel_rfl))
  f46 := Tryz.func113.trans (congrArg some (by kernel_rfl))
  f47 := Tryz.func114.trans (congrArg some (by kernel_rfl))
  f50 := Tryz.func141.trans (congrArg some (by kernel_rfl))
  t0 := Tryz.underlying0
  a0 := Tryz.isAgg0
  z0 := Tryz.sizeOf0
  v0 := Tryz.zeroValue0
  i0 := by kernel_rfl
  t3 := Tryz.underlying3
  a3 := Tryz.isAgg3
  z3 := Tryz.sizeOf3
  v3 := Tryz.zeroValue3
  i3 := by kernel_rfl
  t4 := Tryz.underlying4
  a4 := Tryz.isAgg4
  z4 := Tryz.sizeOf4
  v4 := Tryz.zeroValue4
  i4 := by kernel_rfl
  t5 := Tryz.underlying5
  a5 := Tryz.isAgg5
  z5 := Tryz.sizeOf5
  v5 := Tryz.zeroValue5
  i5 := by kernel_rfl
  t9 := Tryz.underlying9
  a9 := Tryz.isAgg9
  z9 := Tryz.sizeOf9
  v9 := Tryz.zeroValue9
  i9 := by kernel_rfl
  t26 := Tryz.underlying120
  a26 := Tryz.isAgg120
  z26 := Tryz.sizeOf120
  v26 := Tryz.zeroValue120
  i26 := by kernel_rfl
  t38 := Tryz.underlying139
  a38 := Tryz.isAgg139
  z38 := Tryz.sizeOf139
  v38 := Tryz.zeroValue139
  i38 := by kernel_rfl
  t43 := Tryz.underlying104
  a43 := Tryz.isAgg104
  z43 := Tryz.sizeOf104
  v43 := Tryz.zeroValue104
  i43 := by kernel_rfl
  t45 := Tryz.underlying103
  a45 := Tryz.isAgg103
  z45 := Tryz.sizeOf103
  v45 := Tryz.zeroValue103
  i45 := by kernel_rfl
  t47 := Tryz.underlying94
  a47 := Tryz.isAgg94
  z47 := Tryz.sizeOf94
  v47 := Tryz.zeroValue94
  i47 := by kernel_rfl
  t56 := Tryz.underlying91
  a56 := Tryz.isAgg91
  z56 := Tryz.sizeOf91
  v56 := Tryz.zeroValue91
  i56 := by kernel_rfl
  t58 := Tryz.underlying70
  a58 := Tryz.isAgg70
  z58 := Tryz.sizeOf70
  v58 := Tryz.zeroValue70
  i58 := by kernel_rfl
  t60 := Tryz.underlying116
  a60 := Tryz.isAgg116
  z60 := Tryz.sizeOf116
  v60 := Tryz.zeroValue116
  i60 := by kernel_rfl
  t61 := Tryz.underlying117
  a61 := Tryz.isAgg117
  z61 := Tryz.sizeOf117
  v61 := Tryz.zeroValue117
  i61 := by kernel_rfl
  t65 := Tryz.underlying122
  a65 := Tryz.isAgg122
  z65 := Tryz.sizeOf122
  v65 := Tryz.zeroValue122
  i65 := by kernel_rfl
  t67 := Tryz.underlying140
  a67 := Tryz.isAgg140
  z67 := Tryz.sizeOf140
  v67 := Tryz.zeroValue140
  i67 := by kernel_rfl
  t71 := Tryz.underlying144
  a71 := Tryz.isAgg144
  z71 := Tryz.sizeOf144
  v71 := Tryz.zeroValue144
  i71 := by kernel_rfl
  t73 := Tryz.underlying177
  a73 := Tryz.isAgg177
  z73 := Tryz.sizeOf177
  v73 := Tryz.zeroValue177
  i73 := by kernel_rfl
  t74 := Tryz.underlying153
  a74 := Tryz.isAgg153
  z74 := Tryz.sizeOf153
  v74 := Tryz.zeroValue153
  i74 := by kernel_rfl }
open Go.RowKit Go.Lib Go.Sort in
theorem Tryz.sort_Sort_tiny {α : Type} [Inhabited α] (T : TypeId) (rv : Value) (gn : Nat) (rN : Reaches Tryz.prog T rv "Len" gn) (n : Nat) (hn : n ≤ 1) (w : World) (hlen : LenM Tryz.prog gn rv n w) :
    Calls Tryz.prog 60 #[.iface T rv] w fun e w' => e = .returned (.tuple #[]) ∧ ∃ q, w' = w.drewN q := Any.sort_Sort_tiny Tryz.laysGt11 T rv gn rN n hn w hlen
open Go.RowKit Go.Lib Go.Sort in
theorem Tryz.sort_Sort_sorted {α : Type} [Inhabited α] (T : TypeId) (rv : Value) (gn gl gs : Nat) (rN : Reaches Tryz.prog T rv "Len" gn) (rL : Reaches Tryz.prog T rv "Less" gl) (rS : Reaches Tryz.prog T rv "Swap" gs) (enc : α → Value) (lt : α → α → Bool) (hO : SWO lt) (blk off : Nat) (d : Array α) (h2 : 2 ≤ d.size) (hsz : d.size < 4611686018427387904) (w : World) (hlen : LenM Tryz.prog gn rv d.size w) (hless : LessM Tryz.prog gl rv enc lt blk off d.size w) (hswap : SwapM Tryz.prog gs rv enc blk off d.size) (hH : Holds enc w blk off d) (hblk : blk < w.heap.size) :
    Calls Tryz.prog 60 #[.iface T rv] w fun e w' => e = .returned (.tuple #[]) ∧ ∃ d' n os, PermIn 0 d.size d d' ∧ SortedIn lt 0 d.size d' ∧ w' = grow (putRow enc (Sort.ahead w n) blk off d') os := Any.sort_Sort_sorted Tryz.laysGt11 T rv gn gl gs rN rL rS enc lt hO blk off d h2 hsz w hlen hless hswap hH hblk
def Tryz.laysGu48_ren : Go.Shelf.Ren := ⟨fun | 48 => 217 | n => n, fun | 27 => 65 | 3 => 3 | 9 => 9 | n => n, fun | n => n⟩
theorem Tryz.laysGu48 : Go.Proofs.LaysGu.n48 Tryz.prog Tryz.laysGu48_ren := {
  mixed := by kernel_rfl
  f48 := Tryz.func217.trans (congrArg some (by kernel_rfl))
  t3 := Tryz.underlying3
  a3 := Tryz.isAgg3
  z3 := Tryz.sizeOf3
  v3 := Tryz.zeroValue3
  i3 := by kernel_rfl
  t9 := Tryz.underlying9
  a9 := Tryz.isAgg9
  z9 := Tryz.sizeOf9
  v9 := Tryz.zeroValue9
  i9 := by kernel_rfl
  t27 := Tryz.underlying65
  a27 := Tryz.isAgg65
  z27 := Tryz.sizeOf65
  v27 := Tryz.zeroValue65
  i27 := by kernel_rfl }
open Go.RowKit Go.Lib Go.Sort in
theorem Tryz.StringSlice_Len (p : Option Addr) (n c : Nat) (W : World) :
    LenM Tryz.prog 217 (.slice p n c) n W := Any.StringSlice_Len Tryz.laysGu48 p n c W
def Tryz.laysGu49_ren : Go.Shelf.Ren := ⟨fun | 49 => 218 | n => n, fun | 27 => 65 | 3 => 3 | 4 => 4 | 0 => 0 | 9 => 9 | n => n, fun | n => n⟩
theorem Tryz.laysGu49 : Go.Proofs.LaysGu.n49 Tryz.prog Tryz.laysGu49_ren := {
  mixed := by kernel_rfl
  f49 := Tryz.func218.trans (congrArg some (by kernel_rfl))
  t0 := Tryz.underlying0
  a0 := Tryz.isAgg0
  z0 := Tryz.sizeOf0
  v0 := Tryz.zeroValue0
  i0 := by kernel_rfl
  t3 := Tryz.underlying3
  a3 := Tryz.isAgg3
  z3 := Tryz.sizeOf3
  v3 := Tryz.zeroValue3
  i3 := by kernel_rfl
  t4 := Tryz.underlying4
  a4 := Tryz.isAgg4
  z4 := Tryz.sizeOf4
  v4 := Tryz.zeroValue4
  i4 := by kernel_rfl
  t9 := Tryz.underlying9
  a9 := Tryz.isAgg9
  z9 := Tryz.sizeOf9
  v9 := Tryz.zeroValue9
  i9 := by kernel_rfl
  t27 := Tryz.underlying65
  a27 := Tryz.isAgg65
  z27 := Tryz.sizeOf65
  v27 := Tryz.zeroValue65
  i27 := by kernel_rfl }
def Tryz.laysGu51_ren : Go.Shelf.Ren := ⟨fun | 51 => 219 | n => n, fun | 27 => 65 | 3 => 3 | 0 => 0 | 9 => 9 | n => n, fun | n => n⟩
theorem Tryz.laysGu51 : Go.Proofs.LaysGu.n51 Tryz.prog Tryz.laysGu51_ren := {
  mixed := by kernel_rfl
  f51 := Tryz.func219.trans (congrArg some (by kernel_rfl))
  t0 := Tryz.underlying0
  a0 := Tryz.isAgg0
  z0 := Tryz.sizeOf0
  v0 := Tryz.zeroValue0
  i0 := by kernel_rfl
  t3 := Tryz.underlying3
  a3 := Tryz.isAgg3
  z3 := Tryz.sizeOf3
  v3 := Tryz.zeroValue3
  i3 := by kernel_rfl
  t9 := Tryz.underlying9
  a9 := Tryz.isAgg9
  z9 := Tryz.sizeOf9
  v9 := Tryz.zeroValue9
  i9 := by kernel_rfl
  t27 := Tryz.underlying65
  a27 := Tryz.isAgg65
  z27 := Tryz.sizeOf65
  v27 := Tryz.zeroValue65
  i27 := by kernel_rfl }
open Go.RowKit Go.Lib Go.Sort in
theorem Tryz.StringSlice_LessM (blk off c : Nat) (d : Array (List UInt8)) (w : World) (hH : Holds encS w blk off d) (hblk : blk < w.heap.size) (hsz : d.size < 4611686018427387904) :
    LessM Tryz.prog 218 (.slice (some ⟨blk, off, none⟩) d.size c) encS ltStr blk off d.size w := Any.StringSlice_LessM Tryz.laysGu49 blk off c d w hH hblk hsz
open Go.RowKit Go.Lib Go.Sort in
theorem Tryz.StringSlice_SwapM (blk off c size : Nat) (hsz : size < 4611686018427387904) :
    SwapM Tryz.prog 219 (.slice (some ⟨blk, off, none⟩) size c) encS blk off size := Any.StringSlice_SwapM Tryz.laysGu51 blk off c size hsz
end Go.Proofs
