/-
The library's contracts at this program, laid in plain words.
-/
import Derived.Shelf.Strings.Builder1
import Derived.Shelf.Strings.Builder2
import Derived.Shelf.Strings.OnBuilder
import Derived.Shelf.Small.Utf8
import Derived.Shelf.Strings.BuilderF
import Derived.Shelf.Strings.BuilderK
import Derived.Shelf.Strings.BuilderRune
import Derived.Shelf.Utf8.AppendRune
import Derived.Shelf.Utf8.AppendRunePlain
import Derived.Shelf.Strings.Builder2Cap
import Derived.Shelf.Strconv.Itoa0
import Derived.Shelf.Strconv.Itoa1
import Derived.Shelf.LaysM
import Derived.Shelf.Strconv.Itoa2
import Derived.Shelf.Strconv.Itoa3
import Derived.Shelf.Strconv.Itoa4
import Derived.Shelf.Bytes.Len
import Derived.Shelf.Bytes.TryGrow
import Derived.Shelf.Bytes.GrowSliceCatch
import Derived.Shelf.Bytes.GrowSlice
import Derived.Shelf.Bytes.GrowRow0
import Derived.Shelf.Bytes.GrowRow
import Derived.Shelf.Bytes.GrowNil
import Derived.Shelf.Bytes.String
import Derived.Shelf.Bytes.Reset
import Derived.Shelf.Strconv.ParseIntEmpty
import Derived.Shelf.Strconv.Clone
import Derived.Shelf.Strconv.SyntaxError
import Derived.Shelf.LaysC
import Derived.Shelf.Strconv.ToError
import Derived.Shelf.Strconv.Lower
import Derived.Shelf.Strconv.ParseUint10
import Derived.Shelf.Strconv.ParseUint10Empty
import Derived.Shelf.Strconv.ParseUint10Any
import Derived.Shelf.Strconv.ParseInt10
import Derived.Shelf.Strconv.RangeError
import Derived.Shelf.Strconv.ToErrorRange
import Derived.Shelf.Strconv.ParseUintEmpty
import Derived.Shelf.Strconv.ParseUint10b64
import Derived.Shelf.Strconv.ParseUint10b32
import Derived.Shelf.Strconv.ParseUint10b16
import Derived.Shelf.Strconv.ParseUint10b8
import Derived.Shelf.Strconv.ParseUint10At
import Derived.Shelf.Strconv.ParseInt10At64
import Derived.Shelf.Strconv.ParseInt10At32
import Derived.Shelf.Strconv.ParseInt10At16
import Derived.Shelf.Strconv.ParseInt10At8
import Derived.Shelf.Strconv.ParseInt10All
import Derived.Shelf.Strconv.ParseIntPublic10
import Derived.Shelf.Bytes.GrowRow0Kept
import Derived.Shelf.Bytes.GrowRowKept
import Derived.Shelf.Bytes.GrowNilKept
import Derived.Shelf.Bytes.GrowKept
import Derived.Shelf.Bytes.WriteByteKept
import Derived.Shelf.Bytes.WriteStringKept
import Derived.Shelf.Bytes.ResetKept
import Derived.Shelf.Strings.LastIndex
import Derived.Shelf.Strings.LastIndexAll
import Derived.Shelf.Bytes.BufferK
import Derived.Shelf.Bytes.GrowRow0Own
import Derived.Shelf.Bytes.GrowRowOwn
import Derived.Shelf.Bytes.GrowNilOwn
import Derived.Ground.MzProg
import Derived.Shelf.Wr.WriteRuneAscii
import Derived.Shelf.Bytes.LenAt
import Derived.Shelf.Bytes.StringAt
import Derived.Shelf.Bytes.TryGrowAt
import Derived.Shelf.Bytes.GrowRow0At
import Derived.Shelf.Bytes.GrowRowAt
import Derived.Shelf.Bytes.GrowNilAt
import Derived.Shelf.Unicode.Latin
import Derived.Shelf.Unicode.Decode
import Derived.Shelf.Unicode.DecodeSlow
import Derived.Shelf.Unicode.DecodeAny
import Derived.Shelf.Unicode.Is16White
import Derived.Shelf.Unicode.IsSpaceAny
import Derived.Shelf.Unicode.Is16WhiteD
import Derived.Shelf.Unicode.CaseLookup
import Derived.Shelf.Unicode.CaseConvert
import Derived.Shelf.Unicode.CaseTo
import Derived.Shelf.Unicode.CaseLaid
import Derived.Shelf.Unicode.Is16Any
import Derived.Shelf.Unicode.Is32Any
import Derived.Shelf.Unicode.ExclAny
import Derived.Shelf.Strings.BuilderCap
import Derived.Ground.PaProg
import Derived.Shelf.Path.Small
import Derived.Test.YtaeddkndkmfdiaaDoorProg
namespace Go.Proofs
open Go.Shelf
def Tryd.laysM173_ren : Go.Shelf.Ren := ⟨fun | 173 => 68 | 246 => 92 | 283 => 114 | 284 => 115 | 285 => 116 | 286 => 117 | 129 => 137 | 317 => 136 | 318 => 138 | 319 => 139 | 320 => 140 | 337 => 160 | 338 => 161 | n => n, fun | 2 => 2 | 3 => 3 | 9 => 9 | 4 => 4 | 171 => 125 | 0 => 0 | 53 => 126 | 37 => 72 | 5 => 5 | 173 => 129 | 212 => 164 | 51 => 136 | 20 => 20 | 213 => 165 | 46 => 151 | 232 => 159 | 233 => 209 | n => n, fun | 17 => 4 | 18 => 9 | 19 => 10 | n => n⟩
theorem Tryd.laysM173 : Go.Proofs.LaysM.n173 Tryd.prog Tryd.laysM173_ren := {
  mixed := by kernel_rfl
  f129 := Tryd.func137.trans (congrArg some (by kernel_rfl))
  f173 := Tryd.func68.trans (congrArg some (by kernel_rfl))
  f246 := Tryd.func92.trans (congrArg some (by kernel_rfl))
  f283 := Tryd.func114.trans (congrArg some (by kernel_rfl))
  f284 := Tryd.func115.trans (congrArg some (by kernel_rfl))
  f285 := Tryd.func116.trans (congrArg some (by kernel_rfl))
  f286 := Tryd.func117.trans (congrArg some (by kernel_rfl))
  f317 := Tryd.func136.trans (congrArg some (by kernel_rfl))
  f318 := Tryd.func138.trans (congrArg some (by kernel_rfl))
  f319 := Tryd.func139.trans (congrArg some (by kernel_rfl))
  f320 := Tryd.func140.trans (congrArg some (by kernel_rfl))
  f337 := Tryd.func160.trans (congrArg some (by kernel_rfl))
  f338 := Tryd.func161.trans (congrArg some (by kernel_rfl))
  t0 := Tryd.underlying0
  a0 := Tryd.isAgg0
  z0 := Tryd.sizeOf0
  v0 := Tryd.zeroValue0
  t2 := Tryd.underlying2
  a2 := Tryd.isAgg2
  z2 := Tryd.sizeOf2
  v2 := Tryd.zeroValue2
  t3 := Tryd.underlying3
  a3 := Tryd.isAgg3
  z3 := Tryd.sizeOf3
  v3 := Tryd.zeroValue3
  t4 := Tryd.underlying4
  a4 := Tryd.isAgg4
  z4 := Tryd.sizeOf4
  v4 := Tryd.zeroValue4
  t5 := Tryd.underlying5
  a5 := Tryd.isAgg5
  z5 := Tryd.sizeOf5
  v5 := Tryd.zeroValue5
  t9 := Tryd.underlying9
  a9 := Tryd.isAgg9
  z9 := Tryd.sizeOf9
  v9 := Tryd.zeroValue9
  t20 := Tryd.underlying20
  a20 := Tryd.isAgg20
  z20 := Tryd.sizeOf20
  v20 := Tryd.zeroValue20
  t37 := Tryd.underlying72
  a37 := Tryd.isAgg72
  z37 := Tryd.sizeOf72
  v37 := Tryd.zeroValue72
  t46 := Tryd.underlying151
  a46 := Tryd.isAgg151
  z46 := Tryd.sizeOf151
  v46 := Tryd.zeroValue151
  t51 := Tryd.underlying136
  a51 := Tryd.isAgg136
  z51 := Tryd.sizeOf136
  v51 := Tryd.zeroValue136
  t53 := Tryd.underlying126
  a53 := Tryd.isAgg126
  z53 := Tryd.sizeOf126
  v53 := Tryd.zeroValue126
  t171 := Tryd.underlying125
  a171 := Tryd.isAgg125
  z171 := Tryd.sizeOf125
  v171 := Tryd.zeroValue125
  t173 := Tryd.underlying129
  a173 := Tryd.isAgg129
  z173 := Tryd.sizeOf129
  v173 := Tryd.zeroValue129
  t212 := Tryd.underlying164
  a212 := Tryd.isAgg164
  z212 := Tryd.sizeOf164
  v212 := Tryd.zeroValue164
  t213 := Tryd.underlying165
  a213 := Tryd.isAgg165
  z213 := Tryd.sizeOf165
  t232 := Tryd.underlying159
  a232 := Tryd.isAgg159
  z232 := Tryd.sizeOf159
  v232 := Tryd.zeroValue159
  t233 := Tryd.underlying209
  a233 := Tryd.isAgg209
  z233 := Tryd.sizeOf209
  v233 := Tryd.zeroValue209
  g17 := by kernel_rfl
  g18 := by kernel_rfl
  g19 := by kernel_rfl
  i0 := by kernel_rfl
  i2 := by kernel_rfl
  i3 := by kernel_rfl
  i4 := by kernel_rfl
  i5 := by kernel_rfl
  i9 := by kernel_rfl
  i20 := by kernel_rfl
  i37 := by kernel_rfl
  i46 := by kernel_rfl
  i51 := by kernel_rfl
  i53 := by kernel_rfl
  i171 := by kernel_rfl
  i173 := by kernel_rfl
  i212 := by kernel_rfl
  i232 := by kernel_rfl
  i233 := by kernel_rfl
  m17 := by kernel_rfl
  m18 := by kernel_rfl
  m19 := by kernel_rfl }
open Go.RowKit Go.Sort Go.Lib in
theorem Tryd.strconv_FormatInt_10 (n : Int) (h0 : -9223372036854775808 ≤ n) (h1 : n ≤ 9223372036854775807) (w : World) (htab : Lib.TabIs Tryd.prog w "internal/strconv.uint64pow10" .u64 Lib.pow10Tab) :
    Calls Tryd.prog 68 #[.int .i64 n, .int .i64 10] w fun e w' => e = .returned (.string ⟨(Lib.itoa n).toArray⟩) ∧ ∃ k os, w' = grow (w.drewN k) os := Any.strconv_FormatInt_10 Tryd.laysM173 n h0 h1 w htab
def Tryd.laysM182_ren : Go.Shelf.Ren := ⟨fun | 182 => 121 | n => n, fun | 130 => 168 | 9 => 9 | 4 => 4 | 0 => 0 | 93 => 134 | 37 => 72 | 3 => 3 | 91 => 132 | 5 => 5 | n => n, fun | n => n⟩
theorem Tryd.laysM182 : Go.Proofs.LaysM.n182 Tryd.prog Tryd.laysM182_ren := {
  mixed := by kernel_rfl
  f182 := Tryd.func121.trans (congrArg some (by kernel_rfl))
  t0 := Tryd.underlying0
  a0 := Tryd.isAgg0
  z0 := Tryd.sizeOf0
  v0 := Tryd.zeroValue0
  t3 := Tryd.underlying3
  a3 := Tryd.isAgg3
  z3 := Tryd.sizeOf3
  v3 := Tryd.zeroValue3
  t4 := Tryd.underlying4
  a4 := Tryd.isAgg4
  z4 := Tryd.sizeOf4
  v4 := Tryd.zeroValue4
  t9 := Tryd.underlying9
  a9 := Tryd.isAgg9
  z9 := Tryd.sizeOf9
  v9 := Tryd.zeroValue9
  t37 := Tryd.underlying72
  a37 := Tryd.isAgg72
  z37 := Tryd.sizeOf72
  v37 := Tryd.zeroValue72
  t93 := Tryd.underlying134
  a93 := Tryd.isAgg134
  z93 := Tryd.sizeOf134
  v93 := Tryd.zeroValue134
  t130 := Tryd.underlying168
  a130 := Tryd.isAgg168
  z130 := Tryd.sizeOf168
  v130 := Tryd.zeroValue168
  t5 := Tryd.underlying5
  a5 := Tryd.isAgg5
  z5 := Tryd.sizeOf5
  v5 := Tryd.zeroValue5
  t91 := Tryd.underlying132
  a91 := Tryd.isAgg132
  z91 := Tryd.sizeOf132
  v91 := Tryd.zeroValue132
  i0 := by kernel_rfl
  i3 := by kernel_rfl
  i4 := by kernel_rfl
  i5 := by kernel_rfl
  i9 := by kernel_rfl
  i37 := by kernel_rfl
  i91 := by kernel_rfl
  i93 := by kernel_rfl
  i130 := by kernel_rfl }
open Go.RowKit in
theorem Tryd.Buffer_String (B b : Nat) (l : List UInt8) (w : World) (h : Lib.IsBuffer 134 5 B b (Lib.byteCells l) w) :
    Calls Tryd.prog 121 #[.pointer (some ⟨b, 0, none⟩)] w fun e w' => e = .returned (.string ⟨l.toArray⟩) ∧ ∃ n, w' = w.drewN n := Any.Buffer_String Tryd.laysM182 B b l w h
def Tryd.laysC174_ren : Go.Shelf.Ren := ⟨fun | 174 => 112 | 247 => 132 | 245 => 133 | 287 => 153 | 279 => 154 | 280 => 155 | 281 => 156 | 282 => 157 | 321 => 166 | 322 => 167 | 316 => 168 | 171 => 128 | 205 => 169 | 243 => 151 | 246 => 92 | 283 => 114 | 284 => 115 | 285 => 116 | 286 => 117 | 129 => 137 | 317 => 136 | 318 => 138 | 319 => 139 | 320 => 140 | 337 => 160 | 338 => 161 | n => n, fun | 9 => 9 | 3 => 3 | 2 => 2 | 75 => 87 | 85 => 121 | 4 => 4 | 167 => 186 | 5 => 5 | 53 => 126 | 175 => 187 | 46 => 151 | 168 => 189 | 37 => 72 | 0 => 0 | 210 => 207 | 21 => 21 | 127 => 120 | 145 => 212 | 143 => 210 | 171 => 125 | 173 => 129 | 212 => 164 | 51 => 136 | 20 => 20 | 213 => 165 | 232 => 159 | 233 => 209 | 80 => 90 | n => n, fun | 15 => 7 | 16 => 8 | 17 => 4 | 18 => 9 | 19 => 10 | n => n⟩
theorem Tryd.laysC174 : Go.Proofs.LaysC.n174 Tryd.prog Tryd.laysC174_ren := {
  mixed := by kernel_rfl
  f129 := Tryd.func137.trans (congrArg some (by kernel_rfl))
  f171 := Tryd.func128.trans (congrArg some (by kernel_rfl))
  f174 := Tryd.func112.trans (congrArg some (by kernel_rfl))
  f205 := Tryd.func169.trans (congrArg some (by kernel_rfl))
  f243 := Tryd.func151.trans (congrArg some (by kernel_rfl))
  f245 := Tryd.func133.trans (congrArg some (by kernel_rfl))
  f246 := Tryd.func92.trans (congrArg some (by kernel_rfl))
  f247 := Tryd.func132.trans (congrArg some (by kernel_rfl))
  f279 := Tryd.func154.trans (congrArg some (by kernel_rfl))
  f280 := Tryd.func155.trans (congrArg some (by kernel_rfl))
  f281 := Tryd.func156.trans (congrArg some (by kernel_rfl))
  f282 := Tryd.func157.trans (congrArg some (by kernel_rfl))
  f283 := Tryd.func114.trans (congrArg some (by kernel_rfl))
  f284 := Tryd.func115.trans (congrArg some (by kernel_rfl))
  f285 := Tryd.func116.trans (congrArg some (by kernel_rfl))
  f286 := Tryd.func117.trans (congrArg some (by kernel_rfl))
  f287 := Tryd.func153.trans (congrArg some (by kernel_rfl))
  f316 := Tryd.func168.trans (congrArg some (by kernel_rfl))
  f317 := Tryd.func136.trans (congrArg some (by kernel_rfl))
  f318 := Tryd.func138.trans (congrArg some (by kernel_rfl))
  f319 := Tryd.func139.trans (congrArg some (by kernel_rfl))
  f320 := Tryd.func140.trans (congrArg some (by kernel_rfl))
  f321 := Tryd.func166.trans (congrArg some (by kernel_rfl))
  f322 := Tryd.func167.trans (congrArg some (by kernel_rfl))
  f337 := Tryd.func160.trans (congrArg some (by kernel_rfl))
  f338 := Tryd.func161.trans (congrArg some (by kernel_rfl))
  t0 := Tryd.underlying0
  a0 := Tryd.isAgg0
  z0 := Tryd.sizeOf0
  v0 := Tryd.zeroValue0
  t2 := Tryd.underlying2
  a2 := Tryd.isAgg2
  z2 := Tryd.sizeOf2
  v2 := Tryd.zeroValue2
  t3 := Tryd.underlying3
  a3 := Tryd.isAgg3
  z3 := Tryd.sizeOf3
  v3 := Tryd.zeroValue3
  t4 := Tryd.underlying4
  a4 := Tryd.isAgg4
  z4 := Tryd.sizeOf4
  v4 := Tryd.zeroValue4
  t5 := Tryd.underlying5
  a5 := Tryd.isAgg5
  z5 := Tryd.sizeOf5
  v5 := Tryd.zeroValue5
  t9 := Tryd.underlying9
  a9 := Tryd.isAgg9
  z9 := Tryd.sizeOf9
  v9 := Tryd.zeroValue9
  t20 := Tryd.underlying20
  a20 := Tryd.isAgg20
  z20 := Tryd.sizeOf20
  v20 := Tryd.zeroValue20
  t21 := Tryd.underlying21
  a21 := Tryd.isAgg21
  z21 := Tryd.sizeOf21
  v21 := Tryd.zeroValue21
  t37 := Tryd.underlying72
  a37 := Tryd.isAgg72
  z37 := Tryd.sizeOf72
  v37 := Tryd.zeroValue72
  t46 := Tryd.underlying151
  a46 := Tryd.isAgg151
  z46 := Tryd.sizeOf151
  v46 := Tryd.zeroValue151
  t51 := Tryd.underlying136
  a51 := Tryd.isAgg136
  z51 := Tryd.sizeOf136
  v51 := Tryd.zeroValue136
  t53 := Tryd.underlying126
  a53 := Tryd.isAgg126
  z53 := Tryd.sizeOf126
  v53 := Tryd.zeroValue126
  t75 := Tryd.underlying87
  a75 := Tryd.isAgg87
  z75 := Tryd.sizeOf87
  v75 := Tryd.zeroValue87
  t85 := Tryd.underlying121
  a85 := Tryd.isAgg121
  z85 := Tryd.sizeOf121
  v85 := Tryd.zeroValue121
  t127 := Tryd.underlying120
  a127 := Tryd.isAgg120
  z127 := Tryd.sizeOf120
  v127 := Tryd.zeroValue120
  t143 := Tryd.underlying210
  a143 := Tryd.isAgg210
  z143 := Tryd.sizeOf210
  v143 := Tryd.zeroValue210
  t145 := Tryd.underlying212
  a145 := Tryd.isAgg212
  z145 := Tryd.sizeOf212
  v145 := Tryd.zeroValue212
  t167 := Tryd.underlying186
  a167 := Tryd.isAgg186
  z167 := Tryd.sizeOf186
  v167 := Tryd.zeroValue186
  t168 := Tryd.underlying189
  a168 := Tryd.isAgg189
  z168 := Tryd.sizeOf189
  v168 := Tryd.zeroValue189
  t171 := Tryd.underlying125
  a171 := Tryd.isAgg125
  z171 := Tryd.sizeOf125
  v171 := Tryd.zeroValue125
  t173 := Tryd.underlying129
  a173 := Tryd.isAgg129
  z173 := Tryd.sizeOf129
  v173 := Tryd.zeroValue129
  t175 := Tryd.underlying187
  a175 := Tryd.isAgg187
  z175 := Tryd.sizeOf187
  v175 := Tryd.zeroValue187
  t210 := Tryd.underlying207
  a210 := Tryd.isAgg207
  z210 := Tryd.sizeOf207
  v210 := Tryd.zeroValue207
  t212 := Tryd.underlying164
  a212 := Tryd.isAgg164
  z212 := Tryd.sizeOf164
  v212 := Tryd.zeroValue164
  t213 := Tryd.underlying165
  a213 := Tryd.isAgg165
  z213 := Tryd.sizeOf165
  t232 := Tryd.underlying159
  a232 := Tryd.isAgg159
  z232 := Tryd.sizeOf159
  v232 := Tryd.zeroValue159
  t233 := Tryd.underlying209
  a233 := Tryd.isAgg209
  z233 := Tryd.sizeOf209
  v233 := Tryd.zeroValue209
  g15 := by kernel_rfl
  g16 := by kernel_rfl
  g17 := by kernel_rfl
  g18 := by kernel_rfl
  g19 := by kernel_rfl
  t80 := Tryd.underlying90
  a80 := Tryd.isAgg90
  z80 := Tryd.sizeOf90
  v80 := Tryd.zeroValue90
  i0 := by kernel_rfl
  i2 := by kernel_rfl
  i3 := by kernel_rfl
  i4 := by kernel_rfl
  i5 := by kernel_rfl
  i9 := by kernel_rfl
  i20 := by kernel_rfl
  i21 := by kernel_rfl
  i37 := by kernel_rfl
  i46 := by kernel_rfl
  i51 := by kernel_rfl
  i53 := by kernel_rfl
  i75 := by kernel_rfl
  i80 := by kernel_rfl
  i85 := by kernel_rfl
  i127 := by kernel_rfl
  i143 := by kernel_rfl
  i145 := by kernel_rfl
  i167 := by kernel_rfl
  i168 := by kernel_rfl
  i171 := by kernel_rfl
  i173 := by kernel_rfl
  i175 := by kernel_rfl
  i210 := by kernel_rfl
  i212 := by kernel_rfl
  i232 := by kernel_rfl
  i233 := by kernel_rfl
  m15 := by kernel_rfl
  m16 := by kernel_rfl
  m17 := by kernel_rfl
  m18 := by kernel_rfl
  m19 := by kernel_rfl
  c0 := by kernel_rfl
  c2 := by kernel_rfl
  c3 := by kernel_rfl
  c4 := by kernel_rfl
  c5 := by kernel_rfl
  c9 := by kernel_rfl
  c20 := by kernel_rfl
  c21 := by kernel_rfl
  c37 := by kernel_rfl
  c46 := by kernel_rfl
  c51 := by kernel_rfl
  c53 := by kernel_rfl
  c75 := by kernel_rfl
  c80 := by kernel_rfl
  c85 := by kernel_rfl
  c127 := by kernel_rfl
  c143 := by kernel_rfl
  c145 := by kernel_rfl
  c167 := by kernel_rfl
  c168 := by kernel_rfl
  c171 := by kernel_rfl
  c173 := by kernel_rfl
  c175 := by kernel_rfl
  c210 := by kernel_rfl
  c212 := by kernel_rfl
  c213 := by kernel_rfl
  c232 := by kernel_rfl
  c233 := by kernel_rfl }
open Go.RowKit in
theorem Tryd.strconv_ParseInt_10_at64_ok (s : ByteArray) (hmax : s.size ≤ 9223372036854775806) (v : Int) (h : Lib.parseIntB 64 s.data.toList = .ok v) (w : World) :
    Calls Tryd.prog 112 #[.string s, .int .i64 10, .int .i64 64] w fun e w' => e = .returned (.tuple #[.int .i64 v, .nilIface]) ∧ (w' = w ∨ ∃ t, w' = Lib.bytesWorld w 5 t) := Any.strconv_ParseInt_10_at64_ok Tryd.laysC174 s hmax v h w
def Tryd.laysWr5_ren : Go.Shelf.Ren := ⟨fun | 5 => 122 | 7 => 145 | 8 => 143 | 9 => 144 | 10 => 130 | 11 => 163 | 12 => 164 | 13 => 165 | 14 => 152 | 15 => 170 | n => n, fun | 34 => 168 | 21 => 21 | 3 => 3 | 28 => 87 | 35 => 136 | 4 => 4 | 5 => 5 | 0 => 0 | 26 => 134 | 24 => 132 | 37 => 169 | 22 => 72 | 43 => 151 | 20 => 20 | 31 => 90 | 9 => 9 | n => n, fun | 0 => 6 | n => n⟩
theorem Tryd.laysWr5 : Go.Proofs.LaysWr.n5 Tryd.prog Tryd.laysWr5_ren := {
  mixed := by kernel_rfl
  f5 := Tryd.func122.trans (congrArg some (by kernel_rfl))
  f7 := Tryd.func145.trans (congrArg some (by kernel_rfl))
  f8 := Tryd.func143.trans (congrArg some (by kernel_rfl))
  f9 := Tryd.func144.trans (congrArg some (by kernel_rfl))
  f10 := Tryd.func130.trans (congrArg some (by kernel_rfl))
  f11 := Tryd.func163.trans (congrArg some (by kernel_rfl))
  f12 := Tryd.func164.trans (congrArg some (by kernel_rfl))
  f13 := Tryd.func165.trans (congrArg some (by kernel_rfl))
  f14 := Tryd.func152.trans (congrArg some (by kernel_rfl))
  f15 := Tryd.func170.trans (congrArg some (by kernel_rfl))
  t0 := Tryd.underlying0
  a0 := Tryd.isAgg0
  z0 := Tryd.sizeOf0
  v0 := Tryd.zeroValue0
  i0 := by kernel_rfl
  t3 := Tryd.underlying3
  a3 := Tryd.isAgg3
  z3 := Tryd.sizeOf3
  v3 := Tryd.zeroValue3
  i3 := by kernel_rfl
  t4 := Tryd.underlying4
  a4 := Tryd.isAgg4
  z4 := Tryd.sizeOf4
  v4 := Tryd.zeroValue4
  i4 := by kernel_rfl
  t5 := Tryd.underlying5
  a5 := Tryd.isAgg5
  z5 := Tryd.sizeOf5
  v5 := Tryd.zeroValue5
  i5 := by kernel_rfl
  t9 := Tryd.underlying9
  a9 := Tryd.isAgg9
  z9 := Tryd.sizeOf9
  v9 := Tryd.zeroValue9
  i9 := by kernel_rfl
  t20 := Tryd.underlying20
  a20 := Tryd.isAgg20
  z20 := Tryd.sizeOf20
  v20 := Tryd.zeroValue20
  i20 := by kernel_rfl
  t21 := Tryd.underlying21
  a21 := Tryd.isAgg21
  z21 := Tryd.sizeOf21
  v21 := Tryd.zeroValue21
  i21 := by kernel_rfl
  t22 := Tryd.underlying72
  a22 := Tryd.isAgg72
  z22 := Tryd.sizeOf72
  v22 := Tryd.zeroValue72
  i22 := by kernel_rfl
  t24 := Tryd.underlying132
  a24 := Tryd.isAgg132
  z24 := Tryd.sizeOf132
  v24 := Tryd.zeroValue132
  i24 := by kernel_rfl
  t26 := Tryd.underlying134
  a26 := Tryd.isAgg134
  z26 := Tryd.sizeOf134
  v26 := Tryd.zeroValue134
  i26 := by kernel_rfl
  t28 := Tryd.underlying87
  a28 := Tryd.isAgg87
  z28 := Tryd.sizeOf87
  v28 := Tryd.zeroValue87
  i28 := by kernel_rfl
  t31 := Tryd.underlying90
  a31 := Tryd.isAgg90
  z31 := Tryd.sizeOf90
  v31 := Tryd.zeroValue90
  i31 := by kernel_rfl
  t34 := Tryd.underlying168
  a34 := Tryd.isAgg168
  z34 := Tryd.sizeOf168
  v34 := Tryd.zeroValue168
  i34 := by kernel_rfl
  t35 := Tryd.underlying136
  a35 := Tryd.isAgg136
  z35 := Tryd.sizeOf136
  v35 := Tryd.zeroValue136
  i35 := by kernel_rfl
  t37 := Tryd.underlying169
  a37 := Tryd.isAgg169
  z37 := Tryd.sizeOf169
  v37 := Tryd.zeroValue169
  i37 := by kernel_rfl
  t43 := Tryd.underlying151
  a43 := Tryd.isAgg151
  z43 := Tryd.sizeOf151
  v43 := Tryd.zeroValue151
  i43 := by kernel_rfl
  g0 := by kernel_rfl
  m0 := by kernel_rfl }
open Go.RowKit in
theorem Tryd.Buffer_WriteRune_ascii (B b : Nat) (bs : List Value) (r : Int) (h0 : 0 ≤ r) (h128 : r < 128) (w : World) (h : Lib.IsBuffer 134 5 B b bs w) (hBw : B ≤ w.heap.size) (h1 : ∀ v ∈ bs, v.oneCell' = true) (hlim : bs.length + 1 ≤ 140737488355328) :
    Calls Tryd.prog 122 #[.pointer (some ⟨b, 0, none⟩), .int .i32 r] w fun e w' => e = .returned (.tuple #[.int .i64 1, .nilIface]) ∧ Lib.IsBuffer 134 5 B b (bs ++ [.int .u8 r]) w' ∧ Below B w w' ∧ Lib.OthersKept 5 (some b) w w' := Any.Buffer_WriteRune_ascii Tryd.laysWr5 B b bs r h0 h128 w h hBw h1 hlim
def Tryd.lays199_ren : Go.Shelf.Ren := ⟨fun | 199 => 97 | 261 => 123 | 311 => 146 | 312 => 147 | n => n, fun | 21 => 21 | 4 => 4 | 51 => 136 | 141 => 138 | 0 => 0 | 196 => 174 | 193 => 171 | 3 => 3 | 198 => 177 | 49 => 175 | 194 => 172 | 201 => 180 | 226 => 199 | 46 => 151 | 227 => 200 | n => n, fun | 6 => 0 | n => n⟩
theorem Tryd.lays199 : Go.Proofs.Lays.n199 Tryd.prog Tryd.lays199_ren := {
  mixed := by kernel_rfl
  f199 := Tryd.func97.trans (congrArg some (by kernel_rfl))
  f261 := Tryd.func123.trans (congrArg some (by kernel_rfl))
  f311 := Tryd.func146.trans (congrArg some (by kernel_rfl))
  f312 := Tryd.func147.trans (congrArg some (by kernel_rfl))
  t0 := Tryd.underlying0
  a0 := Tryd.isAgg0
  z0 := Tryd.sizeOf0
  v0 := Tryd.zeroValue0
  t3 := Tryd.underlying3
  a3 := Tryd.isAgg3
  z3 := Tryd.sizeOf3
  v3 := Tryd.zeroValue3
  t4 := Tryd.underlying4
  a4 := Tryd.isAgg4
  z4 := Tryd.sizeOf4
  v4 := Tryd.zeroValue4
  t21 := Tryd.underlying21
  a21 := Tryd.isAgg21
  z21 := Tryd.sizeOf21
  v21 := Tryd.zeroValue21
  t46 := Tryd.underlying151
  a46 := Tryd.isAgg151
  z46 := Tryd.sizeOf151
  v46 := Tryd.zeroValue151
  t49 := Tryd.underlying175
  a49 := Tryd.isAgg175
  z49 := Tryd.sizeOf175
  v49 := Tryd.zeroValue175
  t51 := Tryd.underlying136
  a51 := Tryd.isAgg136
  z51 := Tryd.sizeOf136
  v51 := Tryd.zeroValue136
  t141 := Tryd.underlying138
  a141 := Tryd.isAgg138
  z141 := Tryd.sizeOf138
  v141 := Tryd.zeroValue138
  t193 := Tryd.underlying171
  a193 := Tryd.isAgg171
  z193 := Tryd.sizeOf171
  v193 := Tryd.zeroValue171
  t194 := Tryd.underlying172
  a194 := Tryd.isAgg172
  z194 := Tryd.sizeOf172
  v194 := Tryd.zeroValue172
  t196 := Tryd.underlying174
  a196 := Tryd.isAgg174
  z196 := Tryd.sizeOf174
  v196 := Tryd.zeroValue174
  t198 := Tryd.underlying177
  a198 := Tryd.isAgg177
  z198 := Tryd.sizeOf177
  v198 := Tryd.zeroValue177
  t201 := Tryd.underlying180
  a201 := Tryd.isAgg180
  z201 := Tryd.sizeOf180
  v201 := Tryd.zeroValue180
  t226 := Tryd.underlying199
  a226 := Tryd.isAgg199
  z226 := Tryd.sizeOf199
  v226 := Tryd.zeroValue199
  t227 := Tryd.underlying200
  a227 := Tryd.isAgg200
  z227 := Tryd.sizeOf200
  v227 := Tryd.zeroValue200
  g6 := by kernel_rfl }
open Go.RowKit Go.Lib in
theorem Tryd.unicode_IsSpace (r : Int) (w : World) (h0 : 0 ≤ r) (h : r ≤ 255) :
    Calls Tryd.prog 97 #[.int .i32 r] w fun e w' => e = .returned (.bool (Lib.isSpaceL r)) ∧ w' = w := Any.unicode_IsSpace Tryd.lays199 r w h0 h
def Tryd.lays204_ren : Go.Shelf.Ren := ⟨fun | 204 => 79 | 262 => 98 | 313 => 124 | 274 => 148 | 275 => 149 | n => n, fun | 21 => 21 | 4 => 4 | 3 => 3 | 162 => 140 | 203 => 82 | 160 => 182 | 46 => 151 | 0 => 0 | 208 => 204 | 51 => 136 | 206 => 202 | n => n, fun | 13 => 1 | n => n⟩
theorem Tryd.lays204 : Go.Proofs.Lays.n204 Tryd.prog Tryd.lays204_ren := {
  mixed := by kernel_rfl
  f204 := Tryd.func79.trans (congrArg some (by kernel_rfl))
  f262 := Tryd.func98.trans (congrArg some (by kernel_rfl))
  f274 := Tryd.func148.trans (congrArg some (by kernel_rfl))
  f275 := Tryd.func149.trans (congrArg some (by kernel_rfl))
  f313 := Tryd.func124.trans (congrArg some (by kernel_rfl))
  t0 := Tryd.underlying0
  a0 := Tryd.isAgg0
  z0 := Tryd.sizeOf0
  v0 := Tryd.zeroValue0
  t3 := Tryd.underlying3
  a3 := Tryd.isAgg3
  z3 := Tryd.sizeOf3
  v3 := Tryd.zeroValue3
  t4 := Tryd.underlying4
  a4 := Tryd.isAgg4
  z4 := Tryd.sizeOf4
  v4 := Tryd.zeroValue4
  t21 := Tryd.underlying21
  a21 := Tryd.isAgg21
  z21 := Tryd.sizeOf21
  v21 := Tryd.zeroValue21
  t46 := Tryd.underlying151
  a46 := Tryd.isAgg151
  z46 := Tryd.sizeOf151
  v46 := Tryd.zeroValue151
  t51 := Tryd.underlying136
  a51 := Tryd.isAgg136
  z51 := Tryd.sizeOf136
  v51 := Tryd.zeroValue136
  t160 := Tryd.underlying182
  a160 := Tryd.isAgg182
  z160 := Tryd.sizeOf182
  v160 := Tryd.zeroValue182
  t162 := Tryd.underlying140
  a162 := Tryd.isAgg140
  z162 := Tryd.sizeOf140
  v162 := Tryd.zeroValue140
  t203 := Tryd.underlying82
  a203 := Tryd.isAgg82
  z203 := Tryd.sizeOf82
  v203 := Tryd.zeroValue82
  t206 := Tryd.underlying202
  a206 := Tryd.isAgg202
  z206 := Tryd.sizeOf202
  v206 := Tryd.zeroValue202
  t208 := Tryd.underlying204
  a208 := Tryd.isAgg204
  z208 := Tryd.sizeOf204
  v208 := Tryd.zeroValue204
  g13 := by kernel_rfl }
open Go.RowKit Go.Lib in
theorem Tryd.unicode_ToLower (r : Int) (w : World) (h : r ≤ 127) :
    Calls Tryd.prog 79 #[.int .i32 r] w fun e w' => e = .returned (.int .i32 (Lib.toLowerR r)) ∧ w' = w := Any.unicode_ToLower Tryd.lays204 r w h
end Go.Proofs
