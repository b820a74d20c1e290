/-
The library's contracts at this program, laid in plain words.
-/
import Derived.Shelf.Strconv.Itoa0
import Derived.Shelf.Strconv.Itoa1
import Derived.Shelf.LaysM
import Derived.Shelf.Strconv.Itoa2
import Derived.Shelf.Strconv.Itoa3
import Derived.Shelf.Strconv.Clone
import Derived.Shelf.Strconv.SyntaxError
import Derived.Shelf.LaysC
import Derived.Shelf.Strconv.ToError
import Derived.Shelf.Strconv.Lower
import Derived.Shelf.Bits.Mul64
import Derived.Test.YtdconkiilelaoaaDoorProg
namespace Go.Proofs
open Go.Shelf
def Tryd.laysC245_ren : Go.Shelf.Ren := ⟨fun | 245 => 76 | 279 => 81 | 280 => 82 | 281 => 83 | 282 => 84 | 316 => 89 | 171 => 90 | 205 => 69 | 243 => 93 | 246 => 107 | 283 => 122 | 284 => 123 | 285 => 124 | 286 => 125 | 129 => 111 | 317 => 130 | 318 => 115 | 319 => 131 | 320 => 132 | 337 => 135 | 338 => 136 | n => n, fun | 9 => 9 | 3 => 3 | 75 => 58 | 167 => 94 | 4 => 4 | 168 => 97 | 210 => 106 | 37 => 104 | 0 => 0 | 127 => 111 | 145 => 89 | 143 => 87 | 2 => 2 | 171 => 152 | 53 => 46 | 5 => 5 | 173 => 154 | 212 => 163 | 51 => 86 | 20 => 20 | 213 => 164 | 46 => 65 | 232 => 173 | 233 => 174 | 80 => 175 | n => n, fun | 15 => 1 | 16 => 2 | 17 => 10 | 18 => 12 | 19 => 13 | n => n⟩
theorem Tryd.laysC245 : Go.Proofs.LaysC.n245 Tryd.prog Tryd.laysC245_ren := {
  mixed := by kernel_rfl
  f129 := Tryd.func111.trans (congrArg some (by kernel_rfl))
  f171 := Tryd.func90.trans (congrArg some (by kernel_rfl))
  f205 := Tryd.func69.trans (congrArg some (by kernel_rfl))
  f243 := Tryd.func93.trans (congrArg some (by kernel_rfl))
  f245 := Tryd.func76.trans (congrArg some (by kernel_rfl))
  f246 := Tryd.func107.trans (congrArg some (by kernel_rfl))
  f279 := Tryd.func81.trans (congrArg some (by kernel_rfl))
  f280 := Tryd.func82.trans (congrArg some (by kernel_rfl))
  f281 := Tryd.func83.trans (congrArg some (by kernel_rfl))
  f282 := Tryd.func84.trans (congrArg some (by kernel_rfl))
  f283 := Tryd.func122.trans (congrArg some (by kernel_rfl))
  f284 := Tryd.func123.trans (congrArg some (by kernel_rfl))
  f285 := Tryd.func124.trans (congrArg some (by kernel_rfl))
  f286 := Tryd.func125.trans (congrArg some (by kernel_rfl))
  f316 := Tryd.func89.trans (congrArg some (by kernel_rfl))
  f317 := Tryd.func130.trans (congrArg some (by kernel_rfl))
  f318 := Tryd.func115.trans (congrArg some (by kernel_rfl))
  f319 := Tryd.func131.trans (congrArg some (by kernel_rfl))
  f320 := Tryd.func132.trans (congrArg some (by kernel_rfl))
  f337 := Tryd.func135.trans (congrArg some (by kernel_rfl))
  f338 := Tryd.func136.trans (congrArg some (by kernel_rfl))
  t0 := Tryd.underlying0
  a0 := Tryd.isAgg0
  z0 := Tryd.sizeOf0
  v0 := Tryd.zeroValue0
  t2 := Tryd.underlying2
  a2 := Tryd.isAgg2
  z2 := Tryd.sizeOf2
  v2 := Tryd.zeroValue2
  t3 := Tryd.underlying3
  a3 := Tryd.isAgg3
  z3 := Tryd.sizeOf3
  v3 := Tryd.zeroValue3
  t4 := Tryd.underlying4
  a4 := Tryd.isAgg4
  z4 := Tryd.sizeOf4
  v4 := Tryd.zeroValue4
  t5 := Tryd.underlying5
  a5 := Tryd.isAgg5
  z5 := Tryd.sizeOf5
  v5 := Tryd.zeroValue5
  t9 := Tryd.underlying9
  a9 := Tryd.isAgg9
  z9 := Tryd.sizeOf9
  v9 := Tryd.zeroValue9
  t20 := Tryd.underlying20
  a20 := Tryd.isAgg20
  z20 := Tryd.sizeOf20
  v20 := Tryd.zeroValue20
  t37 := Tryd.underlying104
  a37 := Tryd.isAgg104
  z37 := Tryd.sizeOf104
  v37 := Tryd.zeroValue104
  t46 := Tryd.underlying65
  a46 := Tryd.isAgg65
  z46 := Tryd.sizeOf65
  v46 := Tryd.zeroValue65
  t51 := Tryd.underlying86
  a51 := Tryd.isAgg86
  z51 := Tryd.sizeOf86
  v51 := Tryd.zeroValue86
  t53 := Tryd.underlying46
  a53 := Tryd.isAgg46
  z53 := Tryd.sizeOf46
  v53 := Tryd.zeroValue46
  t75 := Tryd.underlying58
  a75 := Tryd.isAgg58
  z75 := Tryd.sizeOf58
  v75 := Tryd.zeroValue58
  t127 := Tryd.underlying111
  a127 := Tryd.isAgg111
  z127 := Tryd.sizeOf111
  v127 := Tryd.zeroValue111
  t143 := Tryd.underlying87
  a143 := Tryd.isAgg87
  z143 := Tryd.sizeOf87
  v143 := Tryd.zeroValue87
  t145 := Tryd.underlying89
  a145 := Tryd.isAgg89
  z145 := Tryd.sizeOf89
  v145 := Tryd.zeroValue89
  t167 := Tryd.underlying94
  a167 := Tryd.isAgg94
  z167 := Tryd.sizeOf94
  v167 := Tryd.zeroValue94
  t168 := Tryd.underlying97
  a168 := Tryd.isAgg97
  z168 := Tryd.sizeOf97
  v168 := Tryd.zeroValue97
  t171 := Tryd.underlying152
  a171 := Tryd.isAgg152
  z171 := Tryd.sizeOf152
  v171 := Tryd.zeroValue152
  t173 := Tryd.underlying154
  a173 := Tryd.isAgg154
  z173 := Tryd.sizeOf154
  v173 := Tryd.zeroValue154
  t210 := Tryd.underlying106
  a210 := Tryd.isAgg106
  z210 := Tryd.sizeOf106
  v210 := Tryd.zeroValue106
  t212 := Tryd.underlying163
  a212 := Tryd.isAgg163
  z212 := Tryd.sizeOf163
  v212 := Tryd.zeroValue163
  t213 := Tryd.underlying164
  a213 := Tryd.isAgg164
  z213 := Tryd.sizeOf164
  t232 := Tryd.underlying173
  a232 := Tryd.isAgg173
  z232 := Tryd.sizeOf173
  v232 := Tryd.zeroValue173
  t233 := Tryd.underlying174
  a233 := Tryd.isAgg174
  z233 := Tryd.sizeOf174
  v233 := Tryd.zeroValue174
  g15 := by kernel_rfl
  g16 := by kernel_rfl
  g17 := by kernel_rfl
  g18 := by kernel_rfl
  g19 := by kernel_rfl
  t80 := Tryd.underlying175
  a80 := Tryd.isAgg175
  z80 := Tryd.sizeOf175
  v80 := Tryd.zeroValue175
  i0 := by kernel_rfl
  i2 := by kernel_rfl
  i3 := by kernel_rfl
  i4 := by kernel_rfl
  i5 := by kernel_rfl
  i9 := by kernel_rfl
  i20 := by kernel_rfl
  i37 := by kernel_rfl
  i46 := by kernel_rfl
  i51 := by kernel_rfl
  i53 := by kernel_rfl
  i75 := by kernel_rfl
  i80 := by kernel_rfl
  i127 := by kernel_rfl
  i143 := by kernel_rfl
  i145 := by kernel_rfl
  i167 := by kernel_rfl
  i168 := by kernel_rfl
  i171 := by kernel_rfl
  i173 := by kernel_rfl
  i210 := by kernel_rfl
  i212 := by kernel_rfl
  i232 := by kernel_rfl
  i233 := by kernel_rfl
  m15 := by kernel_rfl
  m16 := by kernel_rfl
  m17 := by kernel_rfl
  m18 := by kernel_rfl
  m19 := by kernel_rfl
  c0 := by kernel_rfl
  c2 := by kernel_rfl
  c3 := by kernel_rfl
  c4 := by kernel_rfl
  c5 := by kernel_rfl
  c9 := by kernel_rfl
  c20 := by kernel_rfl
  c37 := by kernel_rfl
  c46 := by kernel_rfl
  c51 := by kernel_rfl
  c53 := by kernel_rfl
  c75 := by kernel_rfl
  c80 := by kernel_rfl
  c127 := by kernel_rfl
  c143 := by kernel_rfl
  c145 := by kernel_rfl
  c167 := by kernel_rfl
  c168 := by kernel_rfl
  c171 := by kernel_rfl
  c173 := by kernel_rfl
  c210 := by kernel_rfl
  c212 := by kernel_rfl
  c213 := by kernel_rfl
  c232 := by kernel_rfl
  c233 := by kernel_rfl }
open Go.RowKit in
theorem Tryd.strconv_toError_syntax (fn s : ByteArray) (base bits : Int) (ev : Value) (w : World) (hlim : s.size ≤ 281474976710656) (hv : w.cell? ⟨1, 0, none⟩ = some ev) (hev : ev = .nilIface ∨ ∃ te pe, ev = .iface te pe) :
    Calls Tryd.prog 76 #[.string fn, .string s, .int .i64 base, .int .i64 bits, .iface 94 (.int .i64 2)] w fun e w' => ∃ N, e = .returned (.iface 97 (.pointer (some ⟨N, 0, none⟩))) ∧ w.heap.size ≤ N ∧ w'.heap[N]? = some (.cells #[.string fn, .string s, ev] 106 (0, 0)) ∧ Below w.heap.size w w' := Any.strconv_toError_syntax Tryd.laysC245 fn s base bits ev w hlim hv hev
def Tryd.lays321_ren : Go.Shelf.Ren := ⟨fun | 321 => 87 | n => n, fun | 5 => 5 | n => n, fun | n => n⟩
theorem Tryd.lays321 : Go.Proofs.Lays.n321 Tryd.prog Tryd.lays321_ren := {
  mixed := by kernel_rfl
  f321 := Tryd.func87.trans (congrArg some (by kernel_rfl))
  t5 := Tryd.underlying5
  a5 := Tryd.isAgg5
  z5 := Tryd.sizeOf5
  v5 := Tryd.zeroValue5 }
open Go.RowKit in
theorem Tryd.internal_strconv_lower (c : Int) (w : World) :
    Calls Tryd.prog 87 #[.int .u8 c] w fun e w' => e = .returned (.int .u8 (bits .or .u8 c 32)) ∧ w' = w := Any.internal_strconv_lower Tryd.lays321 c w
end Go.Proofs
