/-
The library's contracts at this program, laid in plain words.
-/
import Derived.Shelf.Strings.Builder1
import Derived.Shelf.Strings.Builder2
import Derived.Shelf.Strings.BuilderF
import Derived.Shelf.Strings.BuilderK
import Derived.Shelf.Strings.BuilderRune
import Derived.Shelf.Utf8.AppendRune
import Derived.Shelf.Utf8.RuneCount
import Derived.Shelf.Strings.Builder2Cap
import Derived.Shelf.Unicode.Props
import Derived.Shelf.LaysM
import Derived.Shelf.Unicode.PropsLaid
import Derived.Shelf.Strings.RuneCount
import Derived.Shelf.Unicode.DecodeSlow
import Derived.Shelf.Unicode.DecodeAny
import Derived.Shelf.Unicode.Is16White
import Derived.Shelf.Unicode.IsSpaceAny
import Derived.Shelf.Unicode.Is16Any
import Derived.Shelf.Unicode.Is32Any
import Derived.Shelf.Unicode.ExclAny
import Derived.Shelf.Unicode.PredsAny
import Derived.Shelf.Unicode.PredsPay
import Derived.Test.YtbcccmoddbmffaaDoorProg
namespace Go.Proofs
open Go.Shelf
def Tryd.lays240_ren : Go.Shelf.Ren := ⟨fun | 0 => 0 | 1 => 1 | 2 => 2 | 165 => 70 | 166 => 71 | 168 => 75 | 169 => 73 | 195 => 68 | 197 => 66 | 200 => 86 | 240 => 83 | 241 => 84 | 242 => 85 | 260 => 82 | 261 => 95 | 276 => 92 | 277 => 93 | 278 => 94 | 311 => 96 | 312 => 97 | 347 => 98 | 348 => 99 | 349 => 100 | 350 => 101 | 351 => 102 | 352 => 103 | 353 => 104 | 354 => 105 | 355 => 106 | 356 => 107 | 357 => 108 | 358 => 109 | 359 => 110 | 360 => 111 | 361 => 112 | 362 => 113 | 366 => 115 | 367 => 122 | n => n, fun | 0 => 0 | 1 => 1 | 2 => 2 | 3 => 3 | 4 => 4 | 5 => 5 | 6 => 6 | 7 => 7 | 8 => 8 | 9 => 9 | 10 => 10 | 11 => 11 | 12 => 12 | 13 => 13 | 14 => 14 | 15 => 15 | 16 => 16 | 17 => 17 | 18 => 18 | 19 => 19 | 20 => 20 | 21 => 21 | 22 => 26 | 23 => 40 | 24 => 27 | 26 => 35 | 27 => 46 | 31 => 37 | 37 => 59 | 39 => 74 | 40 => 57 | 41 => 56 | 46 => 96 | 49 => 117 | 51 => 103 | 68 => 38 | 69 => 23 | 70 => 62 | 71 => 63 | 72 => 64 | 73 => 65 | 74 => 66 | 75 => 67 | 76 => 68 | 77 => 69 | 79 => 73 | 80 => 71 | 81 => 131 | 101 => 39 | 103 => 24 | 104 => 33 | 105 => 60 | 106 => 61 | 119 => 95 | 126 => 81 | 127 => 80 | 137 => 97 | 138 => 98 | 139 => 99 | 140 => 104 | 141 => 105 | 164 => 100 | 165 => 101 | 166 => 102 | 193 => 113 | 194 => 114 | 195 => 115 | 196 => 116 | 197 => 118 | 198 => 119 | 199 => 120 | 200 => 121 | 201 => 122 | 202 => 123 | 203 => 77 | 226 => 124 | 227 => 125 | 238 => 126 | 239 => 127 | 240 => 128 | 241 => 129 | 242 => 130 | 243 => 132 | 244 => 133 | 245 => 134 | 246 => 135 | 247 => 136 | 248 => 137 | 249 => 138 | n => n, fun | 1 => 4 | 3 => 0 | 4 => 1 | 7 => 2 | 8 => 3 | n => n⟩
theorem Tryd.lays240 : Go.Proofs.Lays.n240 Tryd.prog Tryd.lays240_ren := {
  mixed := by kernel_rfl
  f240 := Tryd.func83.trans (congrArg some (by kernel_rfl))
  f276 := Tryd.func92.trans (congrArg some (by kernel_rfl))
  t0 := Tryd.underlying0
  a0 := Tryd.isAgg0
  z0 := Tryd.sizeOf0
  v0 := Tryd.zeroValue0
  t4 := Tryd.underlying4
  a4 := Tryd.isAgg4
  z4 := Tryd.sizeOf4
  v4 := Tryd.zeroValue4
  t9 := Tryd.underlying9
  a9 := Tryd.isAgg9
  z9 := Tryd.sizeOf9
  v9 := Tryd.zeroValue9
  t20 := Tryd.underlying20
  a20 := Tryd.isAgg20
  z20 := Tryd.sizeOf20
  v20 := Tryd.zeroValue20
  t70 := Tryd.underlying62
  a70 := Tryd.isAgg62
  z70 := Tryd.sizeOf62
  v70 := Tryd.zeroValue62
  t72 := Tryd.underlying64
  a72 := Tryd.isAgg64
  z72 := Tryd.sizeOf64
  v72 := Tryd.zeroValue64
  t164 := Tryd.underlying100
  a164 := Tryd.isAgg100
  z164 := Tryd.sizeOf100
  v164 := Tryd.zeroValue100 }
theorem Tryd.Builder_X72_240 : Builder.X72 Tryd.prog Tryd.lays240_ren := {
  sizeBuilder := by kernel_rfl
  liesBuilder := by kernel_rfl }
open Go.RowKit in
theorem Tryd.Builder_copyCheck (B b : Nat) (bs : List Value) (w : World) (h : Lib.IsBuilder 64 5 B b bs w) :
    Calls Tryd.prog 83 #[.pointer (some ⟨b, 0, none⟩)] w fun e w' => e = .returned (.tuple #[]) ∧ (Lib.BuilderAt 64 5 B b (.pointer (some ⟨b, 0, none⟩)) bs w' ∧ Below B w w') := Any.Builder_copyCheck Tryd.lays240 Tryd.Builder_X72_240 B b bs w h
def Tryd.lays166_ren : Go.Shelf.Ren := ⟨fun | 0 => 0 | 1 => 1 | 2 => 2 | 165 => 70 | 166 => 71 | 168 => 75 | 169 => 73 | 195 => 68 | 197 => 66 | 200 => 86 | 240 => 83 | 241 => 84 | 242 => 85 | 260 => 82 | 261 => 95 | 276 => 92 | 277 => 93 | 278 => 94 | 311 => 96 | 312 => 97 | 347 => 98 | 348 => 99 | 349 => 100 | 350 => 101 | 351 => 102 | 352 => 103 | 353 => 104 | 354 => 105 | 355 => 106 | 356 => 107 | 357 => 108 | 358 => 109 | 359 => 110 | 360 => 111 | 361 => 112 | 362 => 113 | 366 => 115 | 367 => 122 | n => n, fun | 0 => 0 | 1 => 1 | 2 => 2 | 3 => 3 | 4 => 4 | 5 => 5 | 6 => 6 | 7 => 7 | 8 => 8 | 9 => 9 | 10 => 10 | 11 => 11 | 12 => 12 | 13 => 13 | 14 => 14 | 15 => 15 | 16 => 16 | 17 => 17 | 18 => 18 | 19 => 19 | 20 => 20 | 21 => 21 | 22 => 26 | 23 => 40 | 24 => 27 | 26 => 35 | 27 => 46 | 31 => 37 | 37 => 59 | 39 => 74 | 40 => 57 | 41 => 56 | 46 => 96 | 49 => 117 | 51 => 103 | 68 => 38 | 69 => 23 | 70 => 62 | 71 => 63 | 72 => 64 | 73 => 65 | 74 => 66 | 75 => 67 | 76 => 68 | 77 => 69 | 79 => 73 | 80 => 71 | 81 => 131 | 101 => 39 | 103 => 24 | 104 => 33 | 105 => 60 | 106 => 61 | 119 => 95 | 126 => 81 | 127 => 80 | 137 => 97 | 138 => 98 | 139 => 99 | 140 => 104 | 141 => 105 | 164 => 100 | 165 => 101 | 166 => 102 | 193 => 113 | 194 => 114 | 195 => 115 | 196 => 116 | 197 => 118 | 198 => 119 | 199 => 120 | 200 => 121 | 201 => 122 | 202 => 123 | 203 => 77 | 226 => 124 | 227 => 125 | 238 => 126 | 239 => 127 | 240 => 128 | 241 => 129 | 242 => 130 | 243 => 132 | 244 => 133 | 245 => 134 | 246 => 135 | 247 => 136 | 248 => 137 | 249 => 138 | n => n, fun | 1 => 4 | 3 => 0 | 4 => 1 | 7 => 2 | 8 => 3 | n => n⟩
theorem Tryd.lays166 : Go.Proofs.Lays.n166 Tryd.prog Tryd.lays166_ren := {
  mixed := by kernel_rfl
  f166 := Tryd.func71.trans (congrArg some (by kernel_rfl))
  f240 := Tryd.func83.trans (congrArg some (by kernel_rfl))
  f276 := Tryd.func92.trans (congrArg some (by kernel_rfl))
  t0 := Tryd.underlying0
  a0 := Tryd.isAgg0
  z0 := Tryd.sizeOf0
  v0 := Tryd.zeroValue0
  t3 := Tryd.underlying3
  a3 := Tryd.isAgg3
  z3 := Tryd.sizeOf3
  v3 := Tryd.zeroValue3
  t4 := Tryd.underlying4
  a4 := Tryd.isAgg4
  z4 := Tryd.sizeOf4
  v4 := Tryd.zeroValue4
  t9 := Tryd.underlying9
  a9 := Tryd.isAgg9
  z9 := Tryd.sizeOf9
  v9 := Tryd.zeroValue9
  t20 := Tryd.underlying20
  a20 := Tryd.isAgg20
  z20 := Tryd.sizeOf20
  v20 := Tryd.zeroValue20
  t37 := Tryd.underlying59
  a37 := Tryd.isAgg59
  z37 := Tryd.sizeOf59
  v37 := Tryd.zeroValue59
  t70 := Tryd.underlying62
  a70 := Tryd.isAgg62
  z70 := Tryd.sizeOf62
  v70 := Tryd.zeroValue62
  t72 := Tryd.underlying64
  a72 := Tryd.isAgg64
  z72 := Tryd.sizeOf64
  v72 := Tryd.zeroValue64
  t75 := Tryd.underlying67
  a75 := Tryd.isAgg67
  z75 := Tryd.sizeOf67
  v75 := Tryd.zeroValue67
  t164 := Tryd.underlying100
  a164 := Tryd.isAgg100
  z164 := Tryd.sizeOf100
  v164 := Tryd.zeroValue100 }
theorem Tryd.Builder_Extra_166 : Builder.Extra Tryd.prog Tryd.lays166_ren := {
  sizeBuilder := by kernel_rfl
  liesBuilder := by kernel_rfl
  t5 := Tryd.underlying5
  a5 := Tryd.isAgg5
  z5 := Tryd.sizeOf5
  v5 := Tryd.zeroValue5
  infoByte := by kernel_rfl
  cellsByte := by kernel_rfl
  sizeByte := by kernel_rfl
  neB5 := by decide }
open Go.RowKit in
theorem Tryd.Builder_WriteString (B b : Nat) (bs : List Value) (s : ByteArray) (w : World) (h : Lib.IsBuilder 64 5 B b bs w) (hlen : bs.length + s.size ≤ 140737488355328) (hBw : B ≤ w.heap.size) :
    Calls Tryd.prog 71 #[.pointer (some ⟨b, 0, none⟩), .string s] w fun e w' => e = .returned (.tuple #[.int .i64 s.size, .nilIface]) ∧ (Lib.BuilderAt 64 5 B b (.pointer (some ⟨b, 0, none⟩)) (bs ++ Lib.strCells s) w' ∧ Below B w w') := Any.Builder_WriteString Tryd.lays166 Tryd.Builder_Extra_166 B b bs s w h hlen hBw
def Tryd.lays169_ren : Go.Shelf.Ren := ⟨fun | 169 => 73 | n => n, fun | 70 => 62 | 9 => 9 | 0 => 0 | 72 => 64 | 37 => 59 | 127 => 80 | 3 => 3 | 5 => 5 | n => n, fun | n => n⟩
theorem Tryd.lays169 : Go.Proofs.Lays.n169 Tryd.prog Tryd.lays169_ren := {
  mixed := by kernel_rfl
  f169 := Tryd.func73.trans (congrArg some (by kernel_rfl))
  t0 := Tryd.underlying0
  a0 := Tryd.isAgg0
  z0 := Tryd.sizeOf0
  v0 := Tryd.zeroValue0
  t3 := Tryd.underlying3
  a3 := Tryd.isAgg3
  z3 := Tryd.sizeOf3
  v3 := Tryd.zeroValue3
  t9 := Tryd.underlying9
  a9 := Tryd.isAgg9
  z9 := Tryd.sizeOf9
  v9 := Tryd.zeroValue9
  t37 := Tryd.underlying59
  a37 := Tryd.isAgg59
  z37 := Tryd.sizeOf59
  v37 := Tryd.zeroValue59
  t70 := Tryd.underlying62
  a70 := Tryd.isAgg62
  z70 := Tryd.sizeOf62
  v70 := Tryd.zeroValue62
  t72 := Tryd.underlying64
  a72 := Tryd.isAgg64
  z72 := Tryd.sizeOf64
  v72 := Tryd.zeroValue64
  t127 := Tryd.underlying80
  a127 := Tryd.isAgg80
  z127 := Tryd.sizeOf80
  v127 := Tryd.zeroValue80 }
theorem Tryd.Builder_Extra_169 : Builder.Extra Tryd.prog Tryd.lays169_ren := {
  sizeBuilder := by kernel_rfl
  liesBuilder := by kernel_rfl
  t5 := Tryd.underlying5
  a5 := Tryd.isAgg5
  z5 := Tryd.sizeOf5
  v5 := Tryd.zeroValue5
  infoByte := by kernel_rfl
  cellsByte := by kernel_rfl
  sizeByte := by kernel_rfl
  neB5 := by decide }
open Go.RowKit in
theorem Tryd.Builder_String (B b : Nat) (l : List UInt8) (w : World) (h : Lib.IsBuilder 64 5 B b (Lib.byteCells l) w) (h0 : l ≠ []) :
    Calls Tryd.prog 73 #[.pointer (some ⟨b, 0, none⟩)] w fun e w' => e = .returned (.string ⟨l.toArray⟩) ∧ Below B w w' := Any.Builder_String Tryd.lays169 Tryd.Builder_Extra_169 B b l w h h0
open Go.RowKit in
theorem Tryd.Builder_String_empty (B b : Nat) (w : World) (h : Lib.IsBuilder 64 5 B b [] w) (hBw : B ≤ w.heap.size) :
    Calls Tryd.prog 73 #[.pointer (some ⟨b, 0, none⟩)] w fun e w' => e = .returned (.string ⟨#[]⟩) ∧ Below B w w' := Any.Builder_String_empty Tryd.lays169 Tryd.Builder_Extra_169 B b w h hBw
open Go.RowKit in
theorem Tryd.Builder_String_any (B b : Nat) (l : List UInt8) (w : World) (h : Lib.IsBuilder 64 5 B b (Lib.byteCells l) w) (hBw : B ≤ w.heap.size) :
    Calls Tryd.prog 73 #[.pointer (some ⟨b, 0, none⟩)] w fun e w' => e = .returned (.string ⟨l.toArray⟩) ∧ Below B w w' := Any.Builder_String_any Tryd.lays169 Tryd.Builder_Extra_169 B b l w h hBw
def Tryd.lays241_ren : Go.Shelf.Ren := ⟨fun | 241 => 84 | 277 => 93 | n => n, fun | 70 => 62 | 3 => 3 | 0 => 0 | 72 => 64 | 37 => 59 | 5 => 5 | n => n, fun | n => n⟩
theorem Tryd.lays241 : Go.Proofs.Lays.n241 Tryd.prog Tryd.lays241_ren := {
  mixed := by kernel_rfl
  f241 := Tryd.func84.trans (congrArg some (by kernel_rfl))
  f277 := Tryd.func93.trans (congrArg some (by kernel_rfl))
  t0 := Tryd.underlying0
  a0 := Tryd.isAgg0
  z0 := Tryd.sizeOf0
  v0 := Tryd.zeroValue0
  t3 := Tryd.underlying3
  a3 := Tryd.isAgg3
  z3 := Tryd.sizeOf3
  v3 := Tryd.zeroValue3
  t37 := Tryd.underlying59
  a37 := Tryd.isAgg59
  z37 := Tryd.sizeOf59
  v37 := Tryd.zeroValue59
  t70 := Tryd.underlying62
  a70 := Tryd.isAgg62
  z70 := Tryd.sizeOf62
  v70 := Tryd.zeroValue62
  t72 := Tryd.underlying64
  a72 := Tryd.isAgg64
  z72 := Tryd.sizeOf64
  v72 := Tryd.zeroValue64 }
theorem Tryd.Builder_Extra_241 : Builder.Extra Tryd.prog Tryd.lays241_ren := {
  sizeBuilder := by kernel_rfl
  liesBuilder := by kernel_rfl
  t5 := Tryd.underlying5
  a5 := Tryd.isAgg5
  z5 := Tryd.sizeOf5
  v5 := Tryd.zeroValue5
  infoByte := by kernel_rfl
  cellsByte := by kernel_rfl
  sizeByte := by kernel_rfl
  neB5 := by decide }
open Go.RowKit in
theorem Tryd.Builder_grow_fresh (B b n : Nat) (w : World) (hB : B ≤ b) (hbk : w.heap[b]? = some (.cells #[.pointer (some ⟨b, 0, none⟩), .slice none 0 0] 64 (0, 0))) (hBw : B ≤ w.heap.size) (hn : n ≤ 281474976710656) :
    Calls Tryd.prog 84 #[.pointer (some ⟨b, 0, none⟩), .int .i64 n] w fun e w' => e = .returned (.tuple #[]) ∧ (Lib.BuilderAt 64 5 B b (.pointer (some ⟨b, 0, none⟩)) [] w' ∧ Below B w w') := Any.Builder_grow_fresh Tryd.lays241 Tryd.Builder_Extra_241 B b n w hB hbk hBw hn
def Tryd.lays165_ren : Go.Shelf.Ren := ⟨fun | 165 => 70 | 240 => 83 | 241 => 84 | 276 => 92 | 277 => 93 | n => n, fun | 70 => 62 | 3 => 3 | 0 => 0 | 4 => 4 | 9 => 9 | 20 => 20 | 72 => 64 | 37 => 59 | 164 => 100 | 5 => 5 | n => n, fun | n => n⟩
theorem Tryd.lays165 : Go.Proofs.Lays.n165 Tryd.prog Tryd.lays165_ren := {
  mixed := by kernel_rfl
  f165 := Tryd.func70.trans (congrArg some (by kernel_rfl))
  f240 := Tryd.func83.trans (congrArg some (by kernel_rfl))
  f241 := Tryd.func84.trans (congrArg some (by kernel_rfl))
  f276 := Tryd.func92.trans (congrArg some (by kernel_rfl))
  f277 := Tryd.func93.trans (congrArg some (by kernel_rfl))
  t0 := Tryd.underlying0
  a0 := Tryd.isAgg0
  z0 := Tryd.sizeOf0
  v0 := Tryd.zeroValue0
  t3 := Tryd.underlying3
  a3 := Tryd.isAgg3
  z3 := Tryd.sizeOf3
  v3 := Tryd.zeroValue3
  t4 := Tryd.underlying4
  a4 := Tryd.isAgg4
  z4 := Tryd.sizeOf4
  v4 := Tryd.zeroValue4
  t9 := Tryd.underlying9
  a9 := Tryd.isAgg9
  z9 := Tryd.sizeOf9
  v9 := Tryd.zeroValue9
  t20 := Tryd.underlying20
  a20 := Tryd.isAgg20
  z20 := Tryd.sizeOf20
  v20 := Tryd.zeroValue20
  t37 := Tryd.underlying59
  a37 := Tryd.isAgg59
  z37 := Tryd.sizeOf59
  v37 := Tryd.zeroValue59
  t70 := Tryd.underlying62
  a70 := Tryd.isAgg62
  z70 := Tryd.sizeOf62
  v70 := Tryd.zeroValue62
  t72 := Tryd.underlying64
  a72 := Tryd.isAgg64
  z72 := Tryd.sizeOf64
  v72 := Tryd.zeroValue64
  t164 := Tryd.underlying100
  a164 := Tryd.isAgg100
  z164 := Tryd.sizeOf100
  v164 := Tryd.zeroValue100 }
theorem Tryd.Builder_Extra_165 : Builder.Extra Tryd.prog Tryd.lays165_ren := {
  sizeBuilder := by kernel_rfl
  liesBuilder := by kernel_rfl
  t5 := Tryd.underlying5
  a5 := Tryd.isAgg5
  z5 := Tryd.sizeOf5
  v5 := Tryd.zeroValue5
  infoByte := by kernel_rfl
  cellsByte := by kernel_rfl
  sizeByte := by kernel_rfl
  neB5 := by decide }
open Go.RowKit in
theorem Tryd.Builder_Grow_fresh (B b n : Nat) (w : World) (hB : B ≤ b) (hbk : w.heap[b]? = some (.cells #[.pointer none, .slice none 0 0] 64 (0, 0))) (hBw : B ≤ w.heap.size) (hn : n ≤ 281474976710656) :
    Calls Tryd.prog 70 #[.pointer (some ⟨b, 0, none⟩), .int .i64 n] w fun e w' => e = .returned (.tuple #[]) ∧ (Lib.BuilderAt 64 5 B b (.pointer (some ⟨b, 0, none⟩)) [] w' ∧ Below B w w') := Any.Builder_Grow_fresh Tryd.lays165 Tryd.Builder_Extra_165 B b n w hB hbk hBw hn
open Go.RowKit in
theorem Tryd.Builder_copyCheck_f (B b : Nat) (bs : List Value) (w : World) (h : Lib.IsBuilderF 64 5 B b bs w) :
    Calls Tryd.prog 83 #[.pointer (some ⟨b, 0, none⟩)] w fun e w' => e = .returned (.tuple #[]) ∧ (Lib.BuilderAtF 64 5 B b (.pointer (some ⟨b, 0, none⟩)) bs w' ∧ Below B w w') := Any.Builder_copyCheck_f Tryd.lays240 Tryd.Builder_X72_240 B b bs w h
open Go.RowKit in
theorem Tryd.Builder_WriteString_f (B b : Nat) (bs : List Value) (s : ByteArray) (w : World) (h : Lib.IsBuilderF 64 5 B b bs w) (hlen : bs.length + s.size ≤ 140737488355328) (hBw : B ≤ w.heap.size) :
    Calls Tryd.prog 71 #[.pointer (some ⟨b, 0, none⟩), .string s] w fun e w' => e = .returned (.tuple #[.int .i64 s.size, .nilIface]) ∧ (Lib.BuilderAtF 64 5 B b (.pointer (some ⟨b, 0, none⟩)) (bs ++ Lib.strCells s) w' ∧ Below B w w') := Any.Builder_WriteString_f Tryd.lays166 Tryd.Builder_Extra_166 B b bs s w h hlen hBw
open Go.RowKit in
theorem Tryd.Builder_String_f (B b : Nat) (l : List UInt8) (w : World) (h : Lib.IsBuilderF 64 5 B b (Lib.byteCells l) w) (h0 : l ≠ []) :
    Calls Tryd.prog 73 #[.pointer (some ⟨b, 0, none⟩)] w fun e w' => e = .returned (.string ⟨l.toArray⟩) ∧ (Lib.IsBuilderF 64 5 B b (Lib.byteCells l) w' ∧ Below B w w') := Any.Builder_String_f Tryd.lays169 Tryd.Builder_Extra_169 B b l w h h0
open Go.RowKit in
theorem Tryd.Builder_String_empty_f (B b : Nat) (w : World) (h : Lib.IsBuilderF 64 5 B b [] w) (hBw : B ≤ w.heap.size) :
    Calls Tryd.prog 73 #[.pointer (some ⟨b, 0, none⟩)] w fun e w' => e = .returned (.string ⟨#[]⟩) ∧ (Lib.IsBuilderF 64 5 B b [] w' ∧ Below B w w') := Any.Builder_String_empty_f Tryd.lays169 Tryd.Builder_Extra_169 B b w h hBw
open Go.RowKit in
theorem Tryd.Builder_String_any_f (B b : Nat) (l : List UInt8) (w : World) (h : Lib.IsBuilderF 64 5 B b (Lib.byteCells l) w) (hBw : B ≤ w.heap.size) :
    Calls Tryd.prog 73 #[.pointer (some ⟨b, 0, none⟩)] w fun e w' => e = .returned (.string ⟨l.toArray⟩) ∧ (Lib.IsBuilderF 64 5 B b (Lib.byteCells l) w' ∧ Below B w w') := Any.Builder_String_any_f Tryd.lays169 Tryd.Builder_Extra_169 B b l w h hBw
open Go.RowKit in
theorem Tryd.Builder_copyCheck_k (B b : Nat) (bs : List Value) (w : World) (h : Lib.IsBuilderF 64 5 B b bs w) :
    Calls Tryd.prog 83 #[.pointer (some ⟨b, 0, none⟩)] w fun e w' => e = .returned (.tuple #[]) ∧ (Lib.BuilderAtF 64 5 B b (.pointer (some ⟨b, 0, none⟩)) bs w' ∧ Below B w w' ∧ Lib.OthersKept 5 (some b) w w') := Any.Builder_copyCheck_k Tryd.lays240 Tryd.Builder_X72_240 B b bs w h
open Go.RowKit in
theorem Tryd.Builder_WriteString_k (B b : Nat) (bs : List Value) (s : ByteArray) (w : World) (h : Lib.IsBuilderF 64 5 B b bs w) (hlen : bs.length + s.size ≤ 140737488355328) (hBw : B ≤ w.heap.size) :
    Calls Tryd.prog 71 #[.pointer (some ⟨b, 0, none⟩), .string s] w fun e w' => e = .returned (.tuple #[.int .i64 s.size, .nilIface]) ∧ (Lib.BuilderAtF 64 5 B b (.pointer (some ⟨b, 0, none⟩)) (bs ++ Lib.strCells s) w' ∧ Below B w w' ∧ Lib.OthersKept 5 (some b) w w') := Any.Builder_WriteString_k Tryd.lays166 Tryd.Builder_Extra_166 B b bs s w h hlen hBw
open Go.RowKit in
theorem Tryd.Builder_String_k (B b : Nat) (l : List UInt8) (w : World) (h : Lib.IsBuilderF 64 5 B b (Lib.byteCells l) w) (h0 : l ≠ []) :
    Calls Tryd.prog 73 #[.pointer (some ⟨b, 0, none⟩)] w fun e w' => e = .returned (.string ⟨l.toArray⟩) ∧ (Lib.IsBuilderF 64 5 B b (Lib.byteCells l) w' ∧ Below B w w' ∧ Lib.OthersKept 5 (some b) w w') := Any.Builder_String_k Tryd.lays169 Tryd.Builder_Extra_169 B b l w h h0
open Go.RowKit in
theorem Tryd.Builder_String_empty_k (B b : Nat) (w : World) (h : Lib.IsBuilderF 64 5 B b [] w) (hBw : B ≤ w.heap.size) :
    Calls Tryd.prog 73 #[.pointer (some ⟨b, 0, none⟩)] w fun e w' => e = .returned (.string ⟨#[]⟩) ∧ (Lib.IsBuilderF 64 5 B b [] w' ∧ Below B w w' ∧ Lib.OthersKept 5 (some b) w w') := Any.Builder_String_empty_k Tryd.lays169 Tryd.Builder_Extra_169 B b w h hBw
open Go.RowKit in
theorem Tryd.Builder_String_any_k (B b : Nat) (l : List UInt8) (w : World) (h : Lib.IsBuilderF 64 5 B b (Lib.byteCells l) w) (hBw : B ≤ w.heap.size) :
    Calls Tryd.prog 73 #[.pointer (some ⟨b, 0, none⟩)] w fun e w' => e = .returned (.string ⟨l.toArray⟩) ∧ (Lib.IsBuilderF 64 5 B b (Lib.byteCells l) w' ∧ Below B w w' ∧ Lib.OthersKept 5 (some b) w w') := Any.Builder_String_any_k Tryd.lays169 Tryd.Builder_Extra_169 B b l w h hBw
def Tryd.lays168_ren : Go.Shelf.Ren := ⟨fun | 0 => 0 | 1 => 1 | 2 => 2 | 165 => 70 | 166 => 71 | 168 => 75 | 169 => 73 | 195 => 68 | 197 => 66 | 200 => 86 | 240 => 83 | 241 => 84 | 242 => 85 | 260 => 82 | 261 => 95 | 276 => 92 | 277 => 93 | 278 => 94 | 311 => 96 | 312 => 97 | 347 => 98 | 348 => 99 | 349 => 100 | 350 => 101 | 351 => 102 | 352 => 103 | 353 => 104 | 354 => 105 | 355 => 106 | 356 => 107 | 357 => 108 | 358 => 109 | 359 => 110 | 360 => 111 | 361 => 112 | 362 => 113 | 366 => 115 | 367 => 122 | n => n, fun | 0 => 0 | 1 => 1 | 2 => 2 | 3 => 3 | 4 => 4 | 5 => 5 | 6 => 6 | 7 => 7 | 8 => 8 | 9 => 9 | 10 => 10 | 11 => 11 | 12 => 12 | 13 => 13 | 14 => 14 | 15 => 15 | 16 => 16 | 17 => 17 | 18 => 18 | 19 => 19 | 20 => 20 | 21 => 21 | 22 => 26 | 23 => 40 | 24 => 27 | 26 => 35 | 27 => 46 | 31 => 37 | 37 => 59 | 39 => 74 | 40 => 57 | 41 => 56 | 46 => 96 | 49 => 117 | 51 => 103 | 68 => 38 | 69 => 23 | 70 => 62 | 71 => 63 | 72 => 64 | 73 => 65 | 74 => 66 | 75 => 67 | 76 => 68 | 77 => 69 | 79 => 73 | 80 => 71 | 81 => 131 | 101 => 39 | 103 => 24 | 104 => 33 | 105 => 60 | 106 => 61 | 119 => 95 | 126 => 81 | 127 => 80 | 137 => 97 | 138 => 98 | 139 => 99 | 140 => 104 | 141 => 105 | 164 => 100 | 165 => 101 | 166 => 102 | 193 => 113 | 194 => 114 | 195 => 115 | 196 => 116 | 197 => 118 | 198 => 119 | 199 => 120 | 200 => 121 | 201 => 122 | 202 => 123 | 203 => 77 | 226 => 124 | 227 => 125 | 238 => 126 | 239 => 127 | 240 => 128 | 241 => 129 | 242 => 130 | 243 => 132 | 244 => 133 | 245 => 134 | 246 => 135 | 247 => 136 | 248 => 137 | 249 => 138 | n => n, fun | 1 => 4 | 3 => 0 | 4 => 1 | 7 => 2 | 8 => 3 | n => n⟩
theorem Tryd.lays168 : Go.Proofs.Lays.n168 Tryd.prog Tryd.lays168_ren := {
  mixed := by kernel_rfl
  f168 := Tryd.func75.trans (congrArg some (by kernel_rfl))
  f240 := Tryd.func83.trans (congrArg some (by kernel_rfl))
  f242 := Tryd.func85.trans (congrArg some (by kernel_rfl))
  f276 := Tryd.func92.trans (congrArg some (by kernel_rfl))
  f278 := Tryd.func94.trans (congrArg some (by kernel_rfl))
  t0 := Tryd.underlying0
  a0 := Tryd.isAgg0
  z0 := Tryd.sizeOf0
  v0 := Tryd.zeroValue0
  t3 := Tryd.underlying3
  a3 := Tryd.isAgg3
  z3 := Tryd.sizeOf3
  v3 := Tryd.zeroValue3
  t4 := Tryd.underlying4
  a4 := Tryd.isAgg4
  z4 := Tryd.sizeOf4
  v4 := Tryd.zeroValue4
  t5 := Tryd.underlying5
  a5 := Tryd.isAgg5
  z5 := Tryd.sizeOf5
  v5 := Tryd.zeroValue5
  t9 := Tryd.underlying9
  a9 := Tryd.isAgg9
  z9 := Tryd.sizeOf9
  v9 := Tryd.zeroValue9
  t20 := Tryd.underlying20
  a20 := Tryd.isAgg20
  z20 := Tryd.sizeOf20
  v20 := Tryd.zeroValue20
  t21 := Tryd.underlying21
  a21 := Tryd.isAgg21
  z21 := Tryd.sizeOf21
  v21 := Tryd.zeroValue21
  t37 := Tryd.underlying59
  a37 := Tryd.isAgg59
  z37 := Tryd.sizeOf59
  v37 := Tryd.zeroValue59
  t46 := Tryd.underlying96
  a46 := Tryd.isAgg96
  z46 := Tryd.sizeOf96
  v46 := Tryd.zeroValue96
  t51 := Tryd.underlying103
  a51 := Tryd.isAgg103
  z51 := Tryd.sizeOf103
  v51 := Tryd.zeroValue103
  t70 := Tryd.underlying62
  a70 := Tryd.isAgg62
  z70 := Tryd.sizeOf62
  v70 := Tryd.zeroValue62
  t72 := Tryd.underlying64
  a72 := Tryd.isAgg64
  z72 := Tryd.sizeOf64
  v72 := Tryd.zeroValue64
  t75 := Tryd.underlying67
  a75 := Tryd.isAgg67
  z75 := Tryd.sizeOf67
  v75 := Tryd.zeroValue67
  t164 := Tryd.underlying100
  a164 := Tryd.isAgg100
  z164 := Tryd.sizeOf100
  v164 := Tryd.zeroValue100 }
theorem Tryd.Builder_Extra_168 : Builder.Extra Tryd.prog Tryd.lays168_ren := {
  sizeBuilder := by kernel_rfl
  liesBuilder := by kernel_rfl
  t5 := Tryd.underlying5
  a5 := Tryd.isAgg5
  z5 := Tryd.sizeOf5
  v5 := Tryd.zeroValue5
  infoByte := by kernel_rfl
  cellsByte := by kernel_rfl
  sizeByte := by kernel_rfl
  neB5 := by decide }
open Go.RowKit in
theorem Tryd.Builder_WriteRune_k (B b : Nat) (bs : List Value) (r : Int) (hr0 : -2147483648 ≤ r) (hr1 : r ≤ 2147483647) (w : World) (h : Lib.IsBuilderF 64 5 B b bs w) (hlen : bs.length + 4 ≤ 140737488355328) (hBw : B ≤ w.heap.size) :
    Calls Tryd.prog 75 #[.pointer (some ⟨b, 0, none⟩), .int .i32 r] w fun e w' => e = .returned (.tuple #[.int .i64 (Lib.runeCells r).length, .nilIface]) ∧ (Lib.BuilderAtF 64 5 B b (.pointer (some ⟨b, 0, none⟩)) (bs ++ Lib.runeCells r) w' ∧ Below B w w' ∧ Lib.OthersKept 5 (some b) w w') := Any.Builder_WriteRune_k Tryd.lays168 Tryd.Builder_Extra_168 B b bs r hr0 hr1 w h hlen hBw
def Tryd.lays278_ren : Go.Shelf.Ren := ⟨fun | 278 => 94 | n => n, fun | 37 => 59 | 21 => 21 | 51 => 103 | 4 => 4 | 46 => 96 | 5 => 5 | n => n, fun | n => n⟩
theorem Tryd.lays278 : Go.Proofs.Lays.n278 Tryd.prog Tryd.lays278_ren := {
  mixed := by kernel_rfl
  f278 := Tryd.func94.trans (congrArg some (by kernel_rfl))
  t4 := Tryd.underlying4
  a4 := Tryd.isAgg4
  z4 := Tryd.sizeOf4
  v4 := Tryd.zeroValue4
  t5 := Tryd.underlying5
  a5 := Tryd.isAgg5
  z5 := Tryd.sizeOf5
  v5 := Tryd.zeroValue5
  t21 := Tryd.underlying21
  a21 := Tryd.isAgg21
  z21 := Tryd.sizeOf21
  v21 := Tryd.zeroValue21
  t37 := Tryd.underlying59
  a37 := Tryd.isAgg59
  z37 := Tryd.sizeOf59
  v37 := Tryd.zeroValue59
  t46 := Tryd.underlying96
  a46 := Tryd.isAgg96
  z46 := Tryd.sizeOf96
  v46 := Tryd.zeroValue96
  t51 := Tryd.underlying103
  a51 := Tryd.isAgg103
  z51 := Tryd.sizeOf103
  v51 := Tryd.zeroValue103 }
open Go.RowKit in
theorem Tryd.utf8_appendRuneNonASCII_row (B : Nat) (v : Value) (n : Nat) (xs : List Value) (r : Int) (hr0 : -2147483648 ≤ r) (hr1 : r ≤ 2147483647) (hna : r < 0 ∨ 128 ≤ r) (w : World) (hown : w.ownsRowF B 5 1 v n xs) (hlen : n + 4 ≤ 140737488355328) (hBw : B ≤ w.heap.size) :
    Calls Tryd.prog 94 #[v, .int .i32 r] w fun e w' => ∃ v', e = .returned v' ∧ w'.ownsRowF B 5 1 v' (n + (Lib.runeCells r).length) (xs ++ Lib.runeCells r) ∧ ∃ o, (w.alloc o).grownBy w' v.ownBlock := Any.utf8_appendRuneNonASCII_row Tryd.lays278 (by kernel_rfl) B v n xs r hr0 hr1 hna w hown hlen hBw
def Tryd.lays242_ren : Go.Shelf.Ren := ⟨fun | 242 => 85 | 278 => 94 | n => n, fun | 37 => 59 | 21 => 21 | 51 => 103 | 4 => 4 | 5 => 5 | 46 => 96 | n => n, fun | n => n⟩
theorem Tryd.lays242 : Go.Proofs.Lays.n242 Tryd.prog Tryd.lays242_ren := {
  mixed := by kernel_rfl
  f242 := Tryd.func85.trans (congrArg some (by kernel_rfl))
  f278 := Tryd.func94.trans (congrArg some (by kernel_rfl))
  t4 := Tryd.underlying4
  a4 := Tryd.isAgg4
  z4 := Tryd.sizeOf4
  v4 := Tryd.zeroValue4
  t5 := Tryd.underlying5
  a5 := Tryd.isAgg5
  z5 := Tryd.sizeOf5
  v5 := Tryd.zeroValue5
  t21 := Tryd.underlying21
  a21 := Tryd.isAgg21
  z21 := Tryd.sizeOf21
  v21 := Tryd.zeroValue21
  t37 := Tryd.underlying59
  a37 := Tryd.isAgg59
  z37 := Tryd.sizeOf59
  v37 := Tryd.zeroValue59
  t46 := Tryd.underlying96
  a46 := Tryd.isAgg96
  z46 := Tryd.sizeOf96
  v46 := Tryd.zeroValue96
  t51 := Tryd.underlying103
  a51 := Tryd.isAgg103
  z51 := Tryd.sizeOf103
  v51 := Tryd.zeroValue103 }
open Go.RowKit in
theorem Tryd.utf8_AppendRune_row (B : Nat) (v : Value) (n : Nat) (xs : List Value) (r : Int) (hr0 : -2147483648 ≤ r) (hr1 : r ≤ 2147483647) (w : World) (hown : w.ownsRowF B 5 1 v n xs) (hlen : n + 4 ≤ 140737488355328) (hBw : B ≤ w.heap.size) :
    Calls Tryd.prog 85 #[v, .int .i32 r] w fun e w' => ∃ v', e = .returned v' ∧ w'.ownsRowF B 5 1 v' (n + (Lib.runeCells r).length) (xs ++ Lib.runeCells r) ∧ ∃ o, (w.alloc o).grownBy w' v.ownBlock := Any.utf8_AppendRune_row Tryd.lays242 (by kernel_rfl) B v n xs r hr0 hr1 w hown hlen hBw
def Tryd.lays195_ren : Go.Shelf.Ren := ⟨fun | 195 => 68 | n => n, fun | 9 => 9 | 3 => 3 | 0 => 0 | 4 => 4 | n => n, fun | n => n⟩
theorem Tryd.lays195 : Go.Proofs.Lays.n195 Tryd.prog Tryd.lays195_ren := {
  mixed := by kernel_rfl
  f195 := Tryd.func68.trans (congrArg some (by kernel_rfl))
  t0 := Tryd.underlying0
  a0 := Tryd.isAgg0
  z0 := Tryd.sizeOf0
  v0 := Tryd.zeroValue0
  t3 := Tryd.underlying3
  a3 := Tryd.isAgg3
  z3 := Tryd.sizeOf3
  v3 := Tryd.zeroValue3
  t4 := Tryd.underlying4
  a4 := Tryd.isAgg4
  z4 := Tryd.sizeOf4
  v4 := Tryd.zeroValue4
  t9 := Tryd.underlying9
  a9 := Tryd.isAgg9
  z9 := Tryd.sizeOf9
  v9 := Tryd.zeroValue9 }
open Go.RowKit in
theorem Tryd.utf8_RuneCountInString (s : ByteArray) (w : World) (hs : s.size < 9223372036854775807) :
    Calls Tryd.prog 68 #[.string s] w fun e w' => e = .returned (.int .i64 (Lib.runeCount s)) ∧ ∃ pos, w' = w.iter s pos := Any.utf8_RuneCountInString Tryd.lays195 s w hs
open Go.RowKit in
theorem Tryd.Builder_grow_fresh_cap (B b n : Nat) (w : World) (hB : B ≤ b) (hbk : w.heap[b]? = some (.cells #[.pointer (some ⟨b, 0, none⟩), .slice none 0 0] 64 (0, 0))) (hBw : B ≤ w.heap.size) (hn : n ≤ 281474976710656) :
    Calls Tryd.prog 84 #[.pointer (some ⟨b, 0, none⟩), .int .i64 n] w fun e w' => e = .returned (.tuple #[]) ∧ (Lib.BuilderAt 64 5 B b (.pointer (some ⟨b, 0, none⟩)) [] w' ∧ Below B w w') ∧ ∃ p cap, w'.cell? ⟨b, 1, none⟩ = some (.slice p 0 cap) ∧ n ≤ cap := Any.Builder_grow_fresh_cap Tryd.lays241 Tryd.Builder_Extra_241 B b n w hB hbk hBw hn
open Go.RowKit in
theorem Tryd.Builder_Grow_fresh_cap (B b n : Nat) (w : World) (hB : B ≤ b) (hbk : w.heap[b]? = some (.cells #[.pointer none, .slice none 0 0] 64 (0, 0))) (hBw : B ≤ w.heap.size) (hn : n ≤ 281474976710656) :
    Calls Tryd.prog 70 #[.pointer (some ⟨b, 0, none⟩), .int .i64 n] w fun e w' => e = .returned (.tuple #[]) ∧ (Lib.BuilderAt 64 5 B b (.pointer (some ⟨b, 0, none⟩)) [] w' ∧ Below B w w') ∧ ∃ p cap, w'.cell? ⟨b, 1, none⟩ = some (.slice p 0 cap) ∧ n ≤ cap := Any.Builder_Grow_fresh_cap Tryd.lays165 Tryd.Builder_Extra_165 B b n w hB hbk hBw hn
def Tryd.lays200_ren : Go.Shelf.Ren := ⟨fun | 200 => 86 | 261 => 95 | 311 => 96 | 312 => 97 | n => n, fun | 21 => 21 | 4 => 4 | 51 => 103 | 5 => 5 | 119 => 95 | 0 => 0 | 141 => 105 | 196 => 116 | 193 => 113 | 3 => 3 | 198 => 119 | 49 => 117 | 194 => 114 | 201 => 122 | 226 => 124 | 46 => 96 | 227 => 125 | n => n, fun | 7 => 2 | 8 => 3 | n => n⟩
theorem Tryd.lays200 : Go.Proofs.Lays.n200 Tryd.prog Tryd.lays200_ren := {
  mixed := by kernel_rfl
  f200 := Tryd.func86.trans (congrArg some (by kernel_rfl))
  f261 := Tryd.func95.trans (congrArg some (by kernel_rfl))
  f311 := Tryd.func96.trans (congrArg some (by kernel_rfl))
  f312 := Tryd.func97.trans (congrArg some (by kernel_rfl))
  t0 := Tryd.underlying0
  a0 := Tryd.isAgg0
  z0 := Tryd.sizeOf0
  v0 := Tryd.zeroValue0
  t3 := Tryd.underlying3
  a3 := Tryd.isAgg3
  z3 := Tryd.sizeOf3
  v3 := Tryd.zeroValue3
  t4 := Tryd.underlying4
  a4 := Tryd.isAgg4
  z4 := Tryd.sizeOf4
  v4 := Tryd.zeroValue4
  t5 := Tryd.underlying5
  a5 := Tryd.isAgg5
  z5 := Tryd.sizeOf5
  v5 := Tryd.zeroValue5
  t21 := Tryd.underlying21
  a21 := Tryd.isAgg21
  z21 := Tryd.sizeOf21
  v21 := Tryd.zeroValue21
  t46 := Tryd.underlying96
  a46 := Tryd.isAgg96
  z46 := Tryd.sizeOf96
  v46 := Tryd.zeroValue96
  t49 := Tryd.underlying117
  a49 := Tryd.isAgg117
  z49 := Tryd.sizeOf117
  v49 := Tryd.zeroValue117
  t51 := Tryd.underlying103
  a51 := Tryd.isAgg103
  z51 := Tryd.sizeOf103
  v51 := Tryd.zeroValue103
  t119 := Tryd.underlying95
  a119 := Tryd.isAgg95
  z119 := Tryd.sizeOf95
  t141 := Tryd.underlying105
  a141 := Tryd.isAgg105
  z141 := Tryd.sizeOf105
  v141 := Tryd.zeroValue105
  t193 := Tryd.underlying113
  a193 := Tryd.isAgg113
  z193 := Tryd.sizeOf113
  v193 := Tryd.zeroValue113
  t194 := Tryd.underlying114
  a194 := Tryd.isAgg114
  z194 := Tryd.sizeOf114
  v194 := Tryd.zeroValue114
  t196 := Tryd.underlying116
  a196 := Tryd.isAgg116
  z196 := Tryd.sizeOf116
  v196 := Tryd.zeroValue116
  t198 := Tryd.underlying119
  a198 := Tryd.isAgg119
  z198 := Tryd.sizeOf119
  v198 := Tryd.zeroValue119
  t201 := Tryd.underlying122
  a201 := Tryd.isAgg122
  z201 := Tryd.sizeOf122
  v201 := Tryd.zeroValue122
  t226 := Tryd.underlying124
  a226 := Tryd.isAgg124
  z226 := Tryd.sizeOf124
  v226 := Tryd.zeroValue124
  t227 := Tryd.underlying125
  a227 := Tryd.isAgg125
  z227 := Tryd.sizeOf125
  v227 := Tryd.zeroValue125
  g7 := by kernel_rfl
  g8 := by kernel_rfl }
open Go.RowKit Go.Lib in
theorem Tryd.unicode_IsLetter (c : Nat) (w : World) (hc : c < 256) (htab : Lib.TabIs Tryd.prog w "unicode.properties" .u8 Lib.propertiesTab) :
    Calls Tryd.prog 86 #[.int .i32 c] w fun e w' => e = .returned (.bool (Lib.isLetterL c)) ∧ w' = w := Any.unicode_IsLetter Tryd.lays200 (by kernel_rfl) c w hc htab
def Tryd.laysM200_ren : Go.Shelf.Ren := ⟨fun | 200 => 86 | 261 => 95 | 311 => 96 | 312 => 97 | n => n, fun | 21 => 21 | 4 => 4 | 51 => 103 | 5 => 5 | 119 => 95 | 0 => 0 | 141 => 105 | 196 => 116 | 193 => 113 | 3 => 3 | 198 => 119 | 49 => 117 | 194 => 114 | 201 => 122 | 226 => 124 | 46 => 96 | 227 => 125 | n => n, fun | 7 => 2 | 8 => 3 | n => n⟩
theorem Tryd.laysM200 : Go.Proofs.LaysM.n200 Tryd.prog Tryd.laysM200_ren := {
  mixed := by kernel_rfl
  f200 := Tryd.func86.trans (congrArg some (by kernel_rfl))
  f261 := Tryd.func95.trans (congrArg some (by kernel_rfl))
  f311 := Tryd.func96.trans (congrArg some (by kernel_rfl))
  f312 := Tryd.func97.trans (congrArg some (by kernel_rfl))
  t0 := Tryd.underlying0
  a0 := Tryd.isAgg0
  z0 := Tryd.sizeOf0
  v0 := Tryd.zeroValue0
  t3 := Tryd.underlying3
  a3 := Tryd.isAgg3
  z3 := Tryd.sizeOf3
  v3 := Tryd.zeroValue3
  t4 := Tryd.underlying4
  a4 := Tryd.isAgg4
  z4 := Tryd.sizeOf4
  v4 := Tryd.zeroValue4
  t5 := Tryd.underlying5
  a5 := Tryd.isAgg5
  z5 := Tryd.sizeOf5
  v5 := Tryd.zeroValue5
  t21 := Tryd.underlying21
  a21 := Tryd.isAgg21
  z21 := Tryd.sizeOf21
  v21 := Tryd.zeroValue21
  t46 := Tryd.underlying96
  a46 := Tryd.isAgg96
  z46 := Tryd.sizeOf96
  v46 := Tryd.zeroValue96
  t49 := Tryd.underlying117
  a49 := Tryd.isAgg117
  z49 := Tryd.sizeOf117
  v49 := Tryd.zeroValue117
  t51 := Tryd.underlying103
  a51 := Tryd.isAgg103
  z51 := Tryd.sizeOf103
  v51 := Tryd.zeroValue103
  t119 := Tryd.underlying95
  a119 := Tryd.isAgg95
  z119 := Tryd.sizeOf95
  t141 := Tryd.underlying105
  a141 := Tryd.isAgg105
  z141 := Tryd.sizeOf105
  v141 := Tryd.zeroValue105
  t193 := Tryd.underlying113
  a193 := Tryd.isAgg113
  z193 := Tryd.sizeOf113
  v193 := Tryd.zeroValue113
  t194 := Tryd.underlying114
  a194 := Tryd.isAgg114
  z194 := Tryd.sizeOf114
  v194 := Tryd.zeroValue114
  t196 := Tryd.underlying116
  a196 := Tryd.isAgg116
  z196 := Tryd.sizeOf116
  v196 := Tryd.zeroValue116
  t198 := Tryd.underlying119
  a198 := Tryd.isAgg119
  z198 := Tryd.sizeOf119
  v198 := Tryd.zeroValue119
  t201 := Tryd.underlying122
  a201 := Tryd.isAgg122
  z201 := Tryd.sizeOf122
  v201 := Tryd.zeroValue122
  t226 := Tryd.underlying124
  a226 := Tryd.isAgg124
  z226 := Tryd.sizeOf124
  v226 := Tryd.zeroValue124
  t227 := Tryd.underlying125
  a227 := Tryd.isAgg125
  z227 := Tryd.sizeOf125
  v227 := Tryd.zeroValue125
  g7 := by kernel_rfl
  g8 := by kernel_rfl
  i0 := by kernel_rfl
  i3 := by kernel_rfl
  i4 := by kernel_rfl
  i5 := by kernel_rfl
  i21 := by kernel_rfl
  i46 := by kernel_rfl
  i49 := by kernel_rfl
  i51 := by kernel_rfl
  i141 := by kernel_rfl
  i193 := by kernel_rfl
  i194 := by kernel_rfl
  i196 := by kernel_rfl
  i198 := by kernel_rfl
  i201 := by kernel_rfl
  i226 := by kernel_rfl
  i227 := by kernel_rfl
  m7 := by kernel_rfl
  m8 := by kernel_rfl }
open Go.RowKit Go.Lib in
theorem Tryd.unicode_IsLetter_laid (c : Nat) (w : World) (hc : c < 256) (htab : Lib.TabIs Tryd.prog w "unicode.properties" .u8 Lib.propertiesTab) :
    Calls Tryd.prog 86 #[.int .i32 c] w fun e w' => e = .returned (.bool (Lib.isLetterL c)) ∧ w' = w := Any.unicode_IsLetter_laid Tryd.laysM200 c w hc htab
open Go.RowKit Go.Lib in
theorem Tryd.utf8_RuneCountInString_ascii (s : ByteArray) (w : World) (hs : s.size < 4294967281) (hascii : ∀ (j : Nat) b, s.data.toList[j]? = some b → b.toNat < 128) :
    Calls Tryd.prog 68 #[.string s] w fun e w' => e = .returned (.int .i64 s.size) ∧ w' = w.iter s s.size := Any.utf8_RuneCountInString_ascii Tryd.lays195 s w hs hascii
def Tryd.lays260_ren : Go.Shelf.Ren := ⟨fun | 260 => 82 | n => n, fun | 9 => 9 | 21 => 21 | 3 => 3 | 4 => 4 | 5 => 5 | 119 => 95 | 0 => 0 | 46 => 96 | 139 => 99 | 138 => 98 | n => n, fun | 3 => 0 | 4 => 1 | n => n⟩
theorem Tryd.lays260 : Go.Proofs.Lays.n260 Tryd.prog Tryd.lays260_ren := {
  mixed := by kernel_rfl
  f260 := Tryd.func82.trans (congrArg some (by kernel_rfl))
  t0 := Tryd.underlying0
  a0 := Tryd.isAgg0
  z0 := Tryd.sizeOf0
  v0 := Tryd.zeroValue0
  t3 := Tryd.underlying3
  a3 := Tryd.isAgg3
  z3 := Tryd.sizeOf3
  v3 := Tryd.zeroValue3
  t4 := Tryd.underlying4
  a4 := Tryd.isAgg4
  z4 := Tryd.sizeOf4
  v4 := Tryd.zeroValue4
  t5 := Tryd.underlying5
  a5 := Tryd.isAgg5
  z5 := Tryd.sizeOf5
  v5 := Tryd.zeroValue5
  t9 := Tryd.underlying9
  a9 := Tryd.isAgg9
  z9 := Tryd.sizeOf9
  v9 := Tryd.zeroValue9
  t21 := Tryd.underlying21
  a21 := Tryd.isAgg21
  z21 := Tryd.sizeOf21
  v21 := Tryd.zeroValue21
  t46 := Tryd.underlying96
  a46 := Tryd.isAgg96
  z46 := Tryd.sizeOf96
  v46 := Tryd.zeroValue96
  t119 := Tryd.underlying95
  a119 := Tryd.isAgg95
  z119 := Tryd.sizeOf95
  t138 := Tryd.underlying98
  a138 := Tryd.isAgg98
  z138 := Tryd.sizeOf98
  v138 := Tryd.zeroValue98
  t139 := Tryd.underlying99
  a139 := Tryd.isAgg99
  z139 := Tryd.sizeOf99
  v139 := Tryd.zeroValue99
  g3 := by kernel_rfl
  g4 := by kernel_rfl }
open Go.RowKit Go.Lib in
theorem Tryd.utf8_decodeRuneInStringSlow (s : ByteArray) (w : World) (hT : Lib.Utf8Tabs 0 1 w) :
    Calls Tryd.prog 82 #[.string s] w fun e w' => e = .returned (.tuple #[.int .i32 (Lib.decodeGo s).1, .int .i64 (Lib.decodeGo s).2]) ∧ Below w.heap.size w w' := Any.utf8_decodeRuneInStringSlow Tryd.lays260 s w hT
def Tryd.lays197_ren : Go.Shelf.Ren := ⟨fun | 197 => 66 | 260 => 82 | n => n, fun | 9 => 9 | 21 => 21 | 3 => 3 | 4 => 4 | 5 => 5 | 105 => 60 | 119 => 95 | 0 => 0 | 46 => 96 | 139 => 99 | 138 => 98 | n => n, fun | 3 => 0 | 4 => 1 | n => n⟩
theorem Tryd.lays197 : Go.Proofs.Lays.n197 Tryd.prog Tryd.lays197_ren := {
  mixed := by kernel_rfl
  f197 := Tryd.func66.trans (congrArg some (by kernel_rfl))
  f260 := Tryd.func82.trans (congrArg some (by kernel_rfl))
  t0 := Tryd.underlying0
  a0 := Tryd.isAgg0
  z0 := Tryd.sizeOf0
  v0 := Tryd.zeroValue0
  t3 := Tryd.underlying3
  a3 := Tryd.isAgg3
  z3 := Tryd.sizeOf3
  v3 := Tryd.zeroValue3
  t4 := Tryd.underlying4
  a4 := Tryd.isAgg4
  z4 := Tryd.sizeOf4
  v4 := Tryd.zeroValue4
  t5 := Tryd.underlying5
  a5 := Tryd.isAgg5
  z5 := Tryd.sizeOf5
  v5 := Tryd.zeroValue5
  t9 := Tryd.underlying9
  a9 := Tryd.isAgg9
  z9 := Tryd.sizeOf9
  v9 := Tryd.zeroValue9
  t21 := Tryd.underlying21
  a21 := Tryd.isAgg21
  z21 := Tryd.sizeOf21
  v21 := Tryd.zeroValue21
  t46 := Tryd.underlying96
  a46 := Tryd.isAgg96
  z46 := Tryd.sizeOf96
  v46 := Tryd.zeroValue96
  t105 := Tryd.underlying60
  a105 := Tryd.isAgg60
  z105 := Tryd.sizeOf60
  v105 := Tryd.zeroValue60
  t119 := Tryd.underlying95
  a119 := Tryd.isAgg95
  z119 := Tryd.sizeOf95
  t138 := Tryd.underlying98
  a138 := Tryd.isAgg98
  z138 := Tryd.sizeOf98
  v138 := Tryd.zeroValue98
  t139 := Tryd.underlying99
  a139 := Tryd.isAgg99
  z139 := Tryd.sizeOf99
  v139 := Tryd.zeroValue99
  g3 := by kernel_rfl
  g4 := by kernel_rfl }
open Go.RowKit Go.Lib in
theorem Tryd.utf8_DecodeRuneInString (s : ByteArray) (w : World) (hT : Lib.Utf8Tabs 0 1 w) :
    Calls Tryd.prog 66 #[.string s] w fun e w' => e = .returned (.tuple #[.int .i32 (Lib.decodeGo s).1, .int .i64 (Lib.decodeGo s).2]) ∧ Below w.heap.size w w' := Any.utf8_DecodeRuneInString Tryd.lays197 s w hT
def Tryd.lays311_ren : Go.Shelf.Ren := ⟨fun | 311 => 96 | n => n, fun | 193 => 113 | 49 => 117 | 4 => 4 | 3 => 3 | 0 => 0 | 226 => 124 | 198 => 119 | 46 => 96 | n => n, fun | n => n⟩
theorem Tryd.lays311 : Go.Proofs.Lays.n311 Tryd.prog Tryd.lays311_ren := {
  mixed := by kernel_rfl
  f311 := Tryd.func96.trans (congrArg some (by kernel_rfl))
  t0 := Tryd.underlying0
  a0 := Tryd.isAgg0
  z0 := Tryd.sizeOf0
  v0 := Tryd.zeroValue0
  t3 := Tryd.underlying3
  a3 := Tryd.isAgg3
  z3 := Tryd.sizeOf3
  v3 := Tryd.zeroValue3
  t4 := Tryd.underlying4
  a4 := Tryd.isAgg4
  z4 := Tryd.sizeOf4
  v4 := Tryd.zeroValue4
  t46 := Tryd.underlying96
  a46 := Tryd.isAgg96
  z46 := Tryd.sizeOf96
  v46 := Tryd.zeroValue96
  t49 := Tryd.underlying117
  a49 := Tryd.isAgg117
  z49 := Tryd.sizeOf117
  v49 := Tryd.zeroValue117
  t193 := Tryd.underlying113
  a193 := Tryd.isAgg113
  z193 := Tryd.sizeOf113
  v193 := Tryd.zeroValue113
  t198 := Tryd.underlying119
  a198 := Tryd.isAgg119
  z198 := Tryd.sizeOf119
  v198 := Tryd.zeroValue119
  t226 := Tryd.underlying124
  a226 := Tryd.isAgg124
  z226 := Tryd.sizeOf124
  v226 := Tryd.zeroValue124 }
open Go.RowKit Go.Lib in
theorem Tryd.unicode_is16_white (R oR : Nat) (z : Nat) (w : World) (hz : z < 65536) (hz0 : 255 < z) (c6 : w.cell? ⟨R, oR + 6, none⟩ = some (.int .u16 160)) (c7 : w.cell? ⟨R, oR + 7, none⟩ = some (.int .u16 5760)) (c8 : w.cell? ⟨R, oR + 8, none⟩ = some (.int .u16 5600)) (c9 : w.cell? ⟨R, oR + 9, none⟩ = some (.int .u16 8192)) (c10 : w.cell? ⟨R, oR + 10, none⟩ = some (.int .u16 8202)) (c11 : w.cell? ⟨R, oR + 11, none⟩ = some (.int .u16 1)) (c12 : w.cell? ⟨R, oR + 12, none⟩ = some (.int .u16 8232)) (c13 : w.cell? ⟨R, oR + 13, none⟩ = some (.int .u16 8233)) (c14 : w.cell? ⟨R, oR + 14, none⟩ = some (.int .u16 1)) (c15 : w.cell? ⟨R, oR + 15, none⟩ = some (.int .u16 8239)) (c16 : w.cell? ⟨R, oR + 16, none⟩ = some (.int .u16 8287)) (c17 : w.cell? ⟨R, oR + 17, none⟩ = some (.int .u16 48)) (c18 : w.cell? ⟨R, oR + 18, none⟩ = some (.int .u16 12288)) (c19 : w.cell? ⟨R, oR + 19, none⟩ = some (.int .u16 12288)) (c20 : w.cell? ⟨R, oR + 20, none⟩ = some (.int .u16 1)) :
    Calls Tryd.prog 96 #[.slice (some ⟨R, oR + 6, none⟩) 5 5, .int .u16 z] w fun e w' => e = .returned (.bool (Lib.isSpaceR z)) ∧ Below w.heap.size w w' := Any.unicode_is16_white Tryd.lays311 R oR z w hz hz0 c6 c7 c8 c9 c10 c11 c12 c13 c14 c15 c16 c17 c18 c19 c20
def Tryd.lays261_ren : Go.Shelf.Ren := ⟨fun | 261 => 95 | 311 => 96 | 312 => 97 | n => n, fun | 141 => 105 | 21 => 21 | 4 => 4 | 0 => 0 | 196 => 116 | 193 => 113 | 3 => 3 | 51 => 103 | 198 => 119 | 49 => 117 | 194 => 114 | 201 => 122 | 226 => 124 | 46 => 96 | 227 => 125 | n => n, fun | n => n⟩
theorem Tryd.lays261 : Go.Proofs.Lays.n261 Tryd.prog Tryd.lays261_ren := {
  mixed := by kernel_rfl
  f261 := Tryd.func95.trans (congrArg some (by kernel_rfl))
  f311 := Tryd.func96.trans (congrArg some (by kernel_rfl))
  f312 := Tryd.func97.trans (congrArg some (by kernel_rfl))
  t0 := Tryd.underlying0
  a0 := Tryd.isAgg0
  z0 := Tryd.sizeOf0
  v0 := Tryd.zeroValue0
  t3 := Tryd.underlying3
  a3 := Tryd.isAgg3
  z3 := Tryd.sizeOf3
  v3 := Tryd.zeroValue3
  t4 := Tryd.underlying4
  a4 := Tryd.isAgg4
  z4 := Tryd.sizeOf4
  v4 := Tryd.zeroValue4
  t21 := Tryd.underlying21
  a21 := Tryd.isAgg21
  z21 := Tryd.sizeOf21
  v21 := Tryd.zeroValue21
  t46 := Tryd.underlying96
  a46 := Tryd.isAgg96
  z46 := Tryd.sizeOf96
  v46 := Tryd.zeroValue96
  t49 := Tryd.underlying117
  a49 := Tryd.isAgg117
  z49 := Tryd.sizeOf117
  v49 := Tryd.zeroValue117
  t51 := Tryd.underlying103
  a51 := Tryd.isAgg103
  z51 := Tryd.sizeOf103
  v51 := Tryd.zeroValue103
  t141 := Tryd.underlying105
  a141 := Tryd.isAgg105
  z141 := Tryd.sizeOf105
  v141 := Tryd.zeroValue105
  t193 := Tryd.underlying113
  a193 := Tryd.isAgg113
  z193 := Tryd.sizeOf113
  v193 := Tryd.zeroValue113
  t194 := Tryd.underlying114
  a194 := Tryd.isAgg114
  z194 := Tryd.sizeOf114
  v194 := Tryd.zeroValue114
  t196 := Tryd.underlying116
  a196 := Tryd.isAgg116
  z196 := Tryd.sizeOf116
  v196 := Tryd.zeroValue116
  t198 := Tryd.underlying119
  a198 := Tryd.isAgg119
  z198 := Tryd.sizeOf119
  v198 := Tryd.zeroValue119
  t201 := Tryd.underlying122
  a201 := Tryd.isAgg122
  z201 := Tryd.sizeOf122
  v201 := Tryd.zeroValue122
  t226 := Tryd.underlying124
  a226 := Tryd.isAgg124
  z226 := Tryd.sizeOf124
  v226 := Tryd.zeroValue124
  t227 := Tryd.underlying125
  a227 := Tryd.isAgg125
  z227 := Tryd.sizeOf125
  v227 := Tryd.zeroValue125 }
open Go.RowKit Go.Lib in
theorem Tryd.unicode_isExcludingLatin_white (T oT R oR : Nat) (r : Int) (w : World) (hlo : -2147483648 ≤ r) (hhi : r ≤ 2147483647) (hr : r < 0 ∨ 255 < r) (h2 : w.cell? ⟨T, oT, none⟩ = some (.slice (some ⟨R, oR, none⟩) 7 7)) (h3 : w.cell? ⟨T, oT + 1, none⟩ = some (.slice none 0 0)) (h4 : w.cell? ⟨T, oT + 2, none⟩ = some (.int .i64 2)) (h5 : ∀ i, i < 21 → w.cell? ⟨R, oR + i, none⟩ = some (.int .u16 (whiteT.getD i 0))) :
    Calls Tryd.prog 95 #[.pointer (some ⟨T, oT, none⟩), .int .i32 r] w fun e w' => e = .returned (.bool (Lib.isSpaceZ r)) ∧ Below w.heap.size w w' := Any.unicode_isExcludingLatin_white Tryd.lays261 T oT R oR r w hlo hhi hr h2 h3 h4 h5
open Go.RowKit Go.Lib in
theorem Tryd.unicode_is16_any (T : Array Rg) (R oR cap : Nat) (z : Nat) (w : World) (hz : z < 65536) (hT : RgTab .u16 R oR T w) (hok : RgOk 65536 T) (hn : T.size ≤ 1000000000) :
    Calls Tryd.prog 96 #[.slice (some ⟨R, oR, none⟩) T.size cap, .int .u16 z] w fun e w' => e = .returned (.bool (is16Go T z)) ∧ ∃ q, w' = w.drewN q := Any.unicode_is16_any Tryd.lays311 T R oR cap z w hz hT hok hn
def Tryd.lays312_ren : Go.Shelf.Ren := ⟨fun | 312 => 97 | n => n, fun | 194 => 114 | 51 => 103 | 4 => 4 | 3 => 3 | 0 => 0 | 227 => 125 | 201 => 122 | 46 => 96 | n => n, fun | n => n⟩
theorem Tryd.lays312 : Go.Proofs.Lays.n312 Tryd.prog Tryd.lays312_ren := {
  mixed := by kernel_rfl
  f312 := Tryd.func97.trans (congrArg some (by kernel_rfl))
  t0 := Tryd.underlying0
  a0 := Tryd.isAgg0
  z0 := Tryd.sizeOf0
  v0 := Tryd.zeroValue0
  t3 := Tryd.underlying3
  a3 := Tryd.isAgg3
  z3 := Tryd.sizeOf3
  v3 := Tryd.zeroValue3
  t4 := Tryd.underlying4
  a4 := Tryd.isAgg4
  z4 := Tryd.sizeOf4
  v4 := Tryd.zeroValue4
  t46 := Tryd.underlying96
  a46 := Tryd.isAgg96
  z46 := Tryd.sizeOf96
  v46 := Tryd.zeroValue96
  t51 := Tryd.underlying103
  a51 := Tryd.isAgg103
  z51 := Tryd.sizeOf103
  v51 := Tryd.zeroValue103
  t194 := Tryd.underlying114
  a194 := Tryd.isAgg114
  z194 := Tryd.sizeOf114
  v194 := Tryd.zeroValue114
  t201 := Tryd.underlying122
  a201 := Tryd.isAgg122
  z201 := Tryd.sizeOf122
  v201 := Tryd.zeroValue122
  t227 := Tryd.underlying125
  a227 := Tryd.isAgg125
  z227 := Tryd.sizeOf125
  v227 := Tryd.zeroValue125 }
open Go.RowKit Go.Lib in
theorem Tryd.unicode_is32_any (T : Array Rg) (R oR cap : Nat) (z : Nat) (w : World) (hz : z < 4294967296) (hT : RgTab .u32 R oR T w) (hok : RgOk 4294967296 T) (hn : T.size ≤ 1000000000) :
    Calls Tryd.prog 97 #[.slice (some ⟨R, oR, none⟩) T.size cap, .int .u32 z] w fun e w' => e = .returned (.bool (is32Go T z)) ∧ Below w.heap.size w w' := Any.unicode_is32_any Tryd.lays312 T R oR cap z w hz hT hok hn
open Go.RowKit Go.Lib in
theorem Tryd.unicode_isExcludingLatin_any (Tb oT : Nat) (T : RTab) (r : Int) (w : World) (hlo : -2147483648 ≤ r) (hhi : r ≤ 2147483647) (hA : RTabAt Tb oT T w) (hok : RTabOk T) :
    Calls Tryd.prog 95 #[.pointer (some ⟨Tb, oT, none⟩), .int .i32 r] w fun e w' => e = .returned (.bool (exclGo T r)) ∧ Below w.heap.size w w' := Any.unicode_isExcludingLatin_any Tryd.lays261 Tb oT T r w hlo hhi hA hok
open Go.RowKit Go.Lib in
theorem Tryd.unicode_IsLetter_any (T : RTab) (r : Int) (w : World) (hlo : -2147483648 ≤ r) (hhi : r ≤ 2147483647) (htab : Lib.TabIs Tryd.prog w "unicode.properties" .u8 Lib.propertiesTab) (hV : RVar 3 T w) (hok : RTabOk T) :
    Calls Tryd.prog 86 #[.int .i32 r] w fun e w' => e = .returned (.bool (if latin1 r then isLetterL r else exclGo T r)) ∧ Below w.heap.size w w' := Any.unicode_IsLetter_any Tryd.lays200 (by kernel_rfl) T r w hlo hhi htab hV hok
open Go.RowKit Go.Lib in
theorem Tryd.unicode_IsLetter_all (r : Int) (w : World) (hlo : -2147483648 ≤ r) (hhi : r ≤ 2147483647) (htab : Lib.TabIs Tryd.prog w "unicode.properties" .u8 Lib.propertiesTab) (hV : RVar 3 letterT w) :
    Calls Tryd.prog 86 #[.int .i32 r] w fun e w' => e = .returned (.bool (isLetterU r)) ∧ Below w.heap.size w w' := Any.unicode_IsLetter_all Tryd.lays200 (by kernel_rfl) r w hlo hhi htab hV
end Go.Proofs
