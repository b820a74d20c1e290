/-
The library's contracts at this program, laid in plain words.
-/
import Derived.Shelf.Strings.Builder1
import Derived.Shelf.Strings.Builder2
import Derived.Shelf.Strings.OnBuilder
import Derived.Shelf.Small.Utf8
import Derived.Shelf.Strings.BuilderF
import Derived.Shelf.Strings.BuilderK
import Derived.Shelf.Strings.BuilderRune
import Derived.Shelf.Utf8.AppendRune
import Derived.Shelf.Utf8.AppendRunePlain
import Derived.Shelf.Strings.Builder2Cap
import Derived.Shelf.Strconv.Itoa0
import Derived.Shelf.Strconv.Itoa1
import Derived.Shelf.LaysM
import Derived.Shelf.Strconv.Itoa2
import Derived.Shelf.GgClosure.StringsIndexFunc
import Derived.Shelf.GgClosure.StringsTrimFunc
import Derived.Shelf.Strings.Prefix
import Derived.Shelf.Unicode.Latin
import Derived.Shelf.Unicode.Decode
import Derived.Shelf.Bits.Mul64
import Derived.Shelf.Strings.Repeat
import Derived.Shelf.Unicode.DecodeSlow
import Derived.Shelf.Unicode.DecodeAny
import Derived.Shelf.Unicode.Is16White
import Derived.Shelf.Unicode.IsSpaceAny
import Derived.Shelf.Unicode.DecodeLast
import Derived.Shelf.Unicode.CaseLookup
import Derived.Shelf.Unicode.CaseConvert
import Derived.Shelf.Unicode.CaseTo
import Derived.Shelf.Unicode.CaseLaid
import Derived.Shelf.Strings.MapAny
import Derived.Shelf.Strings.CaseAny
import Derived.Shelf.Unicode.Is16Any
import Derived.Shelf.Unicode.Is32Any
import Derived.Shelf.Unicode.ExclAny
import Derived.Shelf.Strings.FuncGrows
import Derived.Shelf.Strings.BuilderCap
import Derived.Test.YtfnogloefimeiaaDoorProg
namespace Go.Proofs
open Go.Shelf
def Tryd.lays240_ren : Go.Shelf.Ren := ⟨fun | 0 => 0 | 1 => 1 | 2 => 2 | 99 => 57 | 105 => 47 | 118 => 83 | 120 => 100 | 129 => 94 | 158 => 51 | 159 => 52 | 163 => 46 | 165 => 58 | 166 => 59 | 167 => 66 | 168 => 84 | 169 => 61 | 170 => 60 | 197 => 62 | 199 => 54 | 203 => 68 | 204 => 69 | 206 => 75 | 212 => 56 | 230 => 67 | 237 => 53 | 238 => 55 | 240 => 76 | 241 => 77 | 242 => 98 | 260 => 78 | 261 => 71 | 262 => 86 | 263 => 73 | 264 => 74 | 270 => 85 | 271 => 90 | 272 => 70 | 273 => 72 | 274 => 104 | 275 => 105 | 276 => 91 | 277 => 92 | 278 => 103 | 283 => 79 | 284 => 80 | 285 => 81 | 286 => 82 | 311 => 88 | 312 => 89 | 313 => 99 | 315 => 87 | 317 => 93 | 318 => 95 | 319 => 96 | 320 => 97 | 337 => 101 | 338 => 102 | 347 => 106 | 348 => 107 | 349 => 108 | 350 => 109 | 351 => 110 | 352 => 111 | 353 => 112 | 354 => 113 | 355 => 114 | 356 => 115 | 357 => 116 | 358 => 117 | 359 => 118 | 360 => 119 | 361 => 120 | 362 => 121 | 366 => 122 | 367 => 136 | n => n, fun | 0 => 0 | 1 => 1 | 2 => 2 | 3 => 3 | 4 => 4 | 5 => 5 | 6 => 6 | 7 => 7 | 8 => 8 | 9 => 9 | 10 => 10 | 11 => 11 | 12 => 12 | 13 => 13 | 14 => 14 | 15 => 15 | 16 => 16 | 17 => 17 | 18 => 18 | 19 => 19 | 20 => 20 | 21 => 21 | 22 => 50 | 24 => 25 | 26 => 42 | 27 => 63 | 31 => 29 | 37 => 37 | 39 => 83 | 40 => 31 | 41 => 115 | 46 => 36 | 47 => 108 | 49 => 90 | 51 => 34 | 52 => 116 | 53 => 46 | 54 => 79 | 65 => 43 | 66 => 33 | 69 => 23 | 70 => 51 | 71 => 52 | 72 => 53 | 73 => 54 | 74 => 55 | 75 => 56 | 76 => 57 | 77 => 58 | 78 => 66 | 79 => 84 | 80 => 60 | 81 => 59 | 83 => 77 | 104 => 24 | 105 => 61 | 106 => 62 | 107 => 68 | 109 => 48 | 110 => 49 | 111 => 107 | 114 => 103 | 119 => 47 | 121 => 67 | 125 => 30 | 126 => 109 | 127 => 76 | 137 => 100 | 138 => 101 | 139 => 102 | 140 => 69 | 141 => 70 | 142 => 85 | 146 => 72 | 147 => 73 | 148 => 74 | 149 => 75 | 155 => 71 | 160 => 117 | 161 => 118 | 162 => 112 | 163 => 119 | 164 => 97 | 165 => 98 | 166 => 99 | 171 => 78 | 172 => 80 | 173 => 81 | 174 => 82 | 193 => 86 | 194 => 87 | 195 => 88 | 196 => 89 | 197 => 91 | 198 => 92 | 199 => 93 | 200 => 94 | 201 => 95 | 202 => 96 | 203 => 110 | 204 => 111 | 205 => 122 | 206 => 123 | 207 => 124 | 208 => 125 | 211 => 104 | 212 => 105 | 213 => 106 | 226 => 113 | 227 => 114 | 232 => 120 | 233 => 121 | 238 => 126 | 239 => 127 | 240 => 128 | 241 => 129 | 242 => 130 | 243 => 131 | 244 => 132 | 245 => 133 | 246 => 134 | 247 => 135 | 248 => 136 | 249 => 137 | n => n, fun | 0 => 0 | 1 => 6 | 3 => 2 | 4 => 3 | 6 => 1 | 13 => 5 | 17 => 4 | 18 => 7 | 19 => 8 | n => n⟩
theorem Tryd.lays240 : Go.Proofs.Lays.n240 Tryd.prog Tryd.lays240_ren := {
  mixed := by kernel_rfl
  f240 := Tryd.func76.trans (congrArg some (by kernel_rfl))
  f276 := Tryd.func91.trans (congrArg some (by kernel_rfl))
  t0 := Tryd.underlying0
  a0 := Tryd.isAgg0
  z0 := Tryd.sizeOf0
  v0 := Tryd.zeroValue0
  t4 := Tryd.underlying4
  a4 := Tryd.isAgg4
  z4 := Tryd.sizeOf4
  v4 := Tryd.zeroValue4
  t9 := Tryd.underlying9
  a9 := Tryd.isAgg9
  z9 := Tryd.sizeOf9
  v9 := Tryd.zeroValue9
  t20 := Tryd.underlying20
  a20 := Tryd.isAgg20
  z20 := Tryd.sizeOf20
  v20 := Tryd.zeroValue20
  t70 := Tryd.underlying51
  a70 := Tryd.isAgg51
  z70 := Tryd.sizeOf51
  v70 := Tryd.zeroValue51
  t72 := Tryd.underlying53
  a72 := Tryd.isAgg53
  z72 := Tryd.sizeOf53
  v72 := Tryd.zeroValue53
  t164 := Tryd.underlying97
  a164 := Tryd.isAgg97
  z164 := Tryd.sizeOf97
  v164 := Tryd.zeroValue97 }
theorem Tryd.Builder_X72_240 : Builder.X72 Tryd.prog Tryd.lays240_ren := {
  sizeBuilder := by kernel_rfl
  liesBuilder := by kernel_rfl }
open Go.RowKit in
theorem Tryd.Builder_copyCheck (B b : Nat) (bs : List Value) (w : World) (h : Lib.IsBuilder 53 5 B b bs w) :
    Calls Tryd.prog 76 #[.pointer (some ⟨b, 0, none⟩)] w fun e w' => e = .returned (.tuple #[]) ∧ (Lib.BuilderAt 53 5 B b (.pointer (some ⟨b, 0, none⟩)) bs w' ∧ Below B w w') := Any.Builder_copyCheck Tryd.lays240 Tryd.Builder_X72_240 B b bs w h
def Tryd.lays170_ren : Go.Shelf.Ren := ⟨fun | 170 => 60 | n => n, fun | 70 => 51 | 3 => 3 | 0 => 0 | 72 => 53 | 37 => 37 | 5 => 5 | n => n, fun | n => n⟩
theorem Tryd.lays170 : Go.Proofs.Lays.n170 Tryd.prog Tryd.lays170_ren := {
  mixed := by kernel_rfl
  f170 := Tryd.func60.trans (congrArg some (by kernel_rfl))
  t0 := Tryd.underlying0
  a0 := Tryd.isAgg0
  z0 := Tryd.sizeOf0
  v0 := Tryd.zeroValue0
  t3 := Tryd.underlying3
  a3 := Tryd.isAgg3
  z3 := Tryd.sizeOf3
  v3 := Tryd.zeroValue3
  t37 := Tryd.underlying37
  a37 := Tryd.isAgg37
  z37 := Tryd.sizeOf37
  v37 := Tryd.zeroValue37
  t70 := Tryd.underlying51
  a70 := Tryd.isAgg51
  z70 := Tryd.sizeOf51
  v70 := Tryd.zeroValue51
  t72 := Tryd.underlying53
  a72 := Tryd.isAgg53
  z72 := Tryd.sizeOf53
  v72 := Tryd.zeroValue53 }
open Go.RowKit in
theorem Tryd.Builder_Len (B b : Nat) (bs : List Value) (w : World) (h : Lib.IsBuilder 53 5 B b bs w) :
    Calls Tryd.prog 60 #[.pointer (some ⟨b, 0, none⟩)] w fun e w' => e = .returned (.int .i64 bs.length) ∧ w' = w := Any.Builder_Len Tryd.lays170 B b bs w h
def Tryd.lays167_ren : Go.Shelf.Ren := ⟨fun | 0 => 0 | 1 => 1 | 2 => 2 | 99 => 57 | 105 => 47 | 118 => 83 | 120 => 100 | 129 => 94 | 158 => 51 | 159 => 52 | 163 => 46 | 165 => 58 | 166 => 59 | 167 => 66 | 168 => 84 | 169 => 61 | 170 => 60 | 197 => 62 | 199 => 54 | 203 => 68 | 204 => 69 | 206 => 75 | 212 => 56 | 230 => 67 | 237 => 53 | 238 => 55 | 240 => 76 | 241 => 77 | 242 => 98 | 260 => 78 | 261 => 71 | 262 => 86 | 263 => 73 | 264 => 74 | 270 => 85 | 271 => 90 | 272 => 70 | 273 => 72 | 274 => 104 | 275 => 105 | 276 => 91 | 277 => 92 | 278 => 103 | 283 => 79 | 284 => 80 | 285 => 81 | 286 => 82 | 311 => 88 | 312 => 89 | 313 => 99 | 315 => 87 | 317 => 93 | 318 => 95 | 319 => 96 | 320 => 97 | 337 => 101 | 338 => 102 | 347 => 106 | 348 => 107 | 349 => 108 | 350 => 109 | 351 => 110 | 352 => 111 | 353 => 112 | 354 => 113 | 355 => 114 | 356 => 115 | 357 => 116 | 358 => 117 | 359 => 118 | 360 => 119 | 361 => 120 | 362 => 121 | 366 => 122 | 367 => 136 | n => n, fun | 0 => 0 | 1 => 1 | 2 => 2 | 3 => 3 | 4 => 4 | 5 => 5 | 6 => 6 | 7 => 7 | 8 => 8 | 9 => 9 | 10 => 10 | 11 => 11 | 12 => 12 | 13 => 13 | 14 => 14 | 15 => 15 | 16 => 16 | 17 => 17 | 18 => 18 | 19 => 19 | 20 => 20 | 21 => 21 | 22 => 50 | 24 => 25 | 26 => 42 | 27 => 63 | 31 => 29 | 37 => 37 | 39 => 83 | 40 => 31 | 41 => 115 | 46 => 36 | 47 => 108 | 49 => 90 | 51 => 34 | 52 => 116 | 53 => 46 | 54 => 79 | 65 => 43 | 66 => 33 | 69 => 23 | 70 => 51 | 71 => 52 | 72 => 53 | 73 => 54 | 74 => 55 | 75 => 56 | 76 => 57 | 77 => 58 | 78 => 66 | 79 => 84 | 80 => 60 | 81 => 59 | 83 => 77 | 104 => 24 | 105 => 61 | 106 => 62 | 107 => 68 | 109 => 48 | 110 => 49 | 111 => 107 | 114 => 103 | 119 => 47 | 121 => 67 | 125 => 30 | 126 => 109 | 127 => 76 | 137 => 100 | 138 => 101 | 139 => 102 | 140 => 69 | 141 => 70 | 142 => 85 | 146 => 72 | 147 => 73 | 148 => 74 | 149 => 75 | 155 => 71 | 160 => 117 | 161 => 118 | 162 => 112 | 163 => 119 | 164 => 97 | 165 => 98 | 166 => 99 | 171 => 78 | 172 => 80 | 173 => 81 | 174 => 82 | 193 => 86 | 194 => 87 | 195 => 88 | 196 => 89 | 197 => 91 | 198 => 92 | 199 => 93 | 200 => 94 | 201 => 95 | 202 => 96 | 203 => 110 | 204 => 111 | 205 => 122 | 206 => 123 | 207 => 124 | 208 => 125 | 211 => 104 | 212 => 105 | 213 => 106 | 226 => 113 | 227 => 114 | 232 => 120 | 233 => 121 | 238 => 126 | 239 => 127 | 240 => 128 | 241 => 129 | 242 => 130 | 243 => 131 | 244 => 132 | 245 => 133 | 246 => 134 | 247 => 135 | 248 => 136 | 249 => 137 | n => n, fun | 0 => 0 | 1 => 6 | 3 => 2 | 4 => 3 | 6 => 1 | 13 => 5 | 17 => 4 | 18 => 7 | 19 => 8 | n => n⟩
theorem Tryd.lays167 : Go.Proofs.Lays.n167 Tryd.prog Tryd.lays167_ren := {
  mixed := by kernel_rfl
  f167 := Tryd.func66.trans (congrArg some (by kernel_rfl))
  f240 := Tryd.func76.trans (congrArg some (by kernel_rfl))
  f276 := Tryd.func91.trans (congrArg some (by kernel_rfl))
  t0 := Tryd.underlying0
  a0 := Tryd.isAgg0
  z0 := Tryd.sizeOf0
  v0 := Tryd.zeroValue0
  t4 := Tryd.underlying4
  a4 := Tryd.isAgg4
  z4 := Tryd.sizeOf4
  v4 := Tryd.zeroValue4
  t5 := Tryd.underlying5
  a5 := Tryd.isAgg5
  z5 := Tryd.sizeOf5
  v5 := Tryd.zeroValue5
  t9 := Tryd.underlying9
  a9 := Tryd.isAgg9
  z9 := Tryd.sizeOf9
  v9 := Tryd.zeroValue9
  t20 := Tryd.underlying20
  a20 := Tryd.isAgg20
  z20 := Tryd.sizeOf20
  v20 := Tryd.zeroValue20
  t37 := Tryd.underlying37
  a37 := Tryd.isAgg37
  z37 := Tryd.sizeOf37
  v37 := Tryd.zeroValue37
  t70 := Tryd.underlying51
  a70 := Tryd.isAgg51
  z70 := Tryd.sizeOf51
  v70 := Tryd.zeroValue51
  t72 := Tryd.underlying53
  a72 := Tryd.isAgg53
  z72 := Tryd.sizeOf53
  v72 := Tryd.zeroValue53
  t75 := Tryd.underlying56
  a75 := Tryd.isAgg56
  z75 := Tryd.sizeOf56
  v75 := Tryd.zeroValue56
  t164 := Tryd.underlying97
  a164 := Tryd.isAgg97
  z164 := Tryd.sizeOf97
  v164 := Tryd.zeroValue97 }
theorem Tryd.Builder_Extra_167 : Builder.Extra Tryd.prog Tryd.lays167_ren := {
  sizeBuilder := by kernel_rfl
  liesBuilder := by kernel_rfl
  t5 := Tryd.underlying5
  a5 := Tryd.isAgg5
  z5 := Tryd.sizeOf5
  v5 := Tryd.zeroValue5
  infoByte := by kernel_rfl
  cellsByte := by kernel_rfl
  sizeByte := by kernel_rfl
  neB5 := by decide }
open Go.RowKit in
theorem Tryd.Builder_WriteByte (B b : Nat) (bs : List Value) (c : Int) (w : World) (h : Lib.IsBuilder 53 5 B b bs w) (hlen : bs.length + 1 ≤ 140737488355328) (hBw : B ≤ w.heap.size) :
    Calls Tryd.prog 66 #[.pointer (some ⟨b, 0, none⟩), .int .u8 c] w fun e w' => e = .returned .nilIface ∧ (Lib.BuilderAt 53 5 B b (.pointer (some ⟨b, 0, none⟩)) (bs ++ [.int .u8 c]) w' ∧ Below B w w') := Any.Builder_WriteByte Tryd.lays167 Tryd.Builder_Extra_167 B b bs c w h hlen hBw
def Tryd.lays166_ren : Go.Shelf.Ren := ⟨fun | 0 => 0 | 1 => 1 | 2 => 2 | 99 => 57 | 105 => 47 | 118 => 83 | 120 => 100 | 129 => 94 | 158 => 51 | 159 => 52 | 163 => 46 | 165 => 58 | 166 => 59 | 167 => 66 | 168 => 84 | 169 => 61 | 170 => 60 | 197 => 62 | 199 => 54 | 203 => 68 | 204 => 69 | 206 => 75 | 212 => 56 | 230 => 67 | 237 => 53 | 238 => 55 | 240 => 76 | 241 => 77 | 242 => 98 | 260 => 78 | 261 => 71 | 262 => 86 | 263 => 73 | 264 => 74 | 270 => 85 | 271 => 90 | 272 => 70 | 273 => 72 | 274 => 104 | 275 => 105 | 276 => 91 | 277 => 92 | 278 => 103 | 283 => 79 | 284 => 80 | 285 => 81 | 286 => 82 | 311 => 88 | 312 => 89 | 313 => 99 | 315 => 87 | 317 => 93 | 318 => 95 | 319 => 96 | 320 => 97 | 337 => 101 | 338 => 102 | 347 => 106 | 348 => 107 | 349 => 108 | 350 => 109 | 351 => 110 | 352 => 111 | 353 => 112 | 354 => 113 | 355 => 114 | 356 => 115 | 357 => 116 | 358 => 117 | 359 => 118 | 360 => 119 | 361 => 120 | 362 => 121 | 366 => 122 | 367 => 136 | n => n, fun | 0 => 0 | 1 => 1 | 2 => 2 | 3 => 3 | 4 => 4 | 5 => 5 | 6 => 6 | 7 => 7 | 8 => 8 | 9 => 9 | 10 => 10 | 11 => 11 | 12 => 12 | 13 => 13 | 14 => 14 | 15 => 15 | 16 => 16 | 17 => 17 | 18 => 18 | 19 => 19 | 20 => 20 | 21 => 21 | 22 => 50 | 24 => 25 | 26 => 42 | 27 => 63 | 31 => 29 | 37 => 37 | 39 => 83 | 40 => 31 | 41 => 115 | 46 => 36 | 47 => 108 | 49 => 90 | 51 => 34 | 52 => 116 | 53 => 46 | 54 => 79 | 65 => 43 | 66 => 33 | 69 => 23 | 70 => 51 | 71 => 52 | 72 => 53 | 73 => 54 | 74 => 55 | 75 => 56 | 76 => 57 | 77 => 58 | 78 => 66 | 79 => 84 | 80 => 60 | 81 => 59 | 83 => 77 | 104 => 24 | 105 => 61 | 106 => 62 | 107 => 68 | 109 => 48 | 110 => 49 | 111 => 107 | 114 => 103 | 119 => 47 | 121 => 67 | 125 => 30 | 126 => 109 | 127 => 76 | 137 => 100 | 138 => 101 | 139 => 102 | 140 => 69 | 141 => 70 | 142 => 85 | 146 => 72 | 147 => 73 | 148 => 74 | 149 => 75 | 155 => 71 | 160 => 117 | 161 => 118 | 162 => 112 | 163 => 119 | 164 => 97 | 165 => 98 | 166 => 99 | 171 => 78 | 172 => 80 | 173 => 81 | 174 => 82 | 193 => 86 | 194 => 87 | 195 => 88 | 196 => 89 | 197 => 91 | 198 => 92 | 199 => 93 | 200 => 94 | 201 => 95 | 202 => 96 | 203 => 110 | 204 => 111 | 205 => 122 | 206 => 123 | 207 => 124 | 208 => 125 | 211 => 104 | 212 => 105 | 213 => 106 | 226 => 113 | 227 => 114 | 232 => 120 | 233 => 121 | 238 => 126 | 239 => 127 | 240 => 128 | 241 => 129 | 242 => 130 | 243 => 131 | 244 => 132 | 245 => 133 | 246 => 134 | 247 => 135 | 248 => 136 | 249 => 137 | n => n, fun | 0 => 0 | 1 => 6 | 3 => 2 | 4 => 3 | 6 => 1 | 13 => 5 | 17 => 4 | 18 => 7 | 19 => 8 | n => n⟩
theorem Tryd.lays166 : Go.Proofs.Lays.n166 Tryd.prog Tryd.lays166_ren := {
  mixed := by kernel_rfl
  f166 := Tryd.func59.trans (congrArg some (by kernel_rfl))
  f240 := Tryd.func76.trans (congrArg some (by kernel_rfl))
  f276 := Tryd.func91.trans (congrArg some (by kernel_rfl))
  t0 := Tryd.underlying0
  a0 := Tryd.isAgg0
  z0 := Tryd.sizeOf0
  v0 := Tryd.zeroValue0
  t3 := Tryd.underlying3
  a3 := Tryd.isAgg3
  z3 := Tryd.sizeOf3
  v3 := Tryd.zeroValue3
  t4 := Tryd.underlying4
  a4 := Tryd.isAgg4
  z4 := Tryd.sizeOf4
  v4 := Tryd.zeroValue4
  t9 := Tryd.underlying9
  a9 := Tryd.isAgg9
  z9 := Tryd.sizeOf9
  v9 := Tryd.zeroValue9
  t20 := Tryd.underlying20
  a20 := Tryd.isAgg20
  z20 := Tryd.sizeOf20
  v20 := Tryd.zeroValue20
  t37 := Tryd.underlying37
  a37 := Tryd.isAgg37
  z37 := Tryd.sizeOf37
  v37 := Tryd.zeroValue37
  t70 := Tryd.underlying51
  a70 := Tryd.isAgg51
  z70 := Tryd.sizeOf51
  v70 := Tryd.zeroValue51
  t72 := Tryd.underlying53
  a72 := Tryd.isAgg53
  z72 := Tryd.sizeOf53
  v72 := Tryd.zeroValue53
  t75 := Tryd.underlying56
  a75 := Tryd.isAgg56
  z75 := Tryd.sizeOf56
  v75 := Tryd.zeroValue56
  t164 := Tryd.underlying97
  a164 := Tryd.isAgg97
  z164 := Tryd.sizeOf97
  v164 := Tryd.zeroValue97 }
theorem Tryd.Builder_Extra_166 : Builder.Extra Tryd.prog Tryd.lays166_ren := {
  sizeBuilder := by kernel_rfl
  liesBuilder := by kernel_rfl
  t5 := Tryd.underlying5
  a5 := Tryd.isAgg5
  z5 := Tryd.sizeOf5
  v5 := Tryd.zeroValue5
  infoByte := by kernel_rfl
  cellsByte := by kernel_rfl
  sizeByte := by kernel_rfl
  neB5 := by decide }
open Go.RowKit in
theorem Tryd.Builder_WriteString (B b : Nat) (bs : List Value) (s : ByteArray) (w : World) (h : Lib.IsBuilder 53 5 B b bs w) (hlen : bs.length + s.size ≤ 140737488355328) (hBw : B ≤ w.heap.size) :
    Calls Tryd.prog 59 #[.pointer (some ⟨b, 0, none⟩), .string s] w fun e w' => e = .returned (.tuple #[.int .i64 s.size, .nilIface]) ∧ (Lib.BuilderAt 53 5 B b (.pointer (some ⟨b, 0, none⟩)) (bs ++ Lib.strCells s) w' ∧ Below B w w') := Any.Builder_WriteString Tryd.lays166 Tryd.Builder_Extra_166 B b bs s w h hlen hBw
def Tryd.lays169_ren : Go.Shelf.Ren := ⟨fun | 169 => 61 | n => n, fun | 70 => 51 | 9 => 9 | 0 => 0 | 72 => 53 | 37 => 37 | 127 => 76 | 3 => 3 | 5 => 5 | n => n, fun | n => n⟩
theorem Tryd.lays169 : Go.Proofs.Lays.n169 Tryd.prog Tryd.lays169_ren := {
  mixed := by kernel_rfl
  f169 := Tryd.func61.trans (congrArg some (by kernel_rfl))
  t0 := Tryd.underlying0
  a0 := Tryd.isAgg0
  z0 := Tryd.sizeOf0
  v0 := Tryd.zeroValue0
  t3 := Tryd.underlying3
  a3 := Tryd.isAgg3
  z3 := Tryd.sizeOf3
  v3 := Tryd.zeroValue3
  t9 := Tryd.underlying9
  a9 := Tryd.isAgg9
  z9 := Tryd.sizeOf9
  v9 := Tryd.zeroValue9
  t37 := Tryd.underlying37
  a37 := Tryd.isAgg37
  z37 := Tryd.sizeOf37
  v37 := Tryd.zeroValue37
  t70 := Tryd.underlying51
  a70 := Tryd.isAgg51
  z70 := Tryd.sizeOf51
  v70 := Tryd.zeroValue51
  t72 := Tryd.underlying53
  a72 := Tryd.isAgg53
  z72 := Tryd.sizeOf53
  v72 := Tryd.zeroValue53
  t127 := Tryd.underlying76
  a127 := Tryd.isAgg76
  z127 := Tryd.sizeOf76
  v127 := Tryd.zeroValue76 }
theorem Tryd.Builder_Extra_169 : Builder.Extra Tryd.prog Tryd.lays169_ren := {
  sizeBuilder := by kernel_rfl
  liesBuilder := by kernel_rfl
  t5 := Tryd.underlying5
  a5 := Tryd.isAgg5
  z5 := Tryd.sizeOf5
  v5 := Tryd.zeroValue5
  infoByte := by kernel_rfl
  cellsByte := by kernel_rfl
  sizeByte := by kernel_rfl
  neB5 := by decide }
open Go.RowKit in
theorem Tryd.Builder_String (B b : Nat) (l : List UInt8) (w : World) (h : Lib.IsBuilder 53 5 B b (Lib.byteCells l) w) (h0 : l ≠ []) :
    Calls Tryd.prog 61 #[.pointer (some ⟨b, 0, none⟩)] w fun e w' => e = .returned (.string ⟨l.toArray⟩) ∧ Below B w w' := Any.Builder_String Tryd.lays169 Tryd.Builder_Extra_169 B b l w h h0
open Go.RowKit in
theorem Tryd.Builder_String_empty (B b : Nat) (w : World) (h : Lib.IsBuilder 53 5 B b [] w) (hBw : B ≤ w.heap.size) :
    Calls Tryd.prog 61 #[.pointer (some ⟨b, 0, none⟩)] w fun e w' => e = .returned (.string ⟨#[]⟩) ∧ Below B w w' := Any.Builder_String_empty Tryd.lays169 Tryd.Builder_Extra_169 B b w h hBw
open Go.RowKit in
theorem Tryd.Builder_String_any (B b : Nat) (l : List UInt8) (w : World) (h : Lib.IsBuilder 53 5 B b (Lib.byteCells l) w) (hBw : B ≤ w.heap.size) :
    Calls Tryd.prog 61 #[.pointer (some ⟨b, 0, none⟩)] w fun e w' => e = .returned (.string ⟨l.toArray⟩) ∧ Below B w w' := Any.Builder_String_any Tryd.lays169 Tryd.Builder_Extra_169 B b l w h hBw
def Tryd.lays241_ren : Go.Shelf.Ren := ⟨fun | 241 => 77 | 277 => 92 | n => n, fun | 70 => 51 | 3 => 3 | 0 => 0 | 72 => 53 | 37 => 37 | 5 => 5 | n => n, fun | n => n⟩
theorem Tryd.lays241 : Go.Proofs.Lays.n241 Tryd.prog Tryd.lays241_ren := {
  mixed := by kernel_rfl
  f241 := Tryd.func77.trans (congrArg some (by kernel_rfl))
  f277 := Tryd.func92.trans (congrArg some (by kernel_rfl))
  t0 := Tryd.underlying0
  a0 := Tryd.isAgg0
  z0 := Tryd.sizeOf0
  v0 := Tryd.zeroValue0
  t3 := Tryd.underlying3
  a3 := Tryd.isAgg3
  z3 := Tryd.sizeOf3
  v3 := Tryd.zeroValue3
  t37 := Tryd.underlying37
  a37 := Tryd.isAgg37
  z37 := Tryd.sizeOf37
  v37 := Tryd.zeroValue37
  t70 := Tryd.underlying51
  a70 := Tryd.isAgg51
  z70 := Tryd.sizeOf51
  v70 := Tryd.zeroValue51
  t72 := Tryd.underlying53
  a72 := Tryd.isAgg53
  z72 := Tryd.sizeOf53
  v72 := Tryd.zeroValue53 }
theorem Tryd.Builder_Extra_241 : Builder.Extra Tryd.prog Tryd.lays241_ren := {
  sizeBuilder := by kernel_rfl
  liesBuilder := by kernel_rfl
  t5 := Tryd.underlying5
  a5 := Tryd.isAgg5
  z5 := Tryd.sizeOf5
  v5 := Tryd.zeroValue5
  infoByte := by kernel_rfl
  cellsByte := by kernel_rfl
  sizeByte := by kernel_rfl
  neB5 := by decide }
open Go.RowKit in
theorem Tryd.Builder_grow_fresh (B b n : Nat) (w : World) (hB : B ≤ b) (hbk : w.heap[b]? = some (.cells #[.pointer (some ⟨b, 0, none⟩), .slice none 0 0] 53 (0, 0))) (hBw : B ≤ w.heap.size) (hn : n ≤ 281474976710656) :
    Calls Tryd.prog 77 #[.pointer (some ⟨b, 0, none⟩), .int .i64 n] w fun e w' => e = .returned (.tuple #[]) ∧ (Lib.BuilderAt 53 5 B b (.pointer (some ⟨b, 0, none⟩)) [] w' ∧ Below B w w') := Any.Builder_grow_fresh Tryd.lays241 Tryd.Builder_Extra_241 B b n w hB hbk hBw hn
def Tryd.lays165_ren : Go.Shelf.Ren := ⟨fun | 165 => 58 | 240 => 76 | 241 => 77 | 276 => 91 | 277 => 92 | n => n, fun | 70 => 51 | 3 => 3 | 0 => 0 | 4 => 4 | 9 => 9 | 20 => 20 | 72 => 53 | 37 => 37 | 164 => 97 | 5 => 5 | n => n, fun | n => n⟩
theorem Tryd.lays165 : Go.Proofs.Lays.n165 Tryd.prog Tryd.lays165_ren := {
  mixed := by kernel_rfl
  f165 := Tryd.func58.trans (congrArg some (by kernel_rfl))
  f240 := Tryd.func76.trans (congrArg some (by kernel_rfl))
  f241 := Tryd.func77.trans (congrArg some (by kernel_rfl))
  f276 := Tryd.func91.trans (congrArg some (by kernel_rfl))
  f277 := Tryd.func92.trans (congrArg some (by kernel_rfl))
  t0 := Tryd.underlying0
  a0 := Tryd.isAgg0
  z0 := Tryd.sizeOf0
  v0 := Tryd.zeroValue0
  t3 := Tryd.underlying3
  a3 := Tryd.isAgg3
  z3 := Tryd.sizeOf3
  v3 := Tryd.zeroValue3
  t4 := Tryd.underlying4
  a4 := Tryd.isAgg4
  z4 := Tryd.sizeOf4
  v4 := Tryd.zeroValue4
  t9 := Tryd.underlying9
  a9 := Tryd.isAgg9
  z9 := Tryd.sizeOf9
  v9 := Tryd.zeroValue9
  t20 := Tryd.underlying20
  a20 := Tryd.isAgg20
  z20 := Tryd.sizeOf20
  v20 := Tryd.zeroValue20
  t37 := Tryd.underlying37
  a37 := Tryd.isAgg37
  z37 := Tryd.sizeOf37
  v37 := Tryd.zeroValue37
  t70 := Tryd.underlying51
  a70 := Tryd.isAgg51
  z70 := Tryd.sizeOf51
  v70 := Tryd.zeroValue51
  t72 := Tryd.underlying53
  a72 := Tryd.isAgg53
  z72 := Tryd.sizeOf53
  v72 := Tryd.zeroValue53
  t164 := Tryd.underlying97
  a164 := Tryd.isAgg97
  z164 := Tryd.sizeOf97
  v164 := Tryd.zeroValue97 }
theorem Tryd.Builder_Extra_165 : Builder.Extra Tryd.prog Tryd.lays165_ren := {
  sizeBuilder := by kernel_rfl
  liesBuilder := by kernel_rfl
  t5 := Tryd.underlying5
  a5 := Tryd.isAgg5
  z5 := Tryd.sizeOf5
  v5 := Tryd.zeroValue5
  infoByte := by kernel_rfl
  cellsByte := by kernel_rfl
  sizeByte := by kernel_rfl
  neB5 := by decide }
open Go.RowKit in
theorem Tryd.Builder_Grow_fresh (B b n : Nat) (w : World) (hB : B ≤ b) (hbk : w.heap[b]? = some (.cells #[.pointer none, .slice none 0 0] 53 (0, 0))) (hBw : B ≤ w.heap.size) (hn : n ≤ 281474976710656) :
    Calls Tryd.prog 58 #[.pointer (some ⟨b, 0, none⟩), .int .i64 n] w fun e w' => e = .returned (.tuple #[]) ∧ (Lib.BuilderAt 53 5 B b (.pointer (some ⟨b, 0, none⟩)) [] w' ∧ Below B w w') := Any.Builder_Grow_fresh Tryd.lays165 Tryd.Builder_Extra_165 B b n w hB hbk hBw hn
def Tryd.lays158_ren : Go.Shelf.Ren := ⟨fun | 158 => 51 | 165 => 58 | 166 => 59 | 167 => 66 | 169 => 61 | 230 => 67 | 203 => 68 | 240 => 76 | 241 => 77 | 197 => 62 | 118 => 83 | 168 => 84 | 270 => 85 | 262 => 86 | 276 => 91 | 277 => 92 | 260 => 78 | 242 => 98 | 313 => 99 | 278 => 103 | 274 => 104 | 275 => 105 | n => n, fun | 9 => 9 | 4 => 4 | 3 => 3 | 5 => 5 | 72 => 53 | 0 => 0 | 76 => 57 | 75 => 56 | 107 => 68 | 70 => 51 | 20 => 20 | 37 => 37 | 127 => 76 | 21 => 21 | 105 => 61 | 164 => 97 | 162 => 112 | 203 => 110 | 119 => 47 | 46 => 36 | 139 => 102 | 138 => 101 | 51 => 34 | 160 => 117 | 208 => 125 | 206 => 123 | 80 => 60 | n => n, fun | 13 => 5 | 3 => 2 | 4 => 3 | n => n⟩
theorem Tryd.lays158 : Go.Proofs.Lays.n158 Tryd.prog Tryd.lays158_ren := {
  mixed := by kernel_rfl
  f118 := Tryd.func83.trans (congrArg some (by kernel_rfl))
  f158 := Tryd.func51.trans (congrArg some (by kernel_rfl))
  f165 := Tryd.func58.trans (congrArg some (by kernel_rfl))
  f166 := Tryd.func59.trans (congrArg some (by kernel_rfl))
  f167 := Tryd.func66.trans (congrArg some (by kernel_rfl))
  f168 := Tryd.func84.trans (congrArg some (by kernel_rfl))
  f169 := Tryd.func61.trans (congrArg some (by kernel_rfl))
  f197 := Tryd.func62.trans (congrArg some (by kernel_rfl))
  f203 := Tryd.func68.trans (congrArg some (by kernel_rfl))
  f230 := Tryd.func67.trans (congrArg some (by kernel_rfl))
  f240 := Tryd.func76.trans (congrArg some (by kernel_rfl))
  f241 := Tryd.func77.trans (congrArg some (by kernel_rfl))
  f242 := Tryd.func98.trans (congrArg some (by kernel_rfl))
  f260 := Tryd.func78.trans (congrArg some (by kernel_rfl))
  f262 := Tryd.func86.trans (congrArg some (by kernel_rfl))
  f270 := Tryd.func85.trans (congrArg some (by kernel_rfl))
  f274 := Tryd.func104.trans (congrArg some (by kernel_rfl))
  f275 := Tryd.func105.trans (congrArg some (by kernel_rfl))
  f276 := Tryd.func91.trans (congrArg some (by kernel_rfl))
  f277 := Tryd.func92.trans (congrArg some (by kernel_rfl))
  f278 := Tryd.func103.trans (congrArg some (by kernel_rfl))
  f313 := Tryd.func99.trans (congrArg some (by kernel_rfl))
  t0 := Tryd.underlying0
  a0 := Tryd.isAgg0
  z0 := Tryd.sizeOf0
  v0 := Tryd.zeroValue0
  t3 := Tryd.underlying3
  a3 := Tryd.isAgg3
  z3 := Tryd.sizeOf3
  v3 := Tryd.zeroValue3
  t4 := Tryd.underlying4
  a4 := Tryd.isAgg4
  z4 := Tryd.sizeOf4
  v4 := Tryd.zeroValue4
  t5 := Tryd.underlying5
  a5 := Tryd.isAgg5
  z5 := Tryd.sizeOf5
  v5 := Tryd.zeroValue5
  t9 := Tryd.underlying9
  a9 := Tryd.isAgg9
  z9 := Tryd.sizeOf9
  v9 := Tryd.zeroValue9
  t20 := Tryd.underlying20
  a20 := Tryd.isAgg20
  z20 := Tryd.sizeOf20
  v20 := Tryd.zeroValue20
  t21 := Tryd.underlying21
  a21 := Tryd.isAgg21
  z21 := Tryd.sizeOf21
  v21 := Tryd.zeroValue21
  t37 := Tryd.underlying37
  a37 := Tryd.isAgg37
  z37 := Tryd.sizeOf37
  v37 := Tryd.zeroValue37
  t46 := Tryd.underlying36
  a46 := Tryd.isAgg36
  z46 := Tryd.sizeOf36
  v46 := Tryd.zeroValue36
  t51 := Tryd.underlying34
  a51 := Tryd.isAgg34
  z51 := Tryd.sizeOf34
  v51 := Tryd.zeroValue34
  t70 := Tryd.underlying51
  a70 := Tryd.isAgg51
  z70 := Tryd.sizeOf51
  v70 := Tryd.zeroValue51
  t72 := Tryd.underlying53
  a72 := Tryd.isAgg53
  z72 := Tryd.sizeOf53
  v72 := Tryd.zeroValue53
  t75 := Tryd.underlying56
  a75 := Tryd.isAgg56
  z75 := Tryd.sizeOf56
  v75 := Tryd.zeroValue56
  t76 := Tryd.underlying57
  a76 := Tryd.isAgg57
  z76 := Tryd.sizeOf57
  v76 := Tryd.zeroValue57
  t105 := Tryd.underlying61
  a105 := Tryd.isAgg61
  z105 := Tryd.sizeOf61
  v105 := Tryd.zeroValue61
  t107 := Tryd.underlying68
  a107 := Tryd.isAgg68
  z107 := Tryd.sizeOf68
  v107 := Tryd.zeroValue68
  t119 := Tryd.underlying47
  a119 := Tryd.isAgg47
  z119 := Tryd.sizeOf47
  t127 := Tryd.underlying76
  a127 := Tryd.isAgg76
  z127 := Tryd.sizeOf76
  v127 := Tryd.zeroValue76
  t138 := Tryd.underlying101
  a138 := Tryd.isAgg101
  z138 := Tryd.sizeOf101
  v138 := Tryd.zeroValue101
  t139 := Tryd.underlying102
  a139 := Tryd.isAgg102
  z139 := Tryd.sizeOf102
  v139 := Tryd.zeroValue102
  t160 := Tryd.underlying117
  a160 := Tryd.isAgg117
  z160 := Tryd.sizeOf117
  v160 := Tryd.zeroValue117
  t162 := Tryd.underlying112
  a162 := Tryd.isAgg112
  z162 := Tryd.sizeOf112
  v162 := Tryd.zeroValue112
  t164 := Tryd.underlying97
  a164 := Tryd.isAgg97
  z164 := Tryd.sizeOf97
  v164 := Tryd.zeroValue97
  t203 := Tryd.underlying110
  a203 := Tryd.isAgg110
  z203 := Tryd.sizeOf110
  v203 := Tryd.zeroValue110
  t206 := Tryd.underlying123
  a206 := Tryd.isAgg123
  z206 := Tryd.sizeOf123
  v206 := Tryd.zeroValue123
  t208 := Tryd.underlying125
  a208 := Tryd.isAgg125
  z208 := Tryd.sizeOf125
  v208 := Tryd.zeroValue125
  g3 := by kernel_rfl
  g4 := by kernel_rfl
  g13 := by kernel_rfl }
theorem Tryd.Builder_Extra_158 : Builder.Extra Tryd.prog Tryd.lays158_ren := {
  sizeBuilder := by kernel_rfl
  liesBuilder := by kernel_rfl
  t5 := Tryd.underlying5
  a5 := Tryd.isAgg5
  z5 := Tryd.sizeOf5
  v5 := Tryd.zeroValue5
  infoByte := by kernel_rfl
  cellsByte := by kernel_rfl
  sizeByte := by kernel_rfl
  neB5 := by decide }
open Go.RowKit in
theorem Tryd.strings_ToUpper_ascii (s : ByteArray) (w : World) (hs : s.size ≤ 140737488355328) (hascii : ∀ (j : Nat) (b : UInt8), s.data.toList[j]? = some b → b.toNat < 128) :
    Calls Tryd.prog 51 #[.string s] w fun e w' => e = .returned (.string ⟨(Lib.toUpperA s.data.toList).toArray⟩) ∧ Below w.heap.size w w' := Any.strings_ToUpper_ascii Tryd.lays158 Tryd.Builder_Extra_158 s w hs hascii
def Tryd.lays159_ren : Go.Shelf.Ren := ⟨fun | 159 => 52 | 165 => 58 | 166 => 59 | 167 => 66 | 169 => 61 | 230 => 67 | 204 => 69 | 240 => 76 | 241 => 77 | 197 => 62 | 118 => 83 | 168 => 84 | 270 => 85 | 262 => 86 | 276 => 91 | 277 => 92 | 260 => 78 | 242 => 98 | 313 => 99 | 278 => 103 | 274 => 104 | 275 => 105 | n => n, fun | 9 => 9 | 4 => 4 | 3 => 3 | 5 => 5 | 72 => 53 | 0 => 0 | 76 => 57 | 75 => 56 | 107 => 68 | 70 => 51 | 20 => 20 | 37 => 37 | 127 => 76 | 21 => 21 | 105 => 61 | 164 => 97 | 162 => 112 | 203 => 110 | 119 => 47 | 46 => 36 | 139 => 102 | 138 => 101 | 51 => 34 | 160 => 117 | 208 => 125 | 206 => 123 | 80 => 60 | n => n, fun | 13 => 5 | 3 => 2 | 4 => 3 | n => n⟩
theorem Tryd.lays159 : Go.Proofs.Lays.n159 Tryd.prog Tryd.lays159_ren := {
  mixed := by kernel_rfl
  f118 := Tryd.func83.trans (congrArg some (by kernel_rfl))
  f159 := Tryd.func52.trans (congrArg some (by kernel_rfl))
  f165 := Tryd.func58.trans (congrArg some (by kernel_rfl))
  f166 := Tryd.func59.trans (congrArg some (by kernel_rfl))
  f167 := Tryd.func66.trans (congrArg some (by kernel_rfl))
  f168 := Tryd.func84.trans (congrArg some (by kernel_rfl))
  f169 := Tryd.func61.trans (congrArg some (by kernel_rfl))
  f197 := Tryd.func62.trans (congrArg some (by kernel_rfl))
  f204 := Tryd.func69.trans (congrArg some (by kernel_rfl))
  f230 := Tryd.func67.trans (congrArg some (by kernel_rfl))
  f240 := Tryd.func76.trans (congrArg some (by kernel_rfl))
  f241 := Tryd.func77.trans (congrArg some (by kernel_rfl))
  f242 := Tryd.func98.trans (congrArg some (by kernel_rfl))
  f260 := Tryd.func78.trans (congrArg some (by kernel_rfl))
  f262 := Tryd.func86.trans (congrArg some (by kernel_rfl))
  f270 := Tryd.func85.trans (congrArg some (by kernel_rfl))
  f274 := Tryd.func104.trans (congrArg some (by kernel_rfl))
  f275 := Tryd.func105.trans (congrArg some (by kernel_rfl))
  f276 := Tryd.func91.trans (congrArg some (by kernel_rfl))
  f277 := Tryd.func92.trans (congrArg some (by kernel_rfl))
  f278 := Tryd.func103.trans (congrArg some (by kernel_rfl))
  f313 := Tryd.func99.trans (congrArg some (by kernel_rfl))
  t0 := Tryd.underlying0
  a0 := Tryd.isAgg0
  z0 := Tryd.sizeOf0
  v0 := Tryd.zeroValue0
  t3 := Tryd.underlying3
  a3 := Tryd.isAgg3
  z3 := Tryd.sizeOf3
  v3 := Tryd.zeroValue3
  t4 := Tryd.underlying4
  a4 := Tryd.isAgg4
  z4 := Tryd.sizeOf4
  v4 := Tryd.zeroValue4
  t5 := Tryd.underlying5
  a5 := Tryd.isAgg5
  z5 := Tryd.sizeOf5
  v5 := Tryd.zeroValue5
  t9 := Tryd.underlying9
  a9 := Tryd.isAgg9
  z9 := Tryd.sizeOf9
  v9 := Tryd.zeroValue9
  t20 := Tryd.underlying20
  a20 := Tryd.isAgg20
  z20 := Tryd.sizeOf20
  v20 := Tryd.zeroValue20
  t21 := Tryd.underlying21
  a21 := Tryd.isAgg21
  z21 := Tryd.sizeOf21
  v21 := Tryd.zeroValue21
  t37 := Tryd.underlying37
  a37 := Tryd.isAgg37
  z37 := Tryd.sizeOf37
  v37 := Tryd.zeroValue37
  t46 := Tryd.underlying36
  a46 := Tryd.isAgg36
  z46 := Tryd.sizeOf36
  v46 := Tryd.zeroValue36
  t51 := Tryd.underlying34
  a51 := Tryd.isAgg34
  z51 := Tryd.sizeOf34
  v51 := Tryd.zeroValue34
  t70 := Tryd.underlying51
  a70 := Tryd.isAgg51
  z70 := Tryd.sizeOf51
  v70 := Tryd.zeroValue51
  t72 := Tryd.underlying53
  a72 := Tryd.isAgg53
  z72 := Tryd.sizeOf53
  v72 := Tryd.zeroValue53
  t75 := Tryd.underlying56
  a75 := Tryd.isAgg56
  z75 := Tryd.sizeOf56
  v75 := Tryd.zeroValue56
  t76 := Tryd.underlying57
  a76 := Tryd.isAgg57
  z76 := Tryd.sizeOf57
  v76 := Tryd.zeroValue57
  t105 := Tryd.underlying61
  a105 := Tryd.isAgg61
  z105 := Tryd.sizeOf61
  v105 := Tryd.zeroValue61
  t107 := Tryd.underlying68
  a107 := Tryd.isAgg68
  z107 := Tryd.sizeOf68
  v107 := Tryd.zeroValue68
  t119 := Tryd.underlying47
  a119 := Tryd.isAgg47
  z119 := Tryd.sizeOf47
  t127 := Tryd.underlying76
  a127 := Tryd.isAgg76
  z127 := Tryd.sizeOf76
  v127 := Tryd.zeroValue76
  t138 := Tryd.underlying101
  a138 := Tryd.isAgg101
  z138 := Tryd.sizeOf101
  v138 := Tryd.zeroValue101
  t139 := Tryd.underlying102
  a139 := Tryd.isAgg102
  z139 := Tryd.sizeOf102
  v139 := Tryd.zeroValue102
  t160 := Tryd.underlying117
  a160 := Tryd.isAgg117
  z160 := Tryd.sizeOf117
  v160 := Tryd.zeroValue117
  t162 := Tryd.underlying112
  a162 := Tryd.isAgg112
  z162 := Tryd.sizeOf112
  v162 := Tryd.zeroValue112
  t164 := Tryd.underlying97
  a164 := Tryd.isAgg97
  z164 := Tryd.sizeOf97
  v164 := Tryd.zeroValue97
  t203 := Tryd.underlying110
  a203 := Tryd.isAgg110
  z203 := Tryd.sizeOf110
  v203 := Tryd.zeroValue110
  t206 := Tryd.underlying123
  a206 := Tryd.isAgg123
  z206 := Tryd.sizeOf123
  v206 := Tryd.zeroValue123
  t208 := Tryd.underlying125
  a208 := Tryd.isAgg125
  z208 := Tryd.sizeOf125
  v208 := Tryd.zeroValue125
  g3 := by kernel_rfl
  g4 := by kernel_rfl
  g13 := by kernel_rfl }
theorem Tryd.Builder_Extra_159 : Builder.Extra Tryd.prog Tryd.lays159_ren := {
  sizeBuilder := by kernel_rfl
  liesBuilder := by kernel_rfl
  t5 := Tryd.underlying5
  a5 := Tryd.isAgg5
  z5 := Tryd.sizeOf5
  v5 := Tryd.zeroValue5
  infoByte := by kernel_rfl
  cellsByte := by kernel_rfl
  sizeByte := by kernel_rfl
  neB5 := by decide }
open Go.RowKit in
theorem Tryd.strings_ToLower_ascii (s : ByteArray) (w : World) (hs : s.size ≤ 140737488355328) (hascii : ∀ (j : Nat) (b : UInt8), s.data.toList[j]? = some b → b.toNat < 128) :
    Calls Tryd.prog 52 #[.string s] w fun e w' => e = .returned (.string ⟨(Lib.toLowerA s.data.toList).toArray⟩) ∧ Below w.heap.size w w' := Any.strings_ToLower_ascii Tryd.lays159 Tryd.Builder_Extra_159 s w hs hascii
def Tryd.lays118_ren : Go.Shelf.Ren := ⟨fun | 118 => 83 | n => n, fun | 21 => 21 | 3 => 3 | 4 => 4 | n => n, fun | n => n⟩
theorem Tryd.lays118 : Go.Proofs.Lays.n118 Tryd.prog Tryd.lays118_ren := {
  mixed := by kernel_rfl
  f118 := Tryd.func83.trans (congrArg some (by kernel_rfl))
  t3 := Tryd.underlying3
  a3 := Tryd.isAgg3
  z3 := Tryd.sizeOf3
  v3 := Tryd.zeroValue3
  t4 := Tryd.underlying4
  a4 := Tryd.isAgg4
  z4 := Tryd.sizeOf4
  v4 := Tryd.zeroValue4
  t21 := Tryd.underlying21
  a21 := Tryd.isAgg21
  z21 := Tryd.sizeOf21
  v21 := Tryd.zeroValue21 }
theorem Tryd.utf8_RuneLen (r : Int) (w : World) :
    Calls Tryd.prog 83 #[.int .i32 r] w fun e w' => e = .returned (.int .i64 (Lib.runeLen r)) ∧ w' = w := Any.utf8_RuneLen Tryd.lays118 r w
def Tryd.lays120_ren : Go.Shelf.Ren := ⟨fun | 120 => 100 | n => n, fun | 5 => 5 | 4 => 4 | n => n, fun | n => n⟩
theorem Tryd.lays120 : Go.Proofs.Lays.n120 Tryd.prog Tryd.lays120_ren := {
  mixed := by kernel_rfl
  f120 := Tryd.func100.trans (congrArg some (by kernel_rfl))
  t4 := Tryd.underlying4
  a4 := Tryd.isAgg4
  z4 := Tryd.sizeOf4
  v4 := Tryd.zeroValue4
  t5 := Tryd.underlying5
  a5 := Tryd.isAgg5
  z5 := Tryd.sizeOf5
  v5 := Tryd.zeroValue5 }
theorem Tryd.utf8_RuneStart (b : Int) (w : World) (h0 : 0 ≤ b) (h1 : b < 256) :
    Calls Tryd.prog 100 #[.int .u8 b] w fun e w' => e = .returned (.bool (Lib.runeStart b)) ∧ w' = w := Any.utf8_RuneStart Tryd.lays120 b w h0 h1
open Go.RowKit in
theorem Tryd.Builder_copyCheck_f (B b : Nat) (bs : List Value) (w : World) (h : Lib.IsBuilderF 53 5 B b bs w) :
    Calls Tryd.prog 76 #[.pointer (some ⟨b, 0, none⟩)] w fun e w' => e = .returned (.tuple #[]) ∧ (Lib.BuilderAtF 53 5 B b (.pointer (some ⟨b, 0, none⟩)) bs w' ∧ Below B w w') := Any.Builder_copyCheck_f Tryd.lays240 Tryd.Builder_X72_240 B b bs w h
open Go.RowKit in
theorem Tryd.Builder_Len_f (B b : Nat) (bs : List Value) (w : World) (h : Lib.IsBuilderF 53 5 B b bs w) :
    Calls Tryd.prog 60 #[.pointer (some ⟨b, 0, none⟩)] w fun e w' => e = .returned (.int .i64 bs.length) ∧ w' = w := Any.Builder_Len_f Tryd.lays170 B b bs w h
open Go.RowKit in
theorem Tryd.Builder_WriteString_f (B b : Nat) (bs : List Value) (s : ByteArray) (w : World) (h : Lib.IsBuilderF 53 5 B b bs w) (hlen : bs.length + s.size ≤ 140737488355328) (hBw : B ≤ w.heap.size) :
    Calls Tryd.prog 59 #[.pointer (some ⟨b, 0, none⟩), .string s] w fun e w' => e = .returned (.tuple #[.int .i64 s.size, .nilIface]) ∧ (Lib.BuilderAtF 53 5 B b (.pointer (some ⟨b, 0, none⟩)) (bs ++ Lib.strCells s) w' ∧ Below B w w') := Any.Builder_WriteString_f Tryd.lays166 Tryd.Builder_Extra_166 B b bs s w h hlen hBw
open Go.RowKit in
theorem Tryd.Builder_String_f (B b : Nat) (l : List UInt8) (w : World) (h : Lib.IsBuilderF 53 5 B b (Lib.byteCells l) w) (h0 : l ≠ []) :
    Calls Tryd.prog 61 #[.pointer (some ⟨b, 0, none⟩)] w fun e w' => e = .returned (.string ⟨l.toArray⟩) ∧ (Lib.IsBuilderF 53 5 B b (Lib.byteCells l) w' ∧ Below B w w') := Any.Builder_String_f Tryd.lays169 Tryd.Builder_Extra_169 B b l w h h0
open Go.RowKit in
theorem Tryd.Builder_String_empty_f (B b : Nat) (w : World) (h : Lib.IsBuilderF 53 5 B b [] w) (hBw : B ≤ w.heap.size) :
    Calls Tryd.prog 61 #[.pointer (some ⟨b, 0, none⟩)] w fun e w' => e = .returned (.string ⟨#[]⟩) ∧ (Lib.IsBuilderF 53 5 B b [] w' ∧ Below B w w') := Any.Builder_String_empty_f Tryd.lays169 Tryd.Builder_Extra_169 B b w h hBw
open Go.RowKit in
theorem Tryd.Builder_String_any_f (B b : Nat) (l : List UInt8) (w : World) (h : Lib.IsBuilderF 53 5 B b (Lib.byteCells l) w) (hBw : B ≤ w.heap.size) :
    Calls Tryd.prog 61 #[.pointer (some ⟨b, 0, none⟩)] w fun e w' => e = .returned (.string ⟨l.toArray⟩) ∧ (Lib.IsBuilderF 53 5 B b (Lib.byteCells l) w' ∧ Below B w w') := Any.Builder_String_any_f Tryd.lays169 Tryd.Builder_Extra_169 B b l w h hBw
open Go.RowKit in
theorem Tryd.Builder_copyCheck_k (B b : Nat) (bs : List Value) (w : World) (h : Lib.IsBuilderF 53 5 B b bs w) :
    Calls Tryd.prog 76 #[.pointer (some ⟨b, 0, none⟩)] w fun e w' => e = .returned (.tuple #[]) ∧ (Lib.BuilderAtF 53 5 B b (.pointer (some ⟨b, 0, none⟩)) bs w' ∧ Below B w w' ∧ Lib.OthersKept 5 (some b) w w') := Any.Builder_copyCheck_k Tryd.lays240 Tryd.Builder_X72_240 B b bs w h
open Go.RowKit in
theorem Tryd.Builder_WriteByte_k (B b : Nat) (bs : List Value) (c : Int) (w : World) (h : Lib.IsBuilderF 53 5 B b bs w) (hlen : bs.length + 1 ≤ 140737488355328) (hBw : B ≤ w.heap.size) :
    Calls Tryd.prog 66 #[.pointer (some ⟨b, 0, none⟩), .int .u8 c] w fun e w' => e = .returned .nilIface ∧ (Lib.BuilderAtF 53 5 B b (.pointer (some ⟨b, 0, none⟩)) (bs ++ [.int .u8 c]) w' ∧ Below B w w' ∧ Lib.OthersKept 5 (some b) w w') := Any.Builder_WriteByte_k Tryd.lays167 Tryd.Builder_Extra_167 B b bs c w h hlen hBw
open Go.RowKit in
theorem Tryd.Builder_WriteString_k (B b : Nat) (bs : List Value) (s : ByteArray) (w : World) (h : Lib.IsBuilderF 53 5 B b bs w) (hlen : bs.length + s.size ≤ 140737488355328) (hBw : B ≤ w.heap.size) :
    Calls Tryd.prog 59 #[.pointer (some ⟨b, 0, none⟩), .string s] w fun e w' => e = .returned (.tuple #[.int .i64 s.size, .nilIface]) ∧ (Lib.BuilderAtF 53 5 B b (.pointer (some ⟨b, 0, none⟩)) (bs ++ Lib.strCells s) w' ∧ Below B w w' ∧ Lib.OthersKept 5 (some b) w w') := Any.Builder_WriteString_k Tryd.lays166 Tryd.Builder_Extra_166 B b bs s w h hlen hBw
open Go.RowKit in
theorem Tryd.Builder_String_k (B b : Nat) (l : List UInt8) (w : World) (h : Lib.IsBuilderF 53 5 B b (Lib.byteCells l) w) (h0 : l ≠ []) :
    Calls Tryd.prog 61 #[.pointer (some ⟨b, 0, none⟩)] w fun e w' => e = .returned (.string ⟨l.toArray⟩) ∧ (Lib.IsBuilderF 53 5 B b (Lib.byteCells l) w' ∧ Below B w w' ∧ Lib.OthersKept 5 (some b) w w') := Any.Builder_String_k Tryd.lays169 Tryd.Builder_Extra_169 B b l w h h0
open Go.RowKit in
theorem Tryd.Builder_String_empty_k (B b : Nat) (w : World) (h : Lib.IsBuilderF 53 5 B b [] w) (hBw : B ≤ w.heap.size) :
    Calls Tryd.prog 61 #[.pointer (some ⟨b, 0, none⟩)] w fun e w' => e = .returned (.string ⟨#[]⟩) ∧ (Lib.IsBuilderF 53 5 B b [] w' ∧ Below B w w' ∧ Lib.OthersKept 5 (some b) w w') := Any.Builder_String_empty_k Tryd.lays169 Tryd.Builder_Extra_169 B b w h hBw
open Go.RowKit in
theorem Tryd.Builder_String_any_k (B b : Nat) (l : List UInt8) (w : World) (h : Lib.IsBuilderF 53 5 B b (Lib.byteCells l) w) (hBw : B ≤ w.heap.size) :
    Calls Tryd.prog 61 #[.pointer (some ⟨b, 0, none⟩)] w fun e w' => e = .returned (.string ⟨l.toArray⟩) ∧ (Lib.IsBuilderF 53 5 B b (Lib.byteCells l) w' ∧ Below B w w' ∧ Lib.OthersKept 5 (some b) w w') := Any.Builder_String_any_k Tryd.lays169 Tryd.Builder_Extra_169 B b l w h hBw
def Tryd.lays168_ren : Go.Shelf.Ren := ⟨fun | 0 => 0 | 1 => 1 | 2 => 2 | 99 => 57 | 105 => 47 | 118 => 83 | 120 => 100 | 129 => 94 | 158 => 51 | 159 => 52 | 163 => 46 | 165 => 58 | 166 => 59 | 167 => 66 | 168 => 84 | 169 => 61 | 170 => 60 | 197 => 62 | 199 => 54 | 203 => 68 | 204 => 69 | 206 => 75 | 212 => 56 | 230 => 67 | 237 => 53 | 238 => 55 | 240 => 76 | 241 => 77 | 242 => 98 | 260 => 78 | 261 => 71 | 262 => 86 | 263 => 73 | 264 => 74 | 270 => 85 | 271 => 90 | 272 => 70 | 273 => 72 | 274 => 104 | 275 => 105 | 276 => 91 | 277 => 92 | 278 => 103 | 283 => 79 | 284 => 80 | 285 => 81 | 286 => 82 | 311 => 88 | 312 => 89 | 313 => 99 | 315 => 87 | 317 => 93 | 318 => 95 | 319 => 96 | 320 => 97 | 337 => 101 | 338 => 102 | 347 => 106 | 348 => 107 | 349 => 108 | 350 => 109 | 351 => 110 | 352 => 111 | 353 => 112 | 354 => 113 | 355 => 114 | 356 => 115 | 357 => 116 | 358 => 117 | 359 => 118 | 360 => 119 | 361 => 120 | 362 => 121 | 366 => 122 | 367 => 136 | n => n, fun | 0 => 0 | 1 => 1 | 2 => 2 | 3 => 3 | 4 => 4 | 5 => 5 | 6 => 6 | 7 => 7 | 8 => 8 | 9 => 9 | 10 => 10 | 11 => 11 | 12 => 12 | 13 => 13 | 14 => 14 | 15 => 15 | 16 => 16 | 17 => 17 | 18 => 18 | 19 => 19 | 20 => 20 | 21 => 21 | 22 => 50 | 24 => 25 | 26 => 42 | 27 => 63 | 31 => 29 | 37 => 37 | 39 => 83 | 40 => 31 | 41 => 115 | 46 => 36 | 47 => 108 | 49 => 90 | 51 => 34 | 52 => 116 | 53 => 46 | 54 => 79 | 65 => 43 | 66 => 33 | 69 => 23 | 70 => 51 | 71 => 52 | 72 => 53 | 73 => 54 | 74 => 55 | 75 => 56 | 76 => 57 | 77 => 58 | 78 => 66 | 79 => 84 | 80 => 60 | 81 => 59 | 83 => 77 | 104 => 24 | 105 => 61 | 106 => 62 | 107 => 68 | 109 => 48 | 110 => 49 | 111 => 107 | 114 => 103 | 119 => 47 | 121 => 67 | 125 => 30 | 126 => 109 | 127 => 76 | 137 => 100 | 138 => 101 | 139 => 102 | 140 => 69 | 141 => 70 | 142 => 85 | 146 => 72 | 147 => 73 | 148 => 74 | 149 => 75 | 155 => 71 | 160 => 117 | 161 => 118 | 162 => 112 | 163 => 119 | 164 => 97 | 165 => 98 | 166 => 99 | 171 => 78 | 172 => 80 | 173 => 81 | 174 => 82 | 193 => 86 | 194 => 87 | 195 => 88 | 196 => 89 | 197 => 91 | 198 => 92 | 199 => 93 | 200 => 94 | 201 => 95 | 202 => 96 | 203 => 110 | 204 => 111 | 205 => 122 | 206 => 123 | 207 => 124 | 208 => 125 | 211 => 104 | 212 => 105 | 213 => 106 | 226 => 113 | 227 => 114 | 232 => 120 | 233 => 121 | 238 => 126 | 239 => 127 | 240 => 128 | 241 => 129 | 242 => 130 | 243 => 131 | 244 => 132 | 245 => 133 | 246 => 134 | 247 => 135 | 248 => 136 | 249 => 137 | n => n, fun | 0 => 0 | 1 => 6 | 3 => 2 | 4 => 3 | 6 => 1 | 13 => 5 | 17 => 4 | 18 => 7 | 19 => 8 | n => n⟩
theorem Tryd.lays168 : Go.Proofs.Lays.n168 Tryd.prog Tryd.lays168_ren := {
  mixed := by kernel_rfl
  f168 := Tryd.func84.trans (congrArg some (by kernel_rfl))
  f240 := Tryd.func76.trans (congrArg some (by kernel_rfl))
  f242 := Tryd.func98.trans (congrArg some (by kernel_rfl))
  f276 := Tryd.func91.trans (congrArg some (by kernel_rfl))
  f278 := Tryd.func103.trans (congrArg some (by kernel_rfl))
  t0 := Tryd.underlying0
  a0 := Tryd.isAgg0
  z0 := Tryd.sizeOf0
  v0 := Tryd.zeroValue0
  t3 := Tryd.underlying3
  a3 := Tryd.isAgg3
  z3 := Tryd.sizeOf3
  v3 := Tryd.zeroValue3
  t4 := Tryd.underlying4
  a4 := Tryd.isAgg4
  z4 := Tryd.sizeOf4
  v4 := Tryd.zeroValue4
  t5 := Tryd.underlying5
  a5 := Tryd.isAgg5
  z5 := Tryd.sizeOf5
  v5 := Tryd.zeroValue5
  t9 := Tryd.underlying9
  a9 := Tryd.isAgg9
  z9 := Tryd.sizeOf9
  v9 := Tryd.zeroValue9
  t20 := Tryd.underlying20
  a20 := Tryd.isAgg20
  z20 := Tryd.sizeOf20
  v20 := Tryd.zeroValue20
  t21 := Tryd.underlying21
  a21 := Tryd.isAgg21
  z21 := Tryd.sizeOf21
  v21 := Tryd.zeroValue21
  t37 := Tryd.underlying37
  a37 := Tryd.isAgg37
  z37 := Tryd.sizeOf37
  v37 := Tryd.zeroValue37
  t46 := Tryd.underlying36
  a46 := Tryd.isAgg36
  z46 := Tryd.sizeOf36
  v46 := Tryd.zeroValue36
  t51 := Tryd.underlying34
  a51 := Tryd.isAgg34
  z51 := Tryd.sizeOf34
  v51 := Tryd.zeroValue34
  t70 := Tryd.underlying51
  a70 := Tryd.isAgg51
  z70 := Tryd.sizeOf51
  v70 := Tryd.zeroValue51
  t72 := Tryd.underlying53
  a72 := Tryd.isAgg53
  z72 := Tryd.sizeOf53
  v72 := Tryd.zeroValue53
  t75 := Tryd.underlying56
  a75 := Tryd.isAgg56
  z75 := Tryd.sizeOf56
  v75 := Tryd.zeroValue56
  t164 := Tryd.underlying97
  a164 := Tryd.isAgg97
  z164 := Tryd.sizeOf97
  v164 := Tryd.zeroValue97 }
theorem Tryd.Builder_Extra_168 : Builder.Extra Tryd.prog Tryd.lays168_ren := {
  sizeBuilder := by kernel_rfl
  liesBuilder := by kernel_rfl
  t5 := Tryd.underlying5
  a5 := Tryd.isAgg5
  z5 := Tryd.sizeOf5
  v5 := Tryd.zeroValue5
  infoByte := by kernel_rfl
  cellsByte := by kernel_rfl
  sizeByte := by kernel_rfl
  neB5 := by decide }
open Go.RowKit in
theorem Tryd.Builder_WriteRune_k (B b : Nat) (bs : List Value) (r : Int) (hr0 : -2147483648 ≤ r) (hr1 : r ≤ 2147483647) (w : World) (h : Lib.IsBuilderF 53 5 B b bs w) (hlen : bs.length + 4 ≤ 140737488355328) (hBw : B ≤ w.heap.size) :
    Calls Tryd.prog 84 #[.pointer (some ⟨b, 0, none⟩), .int .i32 r] w fun e w' => e = .returned (.tuple #[.int .i64 (Lib.runeCells r).length, .nilIface]) ∧ (Lib.BuilderAtF 53 5 B b (.pointer (some ⟨b, 0, none⟩)) (bs ++ Lib.runeCells r) w' ∧ Below B w w' ∧ Lib.OthersKept 5 (some b) w w') := Any.Builder_WriteRune_k Tryd.lays168 Tryd.Builder_Extra_168 B b bs r hr0 hr1 w h hlen hBw
def Tryd.lays278_ren : Go.Shelf.Ren := ⟨fun | 278 => 103 | n => n, fun | 37 => 37 | 21 => 21 | 51 => 34 | 4 => 4 | 46 => 36 | 5 => 5 | n => n, fun | n => n⟩
theorem Tryd.lays278 : Go.Proofs.Lays.n278 Tryd.prog Tryd.lays278_ren := {
  mixed := by kernel_rfl
  f278 := Tryd.func103.trans (congrArg some (by kernel_rfl))
  t4 := Tryd.underlying4
  a4 := Tryd.isAgg4
  z4 := Tryd.sizeOf4
  v4 := Tryd.zeroValue4
  t5 := Tryd.underlying5
  a5 := Tryd.isAgg5
  z5 := Tryd.sizeOf5
  v5 := Tryd.zeroValue5
  t21 := Tryd.underlying21
  a21 := Tryd.isAgg21
  z21 := Tryd.sizeOf21
  v21 := Tryd.zeroValue21
  t37 := Tryd.underlying37
  a37 := Tryd.isAgg37
  z37 := Tryd.sizeOf37
  v37 := Tryd.zeroValue37
  t46 := Tryd.underlying36
  a46 := Tryd.isAgg36
  z46 := Tryd.sizeOf36
  v46 := Tryd.zeroValue36
  t51 := Tryd.underlying34
  a51 := Tryd.isAgg34
  z51 := Tryd.sizeOf34
  v51 := Tryd.zeroValue34 }
open Go.RowKit in
theorem Tryd.utf8_appendRuneNonASCII_row (B : Nat) (v : Value) (n : Nat) (xs : List Value) (r : Int) (hr0 : -2147483648 ≤ r) (hr1 : r ≤ 2147483647) (hna : r < 0 ∨ 128 ≤ r) (w : World) (hown : w.ownsRowF B 5 1 v n xs) (hlen : n + 4 ≤ 140737488355328) (hBw : B ≤ w.heap.size) :
    Calls Tryd.prog 103 #[v, .int .i32 r] w fun e w' => ∃ v', e = .returned v' ∧ w'.ownsRowF B 5 1 v' (n + (Lib.runeCells r).length) (xs ++ Lib.runeCells r) ∧ ∃ o, (w.alloc o).grownBy w' v.ownBlock := Any.utf8_appendRuneNonASCII_row Tryd.lays278 (by kernel_rfl) B v n xs r hr0 hr1 hna w hown hlen hBw
def Tryd.lays242_ren : Go.Shelf.Ren := ⟨fun | 242 => 98 | 278 => 103 | n => n, fun | 37 => 37 | 21 => 21 | 51 => 34 | 4 => 4 | 5 => 5 | 46 => 36 | n => n, fun | n => n⟩
theorem Tryd.lays242 : Go.Proofs.Lays.n242 Tryd.prog Tryd.lays242_ren := {
  mixed := by kernel_rfl
  f242 := Tryd.func98.trans (congrArg some (by kernel_rfl))
  f278 := Tryd.func103.trans (congrArg some (by kernel_rfl))
  t4 := Tryd.underlying4
  a4 := Tryd.isAgg4
  z4 := Tryd.sizeOf4
  v4 := Tryd.zeroValue4
  t5 := Tryd.underlying5
  a5 := Tryd.isAgg5
  z5 := Tryd.sizeOf5
  v5 := Tryd.zeroValue5
  t21 := Tryd.underlying21
  a21 := Tryd.isAgg21
  z21 := Tryd.sizeOf21
  v21 := Tryd.zeroValue21
  t37 := Tryd.underlying37
  a37 := Tryd.isAgg37
  z37 := Tryd.sizeOf37
  v37 := Tryd.zeroValue37
  t46 := Tryd.underlying36
  a46 := Tryd.isAgg36
  z46 := Tryd.sizeOf36
  v46 := Tryd.zeroValue36
  t51 := Tryd.underlying34
  a51 := Tryd.isAgg34
  z51 := Tryd.sizeOf34
  v51 := Tryd.zeroValue34 }
open Go.RowKit in
theorem Tryd.utf8_AppendRune_row (B : Nat) (v : Value) (n : Nat) (xs : List Value) (r : Int) (hr0 : -2147483648 ≤ r) (hr1 : r ≤ 2147483647) (w : World) (hown : w.ownsRowF B 5 1 v n xs) (hlen : n + 4 ≤ 140737488355328) (hBw : B ≤ w.heap.size) :
    Calls Tryd.prog 98 #[v, .int .i32 r] w fun e w' => ∃ v', e = .returned v' ∧ w'.ownsRowF B 5 1 v' (n + (Lib.runeCells r).length) (xs ++ Lib.runeCells r) ∧ ∃ o, (w.alloc o).grownBy w' v.ownBlock := Any.utf8_AppendRune_row Tryd.lays242 (by kernel_rfl) B v n xs r hr0 hr1 w hown hlen hBw
open Go.RowKit in
theorem Tryd.utf8_appendRuneNonASCII_plain (B : Nat) (v : Value) (n : Nat) (xs : List Value) (r : Int) (hr0 : -2147483648 ≤ r) (hr1 : r ≤ 2147483647) (hna : r < 0 ∨ 128 ≤ r) (w : World) (hown : w.ownsRow B 5 1 v n xs) (hlen : n + 4 ≤ 140737488355328) (hBw : B ≤ w.heap.size) :
    Calls Tryd.prog 103 #[v, .int .i32 r] w fun e w' => ∃ v', e = .returned v' ∧ w'.ownsRow B 5 1 v' (n + (Lib.runeCells r).length) (xs ++ Lib.runeCells r) ∧ ∃ o, (w.alloc o).grownBy w' v.ownBlock := Any.utf8_appendRuneNonASCII_plain Tryd.lays278 (by kernel_rfl) B v n xs r hr0 hr1 hna w hown hlen hBw
open Go.RowKit in
theorem Tryd.utf8_AppendRune_plain (B : Nat) (v : Value) (n : Nat) (xs : List Value) (r : Int) (hr0 : -2147483648 ≤ r) (hr1 : r ≤ 2147483647) (w : World) (hown : w.ownsRow B 5 1 v n xs) (hlen : n + 4 ≤ 140737488355328) (hBw : B ≤ w.heap.size) :
    Calls Tryd.prog 98 #[v, .int .i32 r] w fun e w' => ∃ v', e = .returned v' ∧ w'.ownsRow B 5 1 v' (n + (Lib.runeCells r).length) (xs ++ Lib.runeCells r) ∧ ∃ o, (w.alloc o).grownBy w' v.ownBlock := Any.utf8_AppendRune_plain Tryd.lays242 (by kernel_rfl) B v n xs r hr0 hr1 w hown hlen hBw
open Go.RowKit in
theorem Tryd.Builder_grow_fresh_cap (B b n : Nat) (w : World) (hB : B ≤ b) (hbk : w.heap[b]? = some (.cells #[.pointer (some ⟨b, 0, none⟩), .slice none 0 0] 53 (0, 0))) (hBw : B ≤ w.heap.size) (hn : n ≤ 281474976710656) :
    Calls Tryd.prog 77 #[.pointer (some ⟨b, 0, none⟩), .int .i64 n] w fun e w' => e = .returned (.tuple #[]) ∧ (Lib.BuilderAt 53 5 B b (.pointer (some ⟨b, 0, none⟩)) [] w' ∧ Below B w w') ∧ ∃ p cap, w'.cell? ⟨b, 1, none⟩ = some (.slice p 0 cap) ∧ n ≤ cap := Any.Builder_grow_fresh_cap Tryd.lays241 Tryd.Builder_Extra_241 B b n w hB hbk hBw hn
open Go.RowKit in
theorem Tryd.Builder_Grow_fresh_cap (B b n : Nat) (w : World) (hB : B ≤ b) (hbk : w.heap[b]? = some (.cells #[.pointer none, .slice none 0 0] 53 (0, 0))) (hBw : B ≤ w.heap.size) (hn : n ≤ 281474976710656) :
    Calls Tryd.prog 58 #[.pointer (some ⟨b, 0, none⟩), .int .i64 n] w fun e w' => e = .returned (.tuple #[]) ∧ (Lib.BuilderAt 53 5 B b (.pointer (some ⟨b, 0, none⟩)) [] w' ∧ Below B w w') ∧ ∃ p cap, w'.cell? ⟨b, 1, none⟩ = some (.slice p 0 cap) ∧ n ≤ cap := Any.Builder_Grow_fresh_cap Tryd.lays165 Tryd.Builder_Extra_165 B b n w hB hbk hBw hn
def Tryd.lays129_ren : Go.Shelf.Ren := ⟨fun | 129 => 94 | n => n, fun | 53 => 46 | 3 => 3 | 4 => 4 | 46 => 36 | 5 => 5 | 9 => 9 | n => n, fun | n => n⟩
theorem Tryd.lays129 : Go.Proofs.Lays.n129 Tryd.prog Tryd.lays129_ren := {
  mixed := by kernel_rfl
  f129 := Tryd.func94.trans (congrArg some (by kernel_rfl))
  t3 := Tryd.underlying3
  a3 := Tryd.isAgg3
  z3 := Tryd.sizeOf3
  v3 := Tryd.zeroValue3
  t4 := Tryd.underlying4
  a4 := Tryd.isAgg4
  z4 := Tryd.sizeOf4
  v4 := Tryd.zeroValue4
  t5 := Tryd.underlying5
  a5 := Tryd.isAgg5
  z5 := Tryd.sizeOf5
  v5 := Tryd.zeroValue5
  t9 := Tryd.underlying9
  a9 := Tryd.isAgg9
  z9 := Tryd.sizeOf9
  v9 := Tryd.zeroValue9
  t46 := Tryd.underlying36
  a46 := Tryd.isAgg36
  z46 := Tryd.sizeOf36
  v46 := Tryd.zeroValue36
  t53 := Tryd.underlying46
  a53 := Tryd.isAgg46
  z53 := Tryd.sizeOf46
  v53 := Tryd.zeroValue46 }
theorem Tryd.bits_Len64 (x : Int) (w : World) (h0 : 0 ≤ x) (h1 : x ≤ 18446744073709551615) :
    Calls Tryd.prog 94 #[.int .u64 x] w fun e w' => e = .returned (.int .i64 (Lib.bitLen x.toNat)) ∧ w' = w := Any.bits_Len64 Tryd.lays129 x w h0 h1
def Tryd.lays317_ren : Go.Shelf.Ren := ⟨fun | 317 => 93 | n => n, fun | 3 => 3 | 46 => 36 | n => n, fun | n => n⟩
theorem Tryd.lays317 : Go.Proofs.Lays.n317 Tryd.prog Tryd.lays317_ren := {
  mixed := by kernel_rfl
  f317 := Tryd.func93.trans (congrArg some (by kernel_rfl))
  t3 := Tryd.underlying3
  a3 := Tryd.isAgg3
  z3 := Tryd.sizeOf3
  v3 := Tryd.zeroValue3
  t46 := Tryd.underlying36
  a46 := Tryd.isAgg36
  z46 := Tryd.sizeOf36
  v46 := Tryd.zeroValue36 }
open Go.Lib in
theorem Tryd.internal_strconv_log10Pow2 (x : Nat) (h : x ≤ 64) (w : World) :
    Calls Tryd.prog 93 #[.int .i64 x] w fun e w' => e = .returned (.int .i64 (Lib.l10 x)) ∧ w' = w := Any.internal_strconv_log10Pow2 Tryd.lays317 x h w
def Tryd.lays318_ren : Go.Shelf.Ren := ⟨fun | 318 => 95 | n => n, fun | 3 => 3 | 4 => 4 | n => n, fun | n => n⟩
theorem Tryd.lays318 : Go.Proofs.Lays.n318 Tryd.prog Tryd.lays318_ren := {
  mixed := by kernel_rfl
  f318 := Tryd.func95.trans (congrArg some (by kernel_rfl))
  t3 := Tryd.underlying3
  a3 := Tryd.isAgg3
  z3 := Tryd.sizeOf3
  v3 := Tryd.zeroValue3
  t4 := Tryd.underlying4
  a4 := Tryd.isAgg4
  z4 := Tryd.sizeOf4
  v4 := Tryd.zeroValue4 }
open Go.Lib in
theorem Tryd.internal_strconv_bool2_int (b : Bool) (w : World) :
    Calls Tryd.prog 95 #[.bool b] w fun e w' => e = .returned (.int .i64 (if b then 1 else 0)) ∧ w' = w := Any.internal_strconv_bool2_int Tryd.lays318 b w
def Tryd.lays283_ren : Go.Shelf.Ren := ⟨fun | 283 => 79 | n => n, fun | 3 => 3 | 9 => 9 | 4 => 4 | n => n, fun | n => n⟩
theorem Tryd.lays283 : Go.Proofs.Lays.n283 Tryd.prog Tryd.lays283_ren := {
  mixed := by kernel_rfl
  f283 := Tryd.func79.trans (congrArg some (by kernel_rfl))
  t3 := Tryd.underlying3
  a3 := Tryd.isAgg3
  z3 := Tryd.sizeOf3
  v3 := Tryd.zeroValue3
  t4 := Tryd.underlying4
  a4 := Tryd.isAgg4
  z4 := Tryd.sizeOf4
  v4 := Tryd.zeroValue4
  t9 := Tryd.underlying9
  a9 := Tryd.isAgg9
  z9 := Tryd.sizeOf9
  v9 := Tryd.zeroValue9 }
open Go.Lib in
theorem Tryd.internal_strconv_small (i : Nat) (h : i < 100) (w : World) :
    Calls Tryd.prog 79 #[.int .i64 i] w fun e w' => e = .returned (.string ⟨(Lib.decDigits i).toArray⟩) ∧ w' = w := Any.internal_strconv_small Tryd.lays283 i h w
def Tryd.laysM284_ren : Go.Shelf.Ren := ⟨fun | 284 => 80 | 129 => 94 | 317 => 93 | 318 => 95 | n => n, fun | 53 => 46 | 3 => 3 | 212 => 105 | 0 => 0 | 4 => 4 | 46 => 36 | 5 => 5 | 9 => 9 | n => n, fun | 17 => 4 | n => n⟩
theorem Tryd.laysM284 : Go.Proofs.LaysM.n284 Tryd.prog Tryd.laysM284_ren := {
  mixed := by kernel_rfl
  f129 := Tryd.func94.trans (congrArg some (by kernel_rfl))
  f284 := Tryd.func80.trans (congrArg some (by kernel_rfl))
  f317 := Tryd.func93.trans (congrArg some (by kernel_rfl))
  f318 := Tryd.func95.trans (congrArg some (by kernel_rfl))
  t0 := Tryd.underlying0
  a0 := Tryd.isAgg0
  z0 := Tryd.sizeOf0
  v0 := Tryd.zeroValue0
  t3 := Tryd.underlying3
  a3 := Tryd.isAgg3
  z3 := Tryd.sizeOf3
  v3 := Tryd.zeroValue3
  t4 := Tryd.underlying4
  a4 := Tryd.isAgg4
  z4 := Tryd.sizeOf4
  v4 := Tryd.zeroValue4
  t5 := Tryd.underlying5
  a5 := Tryd.isAgg5
  z5 := Tryd.sizeOf5
  v5 := Tryd.zeroValue5
  t9 := Tryd.underlying9
  a9 := Tryd.isAgg9
  z9 := Tryd.sizeOf9
  v9 := Tryd.zeroValue9
  t46 := Tryd.underlying36
  a46 := Tryd.isAgg36
  z46 := Tryd.sizeOf36
  v46 := Tryd.zeroValue36
  t53 := Tryd.underlying46
  a53 := Tryd.isAgg46
  z53 := Tryd.sizeOf46
  v53 := Tryd.zeroValue46
  t212 := Tryd.underlying105
  a212 := Tryd.isAgg105
  z212 := Tryd.sizeOf105
  v212 := Tryd.zeroValue105
  g17 := by kernel_rfl
  i0 := by kernel_rfl
  i3 := by kernel_rfl
  i4 := by kernel_rfl
  i5 := by kernel_rfl
  i9 := by kernel_rfl
  i46 := by kernel_rfl
  i53 := by kernel_rfl
  i212 := by kernel_rfl
  m17 := by kernel_rfl }
open Go.Lib in
theorem Tryd.internal_strconv_numDigits (u : Nat) (h1 : 1 ≤ u) (h2 : u < 18446744073709551616) (w : World) (htab : Lib.TabIs Tryd.prog w "internal/strconv.uint64pow10" .u64 Lib.pow10Tab) :
    Calls Tryd.prog 80 #[.int .u64 u] w fun e w' => e = .returned (.int .i64 (Lib.nDigits u)) ∧ w' = w := Any.internal_strconv_numDigits Tryd.laysM284 u h1 h2 w htab
def Tryd.lays285_ren : Go.Shelf.Ren := ⟨fun | 285 => 81 | n => n, fun | 37 => 37 | 53 => 46 | 3 => 3 | 4 => 4 | 51 => 34 | 9 => 9 | 5 => 5 | 0 => 0 | n => n, fun | n => n⟩
theorem Tryd.lays285 : Go.Proofs.Lays.n285 Tryd.prog Tryd.lays285_ren := {
  mixed := by kernel_rfl
  f285 := Tryd.func81.trans (congrArg some (by kernel_rfl))
  t0 := Tryd.underlying0
  a0 := Tryd.isAgg0
  z0 := Tryd.sizeOf0
  v0 := Tryd.zeroValue0
  t3 := Tryd.underlying3
  a3 := Tryd.isAgg3
  z3 := Tryd.sizeOf3
  v3 := Tryd.zeroValue3
  t4 := Tryd.underlying4
  a4 := Tryd.isAgg4
  z4 := Tryd.sizeOf4
  v4 := Tryd.zeroValue4
  t5 := Tryd.underlying5
  a5 := Tryd.isAgg5
  z5 := Tryd.sizeOf5
  v5 := Tryd.zeroValue5
  t9 := Tryd.underlying9
  a9 := Tryd.isAgg9
  z9 := Tryd.sizeOf9
  v9 := Tryd.zeroValue9
  t37 := Tryd.underlying37
  a37 := Tryd.isAgg37
  z37 := Tryd.sizeOf37
  v37 := Tryd.zeroValue37
  t51 := Tryd.underlying34
  a51 := Tryd.isAgg34
  z51 := Tryd.sizeOf34
  v51 := Tryd.zeroValue34
  t53 := Tryd.underlying46
  a53 := Tryd.isAgg46
  z53 := Tryd.sizeOf46
  v53 := Tryd.zeroValue46 }
open Go.RowKit Go.Sort Go.Lib in
theorem Tryd.internal_strconv_formatBase10 (blk off cap : Nat) (u : Nat) (d : Array UInt8) (w : World) (hH : Holds (fun (b : UInt8) => Value.int .u8 (b.toNat : Int)) w blk off d) (hu : u < 10 ^ d.size) (hu64 : u < 18446744073709551616) (hsz : d.size < 4611686018427387904) :
    Calls Tryd.prog 81 #[.slice (some ⟨blk, off, none⟩) d.size cap, .int .u64 u] w fun e w' =>
      e = .returned (.tuple #[]) ∧ ∃ (n v' : Nat) (dk : Array UInt8), w' = (putRow (fun (b : UInt8) => Value.int .u8 (b.toNat : Int)) w blk off dk).drewN n ∧ FmtInv d.size u 0 v' dk := Any.internal_strconv_formatBase10 Tryd.lays285 blk off cap u d w hH hu hu64 hsz
def Tryd.lays315_ren : Go.Shelf.Ren := ⟨fun | 315 => 87 | n => n, fun | 9 => 9 | 40 => 31 | 4 => 4 | 3 => 3 | 0 => 0 | 21 => 21 | n => n, fun | n => n⟩
theorem Tryd.lays315 : Go.Proofs.Lays.n315 Tryd.prog Tryd.lays315_ren := {
  mixed := by kernel_rfl
  f315 := Tryd.func87.trans (congrArg some (by kernel_rfl))
  t0 := Tryd.underlying0
  a0 := Tryd.isAgg0
  z0 := Tryd.sizeOf0
  v0 := Tryd.zeroValue0
  t3 := Tryd.underlying3
  a3 := Tryd.isAgg3
  z3 := Tryd.sizeOf3
  v3 := Tryd.zeroValue3
  t4 := Tryd.underlying4
  a4 := Tryd.isAgg4
  z4 := Tryd.sizeOf4
  v4 := Tryd.zeroValue4
  t9 := Tryd.underlying9
  a9 := Tryd.isAgg9
  z9 := Tryd.sizeOf9
  v9 := Tryd.zeroValue9
  t21 := Tryd.underlying21
  a21 := Tryd.isAgg21
  z21 := Tryd.sizeOf21
  v21 := Tryd.zeroValue21
  t40 := Tryd.underlying31
  a40 := Tryd.isAgg31
  z40 := Tryd.sizeOf31
  v40 := Tryd.zeroValue31 }
open Go.RowKit Go.Lib in
theorem Tryd.strings_indexFunc (g : Nat) (lb : Array Value) (eg : ∀ args w, (callFunc g args).run Tryd.prog w = .ok (.enter g args) w) (p : Nat → Bool) (truth : Bool) (s : ByteArray) (w : World) (hp : PredAt Tryd.prog g lb encR p w) :
    Calls Tryd.prog 87 #[.string s, .func (.func g) #[] lb, .bool truth] w fun e w' => e = .returned (.int .i64 (Lib.idxFunc p truth s)) ∧ Below w.heap.size w w' := Any.strings_indexFunc Tryd.lays315 g lb eg p truth s w hp
def Tryd.lays273_ren : Go.Shelf.Ren := ⟨fun | 273 => 72 | 271 => 90 | 120 => 100 | 197 => 62 | 260 => 78 | n => n, fun | 9 => 9 | 40 => 31 | 4 => 4 | 3 => 3 | 105 => 61 | 21 => 21 | 5 => 5 | 119 => 47 | 0 => 0 | 46 => 36 | 139 => 102 | 138 => 101 | n => n, fun | 3 => 2 | 4 => 3 | n => n⟩
theorem Tryd.lays273 : Go.Proofs.Lays.n273 Tryd.prog Tryd.lays273_ren := {
  mixed := by kernel_rfl
  f120 := Tryd.func100.trans (congrArg some (by kernel_rfl))
  f197 := Tryd.func62.trans (congrArg some (by kernel_rfl))
  f260 := Tryd.func78.trans (congrArg some (by kernel_rfl))
  f271 := Tryd.func90.trans (congrArg some (by kernel_rfl))
  f273 := Tryd.func72.trans (congrArg some (by kernel_rfl))
  t0 := Tryd.underlying0
  a0 := Tryd.isAgg0
  z0 := Tryd.sizeOf0
  v0 := Tryd.zeroValue0
  t3 := Tryd.underlying3
  a3 := Tryd.isAgg3
  z3 := Tryd.sizeOf3
  v3 := Tryd.zeroValue3
  t4 := Tryd.underlying4
  a4 := Tryd.isAgg4
  z4 := Tryd.sizeOf4
  v4 := Tryd.zeroValue4
  t5 := Tryd.underlying5
  a5 := Tryd.isAgg5
  z5 := Tryd.sizeOf5
  v5 := Tryd.zeroValue5
  t9 := Tryd.underlying9
  a9 := Tryd.isAgg9
  z9 := Tryd.sizeOf9
  v9 := Tryd.zeroValue9
  t21 := Tryd.underlying21
  a21 := Tryd.isAgg21
  z21 := Tryd.sizeOf21
  v21 := Tryd.zeroValue21
  t40 := Tryd.underlying31
  a40 := Tryd.isAgg31
  z40 := Tryd.sizeOf31
  v40 := Tryd.zeroValue31
  t46 := Tryd.underlying36
  a46 := Tryd.isAgg36
  z46 := Tryd.sizeOf36
  v46 := Tryd.zeroValue36
  t105 := Tryd.underlying61
  a105 := Tryd.isAgg61
  z105 := Tryd.sizeOf61
  v105 := Tryd.zeroValue61
  t119 := Tryd.underlying47
  a119 := Tryd.isAgg47
  z119 := Tryd.sizeOf47
  t138 := Tryd.underlying101
  a138 := Tryd.isAgg101
  z138 := Tryd.sizeOf101
  v138 := Tryd.zeroValue101
  t139 := Tryd.underlying102
  a139 := Tryd.isAgg102
  z139 := Tryd.sizeOf102
  v139 := Tryd.zeroValue102
  g3 := by kernel_rfl
  g4 := by kernel_rfl }
open Go.RowKit Go.Lib in
theorem Tryd.strings_lastIndexFunc (g : Nat) (lb : Array Value) (eg : ∀ args w, (callFunc g args).run Tryd.prog w = .ok (.enter g args) w) (p : Nat → Bool) (truth : Bool) (s : ByteArray) (w : World) (hs : s.size ≤ 9223372036854775807) (hT : Lib.Utf8Tabs 2 3 w) (hp : PredAt Tryd.prog g lb encR p w) :
    Calls Tryd.prog 72 #[.string s, .func (.func g) #[] lb, .bool truth] w fun e w' => e = .returned (.int .i64 (Lib.lastIdxFunc p truth s)) ∧ Below w.heap.size w w' := Any.strings_lastIndexFunc Tryd.lays273 g lb eg p truth s w hs hT hp
def Tryd.lays272_ren : Go.Shelf.Ren := ⟨fun | 272 => 70 | 315 => 87 | n => n, fun | 9 => 9 | 40 => 31 | 4 => 4 | 3 => 3 | 0 => 0 | 21 => 21 | n => n, fun | n => n⟩
theorem Tryd.lays272 : Go.Proofs.Lays.n272 Tryd.prog Tryd.lays272_ren := {
  mixed := by kernel_rfl
  f272 := Tryd.func70.trans (congrArg some (by kernel_rfl))
  f315 := Tryd.func87.trans (congrArg some (by kernel_rfl))
  t0 := Tryd.underlying0
  a0 := Tryd.isAgg0
  z0 := Tryd.sizeOf0
  v0 := Tryd.zeroValue0
  t3 := Tryd.underlying3
  a3 := Tryd.isAgg3
  z3 := Tryd.sizeOf3
  v3 := Tryd.zeroValue3
  t4 := Tryd.underlying4
  a4 := Tryd.isAgg4
  z4 := Tryd.sizeOf4
  v4 := Tryd.zeroValue4
  t9 := Tryd.underlying9
  a9 := Tryd.isAgg9
  z9 := Tryd.sizeOf9
  v9 := Tryd.zeroValue9
  t21 := Tryd.underlying21
  a21 := Tryd.isAgg21
  z21 := Tryd.sizeOf21
  v21 := Tryd.zeroValue21
  t40 := Tryd.underlying31
  a40 := Tryd.isAgg31
  z40 := Tryd.sizeOf31
  v40 := Tryd.zeroValue31 }
open Go.RowKit Go.Lib in
theorem Tryd.strings_TrimLeftFunc (g : Nat) (lb : Array Value) (eg : ∀ args w, (callFunc g args).run Tryd.prog w = .ok (.enter g args) w) (p : Nat → Bool) (s : ByteArray) (w : World) (hp : PredAt Tryd.prog g lb encR p w) :
    Calls Tryd.prog 70 #[.string s, .func (.func g) #[] lb] w fun e w' => e = .returned (.string (Lib.trimLeftF p s)) ∧ Below w.heap.size w w' := Any.strings_TrimLeftFunc Tryd.lays272 g lb eg p s w hp
def Tryd.lays238_ren : Go.Shelf.Ren := ⟨fun | 238 => 55 | 273 => 72 | 197 => 62 | 271 => 90 | 260 => 78 | 120 => 100 | n => n, fun | 9 => 9 | 40 => 31 | 4 => 4 | 3 => 3 | 105 => 61 | 21 => 21 | 5 => 5 | 119 => 47 | 0 => 0 | 46 => 36 | 139 => 102 | 138 => 101 | n => n, fun | 3 => 2 | 4 => 3 | n => n⟩
theorem Tryd.lays238 : Go.Proofs.Lays.n238 Tryd.prog Tryd.lays238_ren := {
  mixed := by kernel_rfl
  f120 := Tryd.func100.trans (congrArg some (by kernel_rfl))
  f197 := Tryd.func62.trans (congrArg some (by kernel_rfl))
  f238 := Tryd.func55.trans (congrArg some (by kernel_rfl))
  f260 := Tryd.func78.trans (congrArg some (by kernel_rfl))
  f271 := Tryd.func90.trans (congrArg some (by kernel_rfl))
  f273 := Tryd.func72.trans (congrArg some (by kernel_rfl))
  t0 := Tryd.underlying0
  a0 := Tryd.isAgg0
  z0 := Tryd.sizeOf0
  v0 := Tryd.zeroValue0
  t3 := Tryd.underlying3
  a3 := Tryd.isAgg3
  z3 := Tryd.sizeOf3
  v3 := Tryd.zeroValue3
  t4 := Tryd.underlying4
  a4 := Tryd.isAgg4
  z4 := Tryd.sizeOf4
  v4 := Tryd.zeroValue4
  t5 := Tryd.underlying5
  a5 := Tryd.isAgg5
  z5 := Tryd.sizeOf5
  v5 := Tryd.zeroValue5
  t9 := Tryd.underlying9
  a9 := Tryd.isAgg9
  z9 := Tryd.sizeOf9
  v9 := Tryd.zeroValue9
  t21 := Tryd.underlying21
  a21 := Tryd.isAgg21
  z21 := Tryd.sizeOf21
  v21 := Tryd.zeroValue21
  t40 := Tryd.underlying31
  a40 := Tryd.isAgg31
  z40 := Tryd.sizeOf31
  v40 := Tryd.zeroValue31
  t46 := Tryd.underlying36
  a46 := Tryd.isAgg36
  z46 := Tryd.sizeOf36
  v46 := Tryd.zeroValue36
  t105 := Tryd.underlying61
  a105 := Tryd.isAgg61
  z105 := Tryd.sizeOf61
  v105 := Tryd.zeroValue61
  t119 := Tryd.underlying47
  a119 := Tryd.isAgg47
  z119 := Tryd.sizeOf47
  t138 := Tryd.underlying101
  a138 := Tryd.isAgg101
  z138 := Tryd.sizeOf101
  v138 := Tryd.zeroValue101
  t139 := Tryd.underlying102
  a139 := Tryd.isAgg102
  z139 := Tryd.sizeOf102
  v139 := Tryd.zeroValue102
  g3 := by kernel_rfl
  g4 := by kernel_rfl }
open Go.RowKit Go.Lib in
theorem Tryd.strings_TrimRightFunc (g : Nat) (lb : Array Value) (eg : ∀ args w, (callFunc g args).run Tryd.prog w = .ok (.enter g args) w) (p : Nat → Bool) (s : ByteArray) (w : World) (hs : s.size ≤ 9223372036854775807) (hT : Lib.Utf8Tabs 2 3 w) (hp : PredAt Tryd.prog g lb encR p w) :
    Calls Tryd.prog 55 #[.string s, .func (.func g) #[] lb] w fun e w' => e = .returned (.string (Lib.trimRightF p s)) ∧ Below w.heap.size w w' := Any.strings_TrimRightFunc Tryd.lays238 g lb eg p s w hs hT hp
def Tryd.lays237_ren : Go.Shelf.Ren := ⟨fun | 237 => 53 | 272 => 70 | 238 => 55 | 315 => 87 | 273 => 72 | 197 => 62 | 271 => 90 | 260 => 78 | 120 => 100 | n => n, fun | 9 => 9 | 40 => 31 | 4 => 4 | 3 => 3 | 105 => 61 | 21 => 21 | 0 => 0 | 5 => 5 | 119 => 47 | 46 => 36 | 139 => 102 | 138 => 101 | n => n, fun | 3 => 2 | 4 => 3 | n => n⟩
theorem Tryd.lays237 : Go.Proofs.Lays.n237 Tryd.prog Tryd.lays237_ren := {
  mixed := by kernel_rfl
  f120 := Tryd.func100.trans (congrArg some (by kernel_rfl))
  f197 := Tryd.func62.trans (congrArg some (by kernel_rfl))
  f237 := Tryd.func53.trans (congrArg some (by kernel_rfl))
  f238 := Tryd.func55.trans (congrArg some (by kernel_rfl))
  f260 := Tryd.func78.trans (congrArg some (by kernel_rfl))
  f271 := Tryd.func90.trans (congrArg some (by kernel_rfl))
  f272 := Tryd.func70.trans (congrArg some (by kernel_rfl))
  f273 := Tryd.func72.trans (congrArg some (by kernel_rfl))
  f315 := Tryd.func87.trans (congrArg some (by kernel_rfl))
  t0 := Tryd.underlying0
  a0 := Tryd.isAgg0
  z0 := Tryd.sizeOf0
  v0 := Tryd.zeroValue0
  t3 := Tryd.underlying3
  a3 := Tryd.isAgg3
  z3 := Tryd.sizeOf3
  v3 := Tryd.zeroValue3
  t4 := Tryd.underlying4
  a4 := Tryd.isAgg4
  z4 := Tryd.sizeOf4
  v4 := Tryd.zeroValue4
  t5 := Tryd.underlying5
  a5 := Tryd.isAgg5
  z5 := Tryd.sizeOf5
  v5 := Tryd.zeroValue5
  t9 := Tryd.underlying9
  a9 := Tryd.isAgg9
  z9 := Tryd.sizeOf9
  v9 := Tryd.zeroValue9
  t21 := Tryd.underlying21
  a21 := Tryd.isAgg21
  z21 := Tryd.sizeOf21
  v21 := Tryd.zeroValue21
  t40 := Tryd.underlying31
  a40 := Tryd.isAgg31
  z40 := Tryd.sizeOf31
  v40 := Tryd.zeroValue31
  t46 := Tryd.underlying36
  a46 := Tryd.isAgg36
  z46 := Tryd.sizeOf36
  v46 := Tryd.zeroValue36
  t105 := Tryd.underlying61
  a105 := Tryd.isAgg61
  z105 := Tryd.sizeOf61
  v105 := Tryd.zeroValue61
  t119 := Tryd.underlying47
  a119 := Tryd.isAgg47
  z119 := Tryd.sizeOf47
  t138 := Tryd.underlying101
  a138 := Tryd.isAgg101
  z138 := Tryd.sizeOf101
  v138 := Tryd.zeroValue101
  t139 := Tryd.underlying102
  a139 := Tryd.isAgg102
  z139 := Tryd.sizeOf102
  v139 := Tryd.zeroValue102
  g3 := by kernel_rfl
  g4 := by kernel_rfl }
open Go.RowKit Go.Lib in
theorem Tryd.strings_TrimFunc (g : Nat) (lb : Array Value) (eg : ∀ args w, (callFunc g args).run Tryd.prog w = .ok (.enter g args) w) (p : Nat → Bool) (s : ByteArray) (w : World) (hs : s.size ≤ 9223372036854775807) (hT : Lib.Utf8Tabs 2 3 w) (hp : PredAt Tryd.prog g lb encR p w) :
    Calls Tryd.prog 53 #[.string s, .func (.func g) #[] lb] w fun e w' => e = .returned (.string (Lib.trimF p s)) ∧ Below w.heap.size w w' := Any.strings_TrimFunc Tryd.lays237 g lb eg p s w hs hT hp
def Tryd.lays206_ren : Go.Shelf.Ren := ⟨fun | 206 => 75 | n => n, fun | 9 => 9 | 4 => 4 | 3 => 3 | n => n, fun | n => n⟩
theorem Tryd.lays206 : Go.Proofs.Lays.n206 Tryd.prog Tryd.lays206_ren := {
  mixed := by kernel_rfl
  f206 := Tryd.func75.trans (congrArg some (by kernel_rfl))
  t3 := Tryd.underlying3
  a3 := Tryd.isAgg3
  z3 := Tryd.sizeOf3
  v3 := Tryd.zeroValue3
  t4 := Tryd.underlying4
  a4 := Tryd.isAgg4
  z4 := Tryd.sizeOf4
  v4 := Tryd.zeroValue4
  t9 := Tryd.underlying9
  a9 := Tryd.isAgg9
  z9 := Tryd.sizeOf9
  v9 := Tryd.zeroValue9 }
open Go.RowKit Go.Lib in
theorem Tryd.stringslite_HasPrefix (s p : ByteArray) (w : World) :
    Calls Tryd.prog 75 #[.string s, .string p] w fun e w' => e = .returned (.bool (Lib.hasPrefix s.data.toList p.data.toList)) ∧ w' = w := Any.stringslite_HasPrefix Tryd.lays206 s p w
def Tryd.lays99_ren : Go.Shelf.Ren := ⟨fun | 99 => 57 | 206 => 75 | n => n, fun | 9 => 9 | 4 => 4 | 3 => 3 | n => n, fun | n => n⟩
theorem Tryd.lays99 : Go.Proofs.Lays.n99 Tryd.prog Tryd.lays99_ren := {
  mixed := by kernel_rfl
  f99 := Tryd.func57.trans (congrArg some (by kernel_rfl))
  f206 := Tryd.func75.trans (congrArg some (by kernel_rfl))
  t3 := Tryd.underlying3
  a3 := Tryd.isAgg3
  z3 := Tryd.sizeOf3
  v3 := Tryd.zeroValue3
  t4 := Tryd.underlying4
  a4 := Tryd.isAgg4
  z4 := Tryd.sizeOf4
  v4 := Tryd.zeroValue4
  t9 := Tryd.underlying9
  a9 := Tryd.isAgg9
  z9 := Tryd.sizeOf9
  v9 := Tryd.zeroValue9 }
open Go.RowKit Go.Lib in
theorem Tryd.strings_HasPrefix (s p : ByteArray) (w : World) :
    Calls Tryd.prog 57 #[.string s, .string p] w fun e w' => e = .returned (.bool (Lib.hasPrefix s.data.toList p.data.toList)) ∧ w' = w := Any.strings_HasPrefix Tryd.lays99 s p w
def Tryd.lays199_ren : Go.Shelf.Ren := ⟨fun | 199 => 54 | 261 => 71 | 311 => 88 | 312 => 89 | n => n, fun | 21 => 21 | 4 => 4 | 51 => 34 | 141 => 70 | 0 => 0 | 196 => 89 | 193 => 86 | 3 => 3 | 198 => 92 | 49 => 90 | 194 => 87 | 201 => 95 | 226 => 113 | 46 => 36 | 227 => 114 | n => n, fun | 6 => 1 | n => n⟩
theorem Tryd.lays199 : Go.Proofs.Lays.n199 Tryd.prog Tryd.lays199_ren := {
  mixed := by kernel_rfl
  f199 := Tryd.func54.trans (congrArg some (by kernel_rfl))
  f261 := Tryd.func71.trans (congrArg some (by kernel_rfl))
  f311 := Tryd.func88.trans (congrArg some (by kernel_rfl))
  f312 := Tryd.func89.trans (congrArg some (by kernel_rfl))
  t0 := Tryd.underlying0
  a0 := Tryd.isAgg0
  z0 := Tryd.sizeOf0
  v0 := Tryd.zeroValue0
  t3 := Tryd.underlying3
  a3 := Tryd.isAgg3
  z3 := Tryd.sizeOf3
  v3 := Tryd.zeroValue3
  t4 := Tryd.underlying4
  a4 := Tryd.isAgg4
  z4 := Tryd.sizeOf4
  v4 := Tryd.zeroValue4
  t21 := Tryd.underlying21
  a21 := Tryd.isAgg21
  z21 := Tryd.sizeOf21
  v21 := Tryd.zeroValue21
  t46 := Tryd.underlying36
  a46 := Tryd.isAgg36
  z46 := Tryd.sizeOf36
  v46 := Tryd.zeroValue36
  t49 := Tryd.underlying90
  a49 := Tryd.isAgg90
  z49 := Tryd.sizeOf90
  v49 := Tryd.zeroValue90
  t51 := Tryd.underlying34
  a51 := Tryd.isAgg34
  z51 := Tryd.sizeOf34
  v51 := Tryd.zeroValue34
  t141 := Tryd.underlying70
  a141 := Tryd.isAgg70
  z141 := Tryd.sizeOf70
  v141 := Tryd.zeroValue70
  t193 := Tryd.underlying86
  a193 := Tryd.isAgg86
  z193 := Tryd.sizeOf86
  v193 := Tryd.zeroValue86
  t194 := Tryd.underlying87
  a194 := Tryd.isAgg87
  z194 := Tryd.sizeOf87
  v194 := Tryd.zeroValue87
  t196 := Tryd.underlying89
  a196 := Tryd.isAgg89
  z196 := Tryd.sizeOf89
  v196 := Tryd.zeroValue89
  t198 := Tryd.underlying92
  a198 := Tryd.isAgg92
  z198 := Tryd.sizeOf92
  v198 := Tryd.zeroValue92
  t201 := Tryd.underlying95
  a201 := Tryd.isAgg95
  z201 := Tryd.sizeOf95
  v201 := Tryd.zeroValue95
  t226 := Tryd.underlying113
  a226 := Tryd.isAgg113
  z226 := Tryd.sizeOf113
  v226 := Tryd.zeroValue113
  t227 := Tryd.underlying114
  a227 := Tryd.isAgg114
  z227 := Tryd.sizeOf114
  v227 := Tryd.zeroValue114
  g6 := by kernel_rfl }
open Go.RowKit Go.Lib in
theorem Tryd.unicode_IsSpace (r : Int) (w : World) (h0 : 0 ≤ r) (h : r ≤ 255) :
    Calls Tryd.prog 54 #[.int .i32 r] w fun e w' => e = .returned (.bool (Lib.isSpaceL r)) ∧ w' = w := Any.unicode_IsSpace Tryd.lays199 r w h0 h
def Tryd.lays203_ren : Go.Shelf.Ren := ⟨fun | 203 => 68 | 262 => 86 | 313 => 99 | 274 => 104 | 275 => 105 | n => n, fun | 21 => 21 | 4 => 4 | 3 => 3 | 162 => 112 | 203 => 110 | 160 => 117 | 46 => 36 | 0 => 0 | 208 => 125 | 51 => 34 | 206 => 123 | n => n, fun | 13 => 5 | n => n⟩
theorem Tryd.lays203 : Go.Proofs.Lays.n203 Tryd.prog Tryd.lays203_ren := {
  mixed := by kernel_rfl
  f203 := Tryd.func68.trans (congrArg some (by kernel_rfl))
  f262 := Tryd.func86.trans (congrArg some (by kernel_rfl))
  f274 := Tryd.func104.trans (congrArg some (by kernel_rfl))
  f275 := Tryd.func105.trans (congrArg some (by kernel_rfl))
  f313 := Tryd.func99.trans (congrArg some (by kernel_rfl))
  t0 := Tryd.underlying0
  a0 := Tryd.isAgg0
  z0 := Tryd.sizeOf0
  v0 := Tryd.zeroValue0
  t3 := Tryd.underlying3
  a3 := Tryd.isAgg3
  z3 := Tryd.sizeOf3
  v3 := Tryd.zeroValue3
  t4 := Tryd.underlying4
  a4 := Tryd.isAgg4
  z4 := Tryd.sizeOf4
  v4 := Tryd.zeroValue4
  t21 := Tryd.underlying21
  a21 := Tryd.isAgg21
  z21 := Tryd.sizeOf21
  v21 := Tryd.zeroValue21
  t46 := Tryd.underlying36
  a46 := Tryd.isAgg36
  z46 := Tryd.sizeOf36
  v46 := Tryd.zeroValue36
  t51 := Tryd.underlying34
  a51 := Tryd.isAgg34
  z51 := Tryd.sizeOf34
  v51 := Tryd.zeroValue34
  t160 := Tryd.underlying117
  a160 := Tryd.isAgg117
  z160 := Tryd.sizeOf117
  v160 := Tryd.zeroValue117
  t162 := Tryd.underlying112
  a162 := Tryd.isAgg112
  z162 := Tryd.sizeOf112
  v162 := Tryd.zeroValue112
  t203 := Tryd.underlying110
  a203 := Tryd.isAgg110
  z203 := Tryd.sizeOf110
  v203 := Tryd.zeroValue110
  t206 := Tryd.underlying123
  a206 := Tryd.isAgg123
  z206 := Tryd.sizeOf123
  v206 := Tryd.zeroValue123
  t208 := Tryd.underlying125
  a208 := Tryd.isAgg125
  z208 := Tryd.sizeOf125
  v208 := Tryd.zeroValue125
  g13 := by kernel_rfl }
open Go.RowKit Go.Lib in
theorem Tryd.unicode_ToUpper (r : Int) (w : World) (h : r ≤ 127) :
    Calls Tryd.prog 68 #[.int .i32 r] w fun e w' => e = .returned (.int .i32 (Lib.toUpperR r)) ∧ w' = w := Any.unicode_ToUpper Tryd.lays203 r w h
def Tryd.lays204_ren : Go.Shelf.Ren := ⟨fun | 204 => 69 | 262 => 86 | 313 => 99 | 274 => 104 | 275 => 105 | n => n, fun | 21 => 21 | 4 => 4 | 3 => 3 | 162 => 112 | 203 => 110 | 160 => 117 | 46 => 36 | 0 => 0 | 208 => 125 | 51 => 34 | 206 => 123 | n => n, fun | 13 => 5 | n => n⟩
theorem Tryd.lays204 : Go.Proofs.Lays.n204 Tryd.prog Tryd.lays204_ren := {
  mixed := by kernel_rfl
  f204 := Tryd.func69.trans (congrArg some (by kernel_rfl))
  f262 := Tryd.func86.trans (congrArg some (by kernel_rfl))
  f274 := Tryd.func104.trans (congrArg some (by kernel_rfl))
  f275 := Tryd.func105.trans (congrArg some (by kernel_rfl))
  f313 := Tryd.func99.trans (congrArg some (by kernel_rfl))
  t0 := Tryd.underlying0
  a0 := Tryd.isAgg0
  z0 := Tryd.sizeOf0
  v0 := Tryd.zeroValue0
  t3 := Tryd.underlying3
  a3 := Tryd.isAgg3
  z3 := Tryd.sizeOf3
  v3 := Tryd.zeroValue3
  t4 := Tryd.underlying4
  a4 := Tryd.isAgg4
  z4 := Tryd.sizeOf4
  v4 := Tryd.zeroValue4
  t21 := Tryd.underlying21
  a21 := Tryd.isAgg21
  z21 := Tryd.sizeOf21
  v21 := Tryd.zeroValue21
  t46 := Tryd.underlying36
  a46 := Tryd.isAgg36
  z46 := Tryd.sizeOf36
  v46 := Tryd.zeroValue36
  t51 := Tryd.underlying34
  a51 := Tryd.isAgg34
  z51 := Tryd.sizeOf34
  v51 := Tryd.zeroValue34
  t160 := Tryd.underlying117
  a160 := Tryd.isAgg117
  z160 := Tryd.sizeOf117
  v160 := Tryd.zeroValue117
  t162 := Tryd.underlying112
  a162 := Tryd.isAgg112
  z162 := Tryd.sizeOf112
  v162 := Tryd.zeroValue112
  t203 := Tryd.underlying110
  a203 := Tryd.isAgg110
  z203 := Tryd.sizeOf110
  v203 := Tryd.zeroValue110
  t206 := Tryd.underlying123
  a206 := Tryd.isAgg123
  z206 := Tryd.sizeOf123
  v206 := Tryd.zeroValue123
  t208 := Tryd.underlying125
  a208 := Tryd.isAgg125
  z208 := Tryd.sizeOf125
  v208 := Tryd.zeroValue125
  g13 := by kernel_rfl }
open Go.RowKit Go.Lib in
theorem Tryd.unicode_ToLower (r : Int) (w : World) (h : r ≤ 127) :
    Calls Tryd.prog 69 #[.int .i32 r] w fun e w' => e = .returned (.int .i32 (Lib.toLowerR r)) ∧ w' = w := Any.unicode_ToLower Tryd.lays204 r w h
def Tryd.lays197_ren : Go.Shelf.Ren := ⟨fun | 197 => 62 | 260 => 78 | n => n, fun | 9 => 9 | 21 => 21 | 3 => 3 | 4 => 4 | 5 => 5 | 105 => 61 | 119 => 47 | 0 => 0 | 46 => 36 | 139 => 102 | 138 => 101 | n => n, fun | 3 => 2 | 4 => 3 | n => n⟩
theorem Tryd.lays197 : Go.Proofs.Lays.n197 Tryd.prog Tryd.lays197_ren := {
  mixed := by kernel_rfl
  f197 := Tryd.func62.trans (congrArg some (by kernel_rfl))
  f260 := Tryd.func78.trans (congrArg some (by kernel_rfl))
  t0 := Tryd.underlying0
  a0 := Tryd.isAgg0
  z0 := Tryd.sizeOf0
  v0 := Tryd.zeroValue0
  t3 := Tryd.underlying3
  a3 := Tryd.isAgg3
  z3 := Tryd.sizeOf3
  v3 := Tryd.zeroValue3
  t4 := Tryd.underlying4
  a4 := Tryd.isAgg4
  z4 := Tryd.sizeOf4
  v4 := Tryd.zeroValue4
  t5 := Tryd.underlying5
  a5 := Tryd.isAgg5
  z5 := Tryd.sizeOf5
  v5 := Tryd.zeroValue5
  t9 := Tryd.underlying9
  a9 := Tryd.isAgg9
  z9 := Tryd.sizeOf9
  v9 := Tryd.zeroValue9
  t21 := Tryd.underlying21
  a21 := Tryd.isAgg21
  z21 := Tryd.sizeOf21
  v21 := Tryd.zeroValue21
  t46 := Tryd.underlying36
  a46 := Tryd.isAgg36
  z46 := Tryd.sizeOf36
  v46 := Tryd.zeroValue36
  t105 := Tryd.underlying61
  a105 := Tryd.isAgg61
  z105 := Tryd.sizeOf61
  v105 := Tryd.zeroValue61
  t119 := Tryd.underlying47
  a119 := Tryd.isAgg47
  z119 := Tryd.sizeOf47
  t138 := Tryd.underlying101
  a138 := Tryd.isAgg101
  z138 := Tryd.sizeOf101
  v138 := Tryd.zeroValue101
  t139 := Tryd.underlying102
  a139 := Tryd.isAgg102
  z139 := Tryd.sizeOf102
  v139 := Tryd.zeroValue102
  g3 := by kernel_rfl
  g4 := by kernel_rfl }
open Go.RowKit Go.Lib in
theorem Tryd.utf8_DecodeRuneInString_ascii (s : ByteArray) (x : UInt8) (w : World) (h0 : s.data.toList[0]? = some x) (hx : x.toNat < 128) :
    Calls Tryd.prog 62 #[.string s] w fun e w' => e = .returned (.tuple #[.int .i32 x.toNat, .int .i64 1]) ∧ w' = w := Any.utf8_DecodeRuneInString_ascii Tryd.lays197 s x w h0 hx
def Tryd.lays264_ren : Go.Shelf.Ren := ⟨fun | 264 => 74 | n => n, fun | 53 => 46 | 46 => 36 | n => n, fun | n => n⟩
theorem Tryd.lays264 : Go.Proofs.Lays.n264 Tryd.prog Tryd.lays264_ren := {
  mixed := by kernel_rfl
  f264 := Tryd.func74.trans (congrArg some (by kernel_rfl))
  t46 := Tryd.underlying36
  a46 := Tryd.isAgg36
  z46 := Tryd.sizeOf36
  v46 := Tryd.zeroValue36
  t53 := Tryd.underlying46
  a53 := Tryd.isAgg46
  z53 := Tryd.sizeOf46
  v53 := Tryd.zeroValue46 }
open Go.RowKit Go.Lib in
theorem Tryd.bits_Mul64 (x y : Nat) (hx : x < 18446744073709551616) (hy : y < 18446744073709551616) (w : World) :
    Calls Tryd.prog 74 #[.int .u64 x, .int .u64 y] w fun e w' => e = .returned (.tuple #[.int .u64 ((x * y / 18446744073709551616 : Nat) : Int), .int .u64 ((x * y % 18446744073709551616 : Nat) : Int)]) ∧ w' = w := Any.bits_Mul64 Tryd.lays264 x y hx hy w
def Tryd.lays212_ren : Go.Shelf.Ren := ⟨fun | 212 => 56 | 263 => 73 | 264 => 74 | n => n, fun | 46 => 36 | 51 => 34 | 146 => 72 | 53 => 46 | 148 => 74 | n => n, fun | n => n⟩
theorem Tryd.lays212 : Go.Proofs.Lays.n212 Tryd.prog Tryd.lays212_ren := {
  mixed := by kernel_rfl
  f212 := Tryd.func56.trans (congrArg some (by kernel_rfl))
  f263 := Tryd.func73.trans (congrArg some (by kernel_rfl))
  f264 := Tryd.func74.trans (congrArg some (by kernel_rfl))
  t46 := Tryd.underlying36
  a46 := Tryd.isAgg36
  z46 := Tryd.sizeOf36
  v46 := Tryd.zeroValue36
  t51 := Tryd.underlying34
  a51 := Tryd.isAgg34
  z51 := Tryd.sizeOf34
  v51 := Tryd.zeroValue34
  t53 := Tryd.underlying46
  a53 := Tryd.isAgg46
  z53 := Tryd.sizeOf46
  v53 := Tryd.zeroValue46
  t146 := Tryd.underlying72
  a146 := Tryd.isAgg72
  z146 := Tryd.sizeOf72
  v146 := Tryd.zeroValue72
  t148 := Tryd.underlying74
  a148 := Tryd.isAgg74
  z148 := Tryd.sizeOf74
  v148 := Tryd.zeroValue74 }
open Go.RowKit Go.Lib in
theorem Tryd.bits_Mul (x y : Nat) (hx : x < 18446744073709551616) (hy : y < 18446744073709551616) (w : World) :
    Calls Tryd.prog 56 #[.int .u64 x, .int .u64 y] w fun e w' => e = .returned (.tuple #[.int .u64 ((x * y / 18446744073709551616 : Nat) : Int), .int .u64 ((x * y % 18446744073709551616 : Nat) : Int)]) ∧ w' = w := Any.bits_Mul Tryd.lays212 x y hx hy w
def Tryd.lays105_ren : Go.Shelf.Ren := ⟨fun | 105 => 47 | 212 => 56 | 99 => 57 | 165 => 58 | 166 => 59 | 170 => 60 | 169 => 61 | 263 => 73 | 264 => 74 | 206 => 75 | 240 => 76 | 241 => 77 | 276 => 91 | 277 => 92 | n => n, fun | 9 => 9 | 3 => 3 | 4 => 4 | 20 => 20 | 0 => 0 | 46 => 36 | 109 => 48 | 5 => 5 | 72 => 53 | 76 => 57 | 51 => 34 | 146 => 72 | 53 => 46 | 148 => 74 | 70 => 51 | 37 => 37 | 75 => 56 | 127 => 76 | 164 => 97 | 80 => 60 | n => n, fun | n => n⟩
theorem Tryd.lays105 : Go.Proofs.Lays.n105 Tryd.prog Tryd.lays105_ren := {
  mixed := by kernel_rfl
  f99 := Tryd.func57.trans (congrArg some (by kernel_rfl))
  f105 := Tryd.func47.trans (congrArg some (by kernel_rfl))
  f165 := Tryd.func58.trans (congrArg some (by kernel_rfl))
  f166 := Tryd.func59.trans (congrArg some (by kernel_rfl))
  f169 := Tryd.func61.trans (congrArg some (by kernel_rfl))
  f170 := Tryd.func60.trans (congrArg some (by kernel_rfl))
  f206 := Tryd.func75.trans (congrArg some (by kernel_rfl))
  f212 := Tryd.func56.trans (congrArg some (by kernel_rfl))
  f240 := Tryd.func76.trans (congrArg some (by kernel_rfl))
  f241 := Tryd.func77.trans (congrArg some (by kernel_rfl))
  f263 := Tryd.func73.trans (congrArg some (by kernel_rfl))
  f264 := Tryd.func74.trans (congrArg some (by kernel_rfl))
  f276 := Tryd.func91.trans (congrArg some (by kernel_rfl))
  f277 := Tryd.func92.trans (congrArg some (by kernel_rfl))
  t0 := Tryd.underlying0
  a0 := Tryd.isAgg0
  z0 := Tryd.sizeOf0
  v0 := Tryd.zeroValue0
  t3 := Tryd.underlying3
  a3 := Tryd.isAgg3
  z3 := Tryd.sizeOf3
  v3 := Tryd.zeroValue3
  t4 := Tryd.underlying4
  a4 := Tryd.isAgg4
  z4 := Tryd.sizeOf4
  v4 := Tryd.zeroValue4
  t5 := Tryd.underlying5
  a5 := Tryd.isAgg5
  z5 := Tryd.sizeOf5
  v5 := Tryd.zeroValue5
  t9 := Tryd.underlying9
  a9 := Tryd.isAgg9
  z9 := Tryd.sizeOf9
  v9 := Tryd.zeroValue9
  t20 := Tryd.underlying20
  a20 := Tryd.isAgg20
  z20 := Tryd.sizeOf20
  v20 := Tryd.zeroValue20
  t37 := Tryd.underlying37
  a37 := Tryd.isAgg37
  z37 := Tryd.sizeOf37
  v37 := Tryd.zeroValue37
  t46 := Tryd.underlying36
  a46 := Tryd.isAgg36
  z46 := Tryd.sizeOf36
  v46 := Tryd.zeroValue36
  t51 := Tryd.underlying34
  a51 := Tryd.isAgg34
  z51 := Tryd.sizeOf34
  v51 := Tryd.zeroValue34
  t53 := Tryd.underlying46
  a53 := Tryd.isAgg46
  z53 := Tryd.sizeOf46
  v53 := Tryd.zeroValue46
  t70 := Tryd.underlying51
  a70 := Tryd.isAgg51
  z70 := Tryd.sizeOf51
  v70 := Tryd.zeroValue51
  t72 := Tryd.underlying53
  a72 := Tryd.isAgg53
  z72 := Tryd.sizeOf53
  v72 := Tryd.zeroValue53
  t75 := Tryd.underlying56
  a75 := Tryd.isAgg56
  z75 := Tryd.sizeOf56
  v75 := Tryd.zeroValue56
  t76 := Tryd.underlying57
  a76 := Tryd.isAgg57
  z76 := Tryd.sizeOf57
  v76 := Tryd.zeroValue57
  t109 := Tryd.underlying48
  a109 := Tryd.isAgg48
  z109 := Tryd.sizeOf48
  v109 := Tryd.zeroValue48
  t127 := Tryd.underlying76
  a127 := Tryd.isAgg76
  z127 := Tryd.sizeOf76
  v127 := Tryd.zeroValue76
  t146 := Tryd.underlying72
  a146 := Tryd.isAgg72
  z146 := Tryd.sizeOf72
  v146 := Tryd.zeroValue72
  t148 := Tryd.underlying74
  a148 := Tryd.isAgg74
  z148 := Tryd.sizeOf74
  v148 := Tryd.zeroValue74
  t164 := Tryd.underlying97
  a164 := Tryd.isAgg97
  z164 := Tryd.sizeOf97
  v164 := Tryd.zeroValue97 }
theorem Tryd.Builder_Extra_105 : Builder.Extra Tryd.prog Tryd.lays105_ren := {
  sizeBuilder := by kernel_rfl
  liesBuilder := by kernel_rfl
  t5 := Tryd.underlying5
  a5 := Tryd.isAgg5
  z5 := Tryd.sizeOf5
  v5 := Tryd.zeroValue5
  infoByte := by kernel_rfl
  cellsByte := by kernel_rfl
  sizeByte := by kernel_rfl
  neB5 := by decide }
open Go.RowKit Go.Lib in
theorem Tryd.strings_Repeat_main (s : ByteArray) (c : Nat) (w : World) (hc2 : 2 ≤ c) (hc : c ≤ 9223372036854775807) (hlen : s.size * c ≤ 140737488355328) (h0 : 0 < s.size) :
    Calls Tryd.prog 47 #[.string s, .int .i64 c] w fun e w' => e = .returned (.string ⟨(Lib.repeatL s.data.toList c).toArray⟩) ∧ Below w.heap.size w w' := Any.strings_Repeat_main Tryd.lays105 Tryd.Builder_Extra_105 s c w hc2 hc hlen h0
open Go.RowKit Go.Lib in
theorem Tryd.strings_Repeat_zero (s : ByteArray) (w : World) :
    Calls Tryd.prog 47 #[.string s, .int .i64 0] w fun e w' => e = .returned (.string ⟨#[]⟩) ∧ w' = w := Any.strings_Repeat_zero Tryd.lays105 s w
open Go.RowKit Go.Lib in
theorem Tryd.strings_Repeat_one (s : ByteArray) (w : World) :
    Calls Tryd.prog 47 #[.string s, .int .i64 1] w fun e w' => e = .returned (.string s) ∧ w' = w := Any.strings_Repeat_one Tryd.lays105 s w
open Go.RowKit Go.Lib in
theorem Tryd.strings_Repeat_empty (s : ByteArray) (c : Nat) (w : World) (hc2 : 2 ≤ c) (hc : c ≤ 9223372036854775807) (h0 : s.size = 0) :
    Calls Tryd.prog 47 #[.string s, .int .i64 c] w fun e w' => e = .returned (.string ⟨#[]⟩) ∧ w' = w := Any.strings_Repeat_empty Tryd.lays105 s c w hc2 hc h0
open Go.RowKit Go.Lib in
theorem Tryd.strings_Repeat_negative (s : ByteArray) (c : Int) (w : World) (hc : c < 0) :
    Calls Tryd.prog 47 #[.string s, .int .i64 c] w fun e w' => e = .panicked [{ v := repeatPanic Tryd.lays105_ren "strings: negative Repeat count", recovered := false }] ∧ w' = w := Any.strings_Repeat_negative Tryd.lays105 s c w hc
open Go.RowKit Go.Lib in
theorem Tryd.strings_Repeat_overflow (s : ByteArray) (c : Nat) (w : World) (hc : c ≤ 9223372036854775807) (hs : s.size ≤ 9223372036854775807) (hbig : 9223372036854775807 < s.size * c) :
    Calls Tryd.prog 47 #[.string s, .int .i64 c] w fun e w' => e = .panicked [{ v := repeatPanic Tryd.lays105_ren "strings: Repeat output length overflow", recovered := false }] ∧ w' = w := Any.strings_Repeat_overflow Tryd.lays105 s c w hc hs hbig
open Go.RowKit Go.Lib in
theorem Tryd.strings_Repeat (s : ByteArray) (c : Nat) (w : World) (hc : c ≤ 9223372036854775807) (hlen : s.size * c ≤ 140737488355328) :
    Calls Tryd.prog 47 #[.string s, .int .i64 c] w fun e w' => e = .returned (.string ⟨(Lib.repeatL s.data.toList c).toArray⟩) ∧ Below w.heap.size w w' := Any.strings_Repeat Tryd.lays105 Tryd.Builder_Extra_105 s c w hc hlen
def Tryd.lays260_ren : Go.Shelf.Ren := ⟨fun | 260 => 78 | n => n, fun | 9 => 9 | 21 => 21 | 3 => 3 | 4 => 4 | 5 => 5 | 119 => 47 | 0 => 0 | 46 => 36 | 139 => 102 | 138 => 101 | n => n, fun | 3 => 2 | 4 => 3 | n => n⟩
theorem Tryd.lays260 : Go.Proofs.Lays.n260 Tryd.prog Tryd.lays260_ren := {
  mixed := by kernel_rfl
  f260 := Tryd.func78.trans (congrArg some (by kernel_rfl))
  t0 := Tryd.underlying0
  a0 := Tryd.isAgg0
  z0 := Tryd.sizeOf0
  v0 := Tryd.zeroValue0
  t3 := Tryd.underlying3
  a3 := Tryd.isAgg3
  z3 := Tryd.sizeOf3
  v3 := Tryd.zeroValue3
  t4 := Tryd.underlying4
  a4 := Tryd.isAgg4
  z4 := Tryd.sizeOf4
  v4 := Tryd.zeroValue4
  t5 := Tryd.underlying5
  a5 := Tryd.isAgg5
  z5 := Tryd.sizeOf5
  v5 := Tryd.zeroValue5
  t9 := Tryd.underlying9
  a9 := Tryd.isAgg9
  z9 := Tryd.sizeOf9
  v9 := Tryd.zeroValue9
  t21 := Tryd.underlying21
  a21 := Tryd.isAgg21
  z21 := Tryd.sizeOf21
  v21 := Tryd.zeroValue21
  t46 := Tryd.underlying36
  a46 := Tryd.isAgg36
  z46 := Tryd.sizeOf36
  v46 := Tryd.zeroValue36
  t119 := Tryd.underlying47
  a119 := Tryd.isAgg47
  z119 := Tryd.sizeOf47
  t138 := Tryd.underlying101
  a138 := Tryd.isAgg101
  z138 := Tryd.sizeOf101
  v138 := Tryd.zeroValue101
  t139 := Tryd.underlying102
  a139 := Tryd.isAgg102
  z139 := Tryd.sizeOf102
  v139 := Tryd.zeroValue102
  g3 := by kernel_rfl
  g4 := by kernel_rfl }
open Go.RowKit Go.Lib in
theorem Tryd.utf8_decodeRuneInStringSlow (s : ByteArray) (w : World) (hT : Lib.Utf8Tabs 2 3 w) :
    Calls Tryd.prog 78 #[.string s] w fun e w' => e = .returned (.tuple #[.int .i32 (Lib.decodeGo s).1, .int .i64 (Lib.decodeGo s).2]) ∧ Below w.heap.size w w' := Any.utf8_decodeRuneInStringSlow Tryd.lays260 s w hT
open Go.RowKit Go.Lib in
theorem Tryd.utf8_DecodeRuneInString (s : ByteArray) (w : World) (hT : Lib.Utf8Tabs 2 3 w) :
    Calls Tryd.prog 62 #[.string s] w fun e w' => e = .returned (.tuple #[.int .i32 (Lib.decodeGo s).1, .int .i64 (Lib.decodeGo s).2]) ∧ Below w.heap.size w w' := Any.utf8_DecodeRuneInString Tryd.lays197 s w hT
def Tryd.lays311_ren : Go.Shelf.Ren := ⟨fun | 311 => 88 | n => n, fun | 193 => 86 | 49 => 90 | 4 => 4 | 3 => 3 | 0 => 0 | 226 => 113 | 198 => 92 | 46 => 36 | n => n, fun | n => n⟩
theorem Tryd.lays311 : Go.Proofs.Lays.n311 Tryd.prog Tryd.lays311_ren := {
  mixed := by kernel_rfl
  f311 := Tryd.func88.trans (congrArg some (by kernel_rfl))
  t0 := Tryd.underlying0
  a0 := Tryd.isAgg0
  z0 := Tryd.sizeOf0
  v0 := Tryd.zeroValue0
  t3 := Tryd.underlying3
  a3 := Tryd.isAgg3
  z3 := Tryd.sizeOf3
  v3 := Tryd.zeroValue3
  t4 := Tryd.underlying4
  a4 := Tryd.isAgg4
  z4 := Tryd.sizeOf4
  v4 := Tryd.zeroValue4
  t46 := Tryd.underlying36
  a46 := Tryd.isAgg36
  z46 := Tryd.sizeOf36
  v46 := Tryd.zeroValue36
  t49 := Tryd.underlying90
  a49 := Tryd.isAgg90
  z49 := Tryd.sizeOf90
  v49 := Tryd.zeroValue90
  t193 := Tryd.underlying86
  a193 := Tryd.isAgg86
  z193 := Tryd.sizeOf86
  v193 := Tryd.zeroValue86
  t198 := Tryd.underlying92
  a198 := Tryd.isAgg92
  z198 := Tryd.sizeOf92
  v198 := Tryd.zeroValue92
  t226 := Tryd.underlying113
  a226 := Tryd.isAgg113
  z226 := Tryd.sizeOf113
  v226 := Tryd.zeroValue113 }
open Go.RowKit Go.Lib in
theorem Tryd.unicode_is16_white (R oR : Nat) (z : Nat) (w : World) (hz : z < 65536) (hz0 : 255 < z) (c6 : w.cell? ⟨R, oR + 6, none⟩ = some (.int .u16 160)) (c7 : w.cell? ⟨R, oR + 7, none⟩ = some (.int .u16 5760)) (c8 : w.cell? ⟨R, oR + 8, none⟩ = some (.int .u16 5600)) (c9 : w.cell? ⟨R, oR + 9, none⟩ = some (.int .u16 8192)) (c10 : w.cell? ⟨R, oR + 10, none⟩ = some (.int .u16 8202)) (c11 : w.cell? ⟨R, oR + 11, none⟩ = some (.int .u16 1)) (c12 : w.cell? ⟨R, oR + 12, none⟩ = some (.int .u16 8232)) (c13 : w.cell? ⟨R, oR + 13, none⟩ = some (.int .u16 8233)) (c14 : w.cell? ⟨R, oR + 14, none⟩ = some (.int .u16 1)) (c15 : w.cell? ⟨R, oR + 15, none⟩ = some (.int .u16 8239)) (c16 : w.cell? ⟨R, oR + 16, none⟩ = some (.int .u16 8287)) (c17 : w.cell? ⟨R, oR + 17, none⟩ = some (.int .u16 48)) (c18 : w.cell? ⟨R, oR + 18, none⟩ = some (.int .u16 12288)) (c19 : w.cell? ⟨R, oR + 19, none⟩ = some (.int .u16 12288)) (c20 : w.cell? ⟨R, oR + 20, none⟩ = some (.int .u16 1)) :
    Calls Tryd.prog 88 #[.slice (some ⟨R, oR + 6, none⟩) 5 5, .int .u16 z] w fun e w' => e = .returned (.bool (Lib.isSpaceR z)) ∧ Below w.heap.size w w' := Any.unicode_is16_white Tryd.lays311 R oR z w hz hz0 c6 c7 c8 c9 c10 c11 c12 c13 c14 c15 c16 c17 c18 c19 c20
def Tryd.lays261_ren : Go.Shelf.Ren := ⟨fun | 261 => 71 | 311 => 88 | 312 => 89 | n => n, fun | 141 => 70 | 21 => 21 | 4 => 4 | 0 => 0 | 196 => 89 | 193 => 86 | 3 => 3 | 51 => 34 | 198 => 92 | 49 => 90 | 194 => 87 | 201 => 95 | 226 => 113 | 46 => 36 | 227 => 114 | n => n, fun | n => n⟩
theorem Tryd.lays261 : Go.Proofs.Lays.n261 Tryd.prog Tryd.lays261_ren := {
  mixed := by kernel_rfl
  f261 := Tryd.func71.trans (congrArg some (by kernel_rfl))
  f311 := Tryd.func88.trans (congrArg some (by kernel_rfl))
  f312 := Tryd.func89.trans (congrArg some (by kernel_rfl))
  t0 := Tryd.underlying0
  a0 := Tryd.isAgg0
  z0 := Tryd.sizeOf0
  v0 := Tryd.zeroValue0
  t3 := Tryd.underlying3
  a3 := Tryd.isAgg3
  z3 := Tryd.sizeOf3
  v3 := Tryd.zeroValue3
  t4 := Tryd.underlying4
  a4 := Tryd.isAgg4
  z4 := Tryd.sizeOf4
  v4 := Tryd.zeroValue4
  t21 := Tryd.underlying21
  a21 := Tryd.isAgg21
  z21 := Tryd.sizeOf21
  v21 := Tryd.zeroValue21
  t46 := Tryd.underlying36
  a46 := Tryd.isAgg36
  z46 := Tryd.sizeOf36
  v46 := Tryd.zeroValue36
  t49 := Tryd.underlying90
  a49 := Tryd.isAgg90
  z49 := Tryd.sizeOf90
  v49 := Tryd.zeroValue90
  t51 := Tryd.underlying34
  a51 := Tryd.isAgg34
  z51 := Tryd.sizeOf34
  v51 := Tryd.zeroValue34
  t141 := Tryd.underlying70
  a141 := Tryd.isAgg70
  z141 := Tryd.sizeOf70
  v141 := Tryd.zeroValue70
  t193 := Tryd.underlying86
  a193 := Tryd.isAgg86
  z193 := Tryd.sizeOf86
  v193 := Tryd.zeroValue86
  t194 := Tryd.underlying87
  a194 := Tryd.isAgg87
  z194 := Tryd.sizeOf87
  v194 := Tryd.zeroValue87
  t196 := Tryd.underlying89
  a196 := Tryd.isAgg89
  z196 := Tryd.sizeOf89
  v196 := Tryd.zeroValue89
  t198 := Tryd.underlying92
  a198 := Tryd.isAgg92
  z198 := Tryd.sizeOf92
  v198 := Tryd.zeroValue92
  t201 := Tryd.underlying95
  a201 := Tryd.isAgg95
  z201 := Tryd.sizeOf95
  v201 := Tryd.zeroValue95
  t226 := Tryd.underlying113
  a226 := Tryd.isAgg113
  z226 := Tryd.sizeOf113
  v226 := Tryd.zeroValue113
  t227 := Tryd.underlying114
  a227 := Tryd.isAgg114
  z227 := Tryd.sizeOf114
  v227 := Tryd.zeroValue114 }
open Go.RowKit Go.Lib in
theorem Tryd.unicode_isExcludingLatin_white (T oT R oR : Nat) (r : Int) (w : World) (hlo : -2147483648 ≤ r) (hhi : r ≤ 2147483647) (hr : r < 0 ∨ 255 < r) (h2 : w.cell? ⟨T, oT, none⟩ = some (.slice (some ⟨R, oR, none⟩) 7 7)) (h3 : w.cell? ⟨T, oT + 1, none⟩ = some (.slice none 0 0)) (h4 : w.cell? ⟨T, oT + 2, none⟩ = some (.int .i64 2)) (h5 : ∀ i, i < 21 → w.cell? ⟨R, oR + i, none⟩ = some (.int .u16 (whiteT.getD i 0))) :
    Calls Tryd.prog 71 #[.pointer (some ⟨T, oT, none⟩), .int .i32 r] w fun e w' => e = .returned (.bool (Lib.isSpaceZ r)) ∧ Below w.heap.size w w' := Any.unicode_isExcludingLatin_white Tryd.lays261 T oT R oR r w hlo hhi hr h2 h3 h4 h5
open Go.RowKit Go.Lib in
theorem Tryd.unicode_IsSpace_any (r : Int) (w : World) (hlo : -2147483648 ≤ r) (hhi : r ≤ 2147483647) (hW : Lib.WhiteTab 1 w) :
    Calls Tryd.prog 54 #[.int .i32 r] w fun e w' => e = .returned (.bool (Lib.isSpaceZ r)) ∧ Below w.heap.size w w' := Any.unicode_IsSpace_any Tryd.lays199 r w hlo hhi hW
def Tryd.lays271_ren : Go.Shelf.Ren := ⟨fun | 271 => 90 | 120 => 100 | 197 => 62 | 260 => 78 | n => n, fun | 9 => 9 | 21 => 21 | 3 => 3 | 4 => 4 | 5 => 5 | 105 => 61 | 119 => 47 | 0 => 0 | 46 => 36 | 139 => 102 | 138 => 101 | n => n, fun | 3 => 2 | 4 => 3 | n => n⟩
theorem Tryd.lays271 : Go.Proofs.Lays.n271 Tryd.prog Tryd.lays271_ren := {
  mixed := by kernel_rfl
  f120 := Tryd.func100.trans (congrArg some (by kernel_rfl))
  f197 := Tryd.func62.trans (congrArg some (by kernel_rfl))
  f260 := Tryd.func78.trans (congrArg some (by kernel_rfl))
  f271 := Tryd.func90.trans (congrArg some (by kernel_rfl))
  t0 := Tryd.underlying0
  a0 := Tryd.isAgg0
  z0 := Tryd.sizeOf0
  v0 := Tryd.zeroValue0
  t3 := Tryd.underlying3
  a3 := Tryd.isAgg3
  z3 := Tryd.sizeOf3
  v3 := Tryd.zeroValue3
  t4 := Tryd.underlying4
  a4 := Tryd.isAgg4
  z4 := Tryd.sizeOf4
  v4 := Tryd.zeroValue4
  t5 := Tryd.underlying5
  a5 := Tryd.isAgg5
  z5 := Tryd.sizeOf5
  v5 := Tryd.zeroValue5
  t9 := Tryd.underlying9
  a9 := Tryd.isAgg9
  z9 := Tryd.sizeOf9
  v9 := Tryd.zeroValue9
  t21 := Tryd.underlying21
  a21 := Tryd.isAgg21
  z21 := Tryd.sizeOf21
  v21 := Tryd.zeroValue21
  t46 := Tryd.underlying36
  a46 := Tryd.isAgg36
  z46 := Tryd.sizeOf36
  v46 := Tryd.zeroValue36
  t105 := Tryd.underlying61
  a105 := Tryd.isAgg61
  z105 := Tryd.sizeOf61
  v105 := Tryd.zeroValue61
  t119 := Tryd.underlying47
  a119 := Tryd.isAgg47
  z119 := Tryd.sizeOf47
  t138 := Tryd.underlying101
  a138 := Tryd.isAgg101
  z138 := Tryd.sizeOf101
  v138 := Tryd.zeroValue101
  t139 := Tryd.underlying102
  a139 := Tryd.isAgg102
  z139 := Tryd.sizeOf102
  v139 := Tryd.zeroValue102
  g3 := by kernel_rfl
  g4 := by kernel_rfl }
open Go.RowKit Go.Lib in
theorem Tryd.utf8_DecodeLastRuneInString (s : ByteArray) (w : World) (hs : s.size ≤ 9223372036854775807) (hT : Lib.Utf8Tabs 2 3 w) :
    Calls Tryd.prog 90 #[.string s] w fun e w' => e = .returned (.tuple #[.int .i32 (Lib.decodeLastL s.data.toList).1, .int .i64 (Lib.decodeLastL s.data.toList).2]) ∧ Below w.heap.size w w' := Any.utf8_DecodeLastRuneInString Tryd.lays271 s w hs hT
def Tryd.lays274_ren : Go.Shelf.Ren := ⟨fun | 274 => 104 | n => n, fun | 21 => 21 | 162 => 112 | 160 => 117 | 3 => 3 | 4 => 4 | 46 => 36 | 0 => 0 | 208 => 125 | 51 => 34 | 206 => 123 | n => n, fun | n => n⟩
theorem Tryd.lays274 : Go.Proofs.Lays.n274 Tryd.prog Tryd.lays274_ren := {
  mixed := by kernel_rfl
  f274 := Tryd.func104.trans (congrArg some (by kernel_rfl))
  t0 := Tryd.underlying0
  a0 := Tryd.isAgg0
  z0 := Tryd.sizeOf0
  v0 := Tryd.zeroValue0
  t3 := Tryd.underlying3
  a3 := Tryd.isAgg3
  z3 := Tryd.sizeOf3
  v3 := Tryd.zeroValue3
  t4 := Tryd.underlying4
  a4 := Tryd.isAgg4
  z4 := Tryd.sizeOf4
  v4 := Tryd.zeroValue4
  t21 := Tryd.underlying21
  a21 := Tryd.isAgg21
  z21 := Tryd.sizeOf21
  v21 := Tryd.zeroValue21
  t46 := Tryd.underlying36
  a46 := Tryd.isAgg36
  z46 := Tryd.sizeOf36
  v46 := Tryd.zeroValue36
  t51 := Tryd.underlying34
  a51 := Tryd.isAgg34
  z51 := Tryd.sizeOf34
  v51 := Tryd.zeroValue34
  t160 := Tryd.underlying117
  a160 := Tryd.isAgg117
  z160 := Tryd.sizeOf117
  v160 := Tryd.zeroValue117
  t162 := Tryd.underlying112
  a162 := Tryd.isAgg112
  z162 := Tryd.sizeOf112
  v162 := Tryd.zeroValue112
  t208 := Tryd.underlying125
  a208 := Tryd.isAgg125
  z208 := Tryd.sizeOf125
  v208 := Tryd.zeroValue125 }
open Go.RowKit Go.Lib in
theorem Tryd.unicode_lookupCaseRange (T : Array CaseRow) (R oR cap : Nat) (r : Int) (w : World) (hT : CaseTab R oR T w) (hok : CaseOk T) (hn : T.size ≤ 1000000000) :
    Calls Tryd.prog 104 #[.int .i32 r, .slice (some ⟨R, oR, none⟩) T.size cap] w fun e w' =>
      e = .returned (match lookupIdx T r (T.size + 1) 0 T.size with | some i => .pointer (some ⟨R, oR + i * 5, none⟩) | none => .pointer none) ∧ w' = w := Any.unicode_lookupCaseRange Tryd.lays274 T R oR cap r w hT hok hn
def Tryd.lays275_ren : Go.Shelf.Ren := ⟨fun | 275 => 105 | n => n, fun | 3 => 3 | 21 => 21 | 160 => 117 | 0 => 0 | 208 => 125 | 206 => 123 | 4 => 4 | 51 => 34 | n => n, fun | n => n⟩
theorem Tryd.lays275 : Go.Proofs.Lays.n275 Tryd.prog Tryd.lays275_ren := {
  mixed := by kernel_rfl
  f275 := Tryd.func105.trans (congrArg some (by kernel_rfl))
  t0 := Tryd.underlying0
  a0 := Tryd.isAgg0
  z0 := Tryd.sizeOf0
  v0 := Tryd.zeroValue0
  t3 := Tryd.underlying3
  a3 := Tryd.isAgg3
  z3 := Tryd.sizeOf3
  v3 := Tryd.zeroValue3
  t4 := Tryd.underlying4
  a4 := Tryd.isAgg4
  z4 := Tryd.sizeOf4
  v4 := Tryd.zeroValue4
  t21 := Tryd.underlying21
  a21 := Tryd.isAgg21
  z21 := Tryd.sizeOf21
  v21 := Tryd.zeroValue21
  t51 := Tryd.underlying34
  a51 := Tryd.isAgg34
  z51 := Tryd.sizeOf34
  v51 := Tryd.zeroValue34
  t160 := Tryd.underlying117
  a160 := Tryd.isAgg117
  z160 := Tryd.sizeOf117
  v160 := Tryd.zeroValue117
  t206 := Tryd.underlying123
  a206 := Tryd.isAgg123
  z206 := Tryd.sizeOf123
  v206 := Tryd.zeroValue123
  t208 := Tryd.underlying125
  a208 := Tryd.isAgg125
  z208 := Tryd.sizeOf125
  v208 := Tryd.zeroValue125 }
open Go.RowKit Go.Lib in
theorem Tryd.unicode_convertCase (c : Nat) (hc : c < 3) (r : Int) (A o : Nat) (x : CaseRow) (w : World) (hlo : (x.1 : Int) ≤ r) (hhi : r ≤ (x.2.1 : Int)) (hH : x.2.1 < 2147483647) (c0 : w.cell? ⟨A, o, none⟩ = some (.int .u32 x.1)) (cD : w.cell? ⟨A, o + 2 + c, none⟩ = some (.int .i32 (x.delta c))) :
    Calls Tryd.prog 105 #[.int .i64 c, .int .i32 r, .pointer (some ⟨A, o, none⟩)] w fun e w' => e = .returned (.int .i32 (wrap32 (convertR c r x))) ∧ ∃ q, w' = w.drewN q := Any.unicode_convertCase Tryd.lays275 c hc r A o x w hlo hhi hH c0 cD
def Tryd.lays313_ren : Go.Shelf.Ren := ⟨fun | 313 => 99 | 274 => 104 | 275 => 105 | n => n, fun | 3 => 3 | 21 => 21 | 162 => 112 | 4 => 4 | 160 => 117 | 46 => 36 | 0 => 0 | 208 => 125 | 51 => 34 | 206 => 123 | n => n, fun | n => n⟩
theorem Tryd.lays313 : Go.Proofs.Lays.n313 Tryd.prog Tryd.lays313_ren := {
  mixed := by kernel_rfl
  f274 := Tryd.func104.trans (congrArg some (by kernel_rfl))
  f275 := Tryd.func105.trans (congrArg some (by kernel_rfl))
  f313 := Tryd.func99.trans (congrArg some (by kernel_rfl))
  t0 := Tryd.underlying0
  a0 := Tryd.isAgg0
  z0 := Tryd.sizeOf0
  v0 := Tryd.zeroValue0
  t3 := Tryd.underlying3
  a3 := Tryd.isAgg3
  z3 := Tryd.sizeOf3
  v3 := Tryd.zeroValue3
  t4 := Tryd.underlying4
  a4 := Tryd.isAgg4
  z4 := Tryd.sizeOf4
  v4 := Tryd.zeroValue4
  t21 := Tryd.underlying21
  a21 := Tryd.isAgg21
  z21 := Tryd.sizeOf21
  v21 := Tryd.zeroValue21
  t46 := Tryd.underlying36
  a46 := Tryd.isAgg36
  z46 := Tryd.sizeOf36
  v46 := Tryd.zeroValue36
  t51 := Tryd.underlying34
  a51 := Tryd.isAgg34
  z51 := Tryd.sizeOf34
  v51 := Tryd.zeroValue34
  t160 := Tryd.underlying117
  a160 := Tryd.isAgg117
  z160 := Tryd.sizeOf117
  v160 := Tryd.zeroValue117
  t162 := Tryd.underlying112
  a162 := Tryd.isAgg112
  z162 := Tryd.sizeOf112
  v162 := Tryd.zeroValue112
  t206 := Tryd.underlying123
  a206 := Tryd.isAgg123
  z206 := Tryd.sizeOf123
  v206 := Tryd.zeroValue123
  t208 := Tryd.underlying125
  a208 := Tryd.isAgg125
  z208 := Tryd.sizeOf125
  v208 := Tryd.zeroValue125 }
open Go.RowKit Go.Lib in
theorem Tryd.unicode_to (c : Nat) (hc : c < 3) (r : Int) (T : Array CaseRow) (R oR cap : Nat) (w : World) (hT : CaseTab R oR T w) (hok : CaseOk2 T) (hn : T.size ≤ 1000000000) :
    Calls Tryd.prog 99 #[.int .i64 c, .int .i32 r, .slice (some ⟨R, oR, none⟩) T.size cap] w fun e w' => e = .returned (.tuple #[.int .i32 (toW T c r), .bool (lookupIdx T r (T.size + 1) 0 T.size).isSome]) ∧ ∃ q, w' = w.drewN q := Any.unicode_to Tryd.lays313 c hc r T R oR cap w hT hok hn
def Tryd.lays262_ren : Go.Shelf.Ren := ⟨fun | 262 => 86 | 313 => 99 | 274 => 104 | 275 => 105 | n => n, fun | 3 => 3 | 21 => 21 | 162 => 112 | 203 => 110 | 4 => 4 | 160 => 117 | 46 => 36 | 0 => 0 | 208 => 125 | 51 => 34 | 206 => 123 | n => n, fun | 13 => 5 | n => n⟩
theorem Tryd.lays262 : Go.Proofs.Lays.n262 Tryd.prog Tryd.lays262_ren := {
  mixed := by kernel_rfl
  f262 := Tryd.func86.trans (congrArg some (by kernel_rfl))
  f274 := Tryd.func104.trans (congrArg some (by kernel_rfl))
  f275 := Tryd.func105.trans (congrArg some (by kernel_rfl))
  f313 := Tryd.func99.trans (congrArg some (by kernel_rfl))
  t0 := Tryd.underlying0
  a0 := Tryd.isAgg0
  z0 := Tryd.sizeOf0
  v0 := Tryd.zeroValue0
  t3 := Tryd.underlying3
  a3 := Tryd.isAgg3
  z3 := Tryd.sizeOf3
  v3 := Tryd.zeroValue3
  t4 := Tryd.underlying4
  a4 := Tryd.isAgg4
  z4 := Tryd.sizeOf4
  v4 := Tryd.zeroValue4
  t21 := Tryd.underlying21
  a21 := Tryd.isAgg21
  z21 := Tryd.sizeOf21
  v21 := Tryd.zeroValue21
  t46 := Tryd.underlying36
  a46 := Tryd.isAgg36
  z46 := Tryd.sizeOf36
  v46 := Tryd.zeroValue36
  t51 := Tryd.underlying34
  a51 := Tryd.isAgg34
  z51 := Tryd.sizeOf34
  v51 := Tryd.zeroValue34
  t160 := Tryd.underlying117
  a160 := Tryd.isAgg117
  z160 := Tryd.sizeOf117
  v160 := Tryd.zeroValue117
  t162 := Tryd.underlying112
  a162 := Tryd.isAgg112
  z162 := Tryd.sizeOf112
  v162 := Tryd.zeroValue112
  t203 := Tryd.underlying110
  a203 := Tryd.isAgg110
  z203 := Tryd.sizeOf110
  v203 := Tryd.zeroValue110
  t206 := Tryd.underlying123
  a206 := Tryd.isAgg123
  z206 := Tryd.sizeOf123
  v206 := Tryd.zeroValue123
  t208 := Tryd.underlying125
  a208 := Tryd.isAgg125
  z208 := Tryd.sizeOf125
  v208 := Tryd.zeroValue125
  g13 := by kernel_rfl }
open Go.RowKit Go.Lib in
theorem Tryd.unicode_To (c : Nat) (hc : c < 3) (r : Int) (T : Array CaseRow) (w : World) (hV : CaseVar 5 T w) (hok : CaseOk2 T) (hn : T.size ≤ 1000000000) :
    Calls Tryd.prog 86 #[.int .i64 c, .int .i32 r] w fun e w' => e = .returned (.int .i32 (toW T c r)) ∧ ∃ q, w' = w.drewN q := Any.unicode_To Tryd.lays262 c hc r T w hV hok hn
open Go.RowKit Go.Lib in
theorem Tryd.unicode_ToLower_any (r : Int) (T : Array CaseRow) (w : World) (hV : CaseVar 5 T w) (hok : CaseOk2 T) (hn : T.size ≤ 1000000000) :
    Calls Tryd.prog 69 #[.int .i32 r] w fun e w' => e = .returned (.int .i32 (Lib.toLowerW T r)) ∧ ∃ q, w' = w.drewN q := Any.unicode_ToLower_any Tryd.lays204 r T w hV hok hn
open Go.RowKit Go.Lib in
theorem Tryd.unicode_ToUpper_any (r : Int) (T : Array CaseRow) (w : World) (hV : CaseVar 5 T w) (hok : CaseOk2 T) (hn : T.size ≤ 1000000000) :
    Calls Tryd.prog 68 #[.int .i32 r] w fun e w' => e = .returned (.int .i32 (Lib.toUpperW T r)) ∧ ∃ q, w' = w.drewN q := Any.unicode_ToUpper_any Tryd.lays203 r T w hV hok hn
open Go.RowKit Go.Lib in
theorem Tryd.unicode_ToLower_laid (r : Int) (w : World) (hV : CaseVar 5 caseA w) :
    Calls Tryd.prog 69 #[.int .i32 r] w fun e w' => e = .returned (.int .i32 (toLowerU r)) ∧ ∃ q, w' = w.drewN q := Any.unicode_ToLower_laid Tryd.lays204 r w hV
open Go.RowKit Go.Lib in
theorem Tryd.unicode_ToUpper_laid (r : Int) (w : World) (hV : CaseVar 5 caseA w) :
    Calls Tryd.prog 68 #[.int .i32 r] w fun e w' => e = .returned (.int .i32 (toUpperU r)) ∧ ∃ q, w' = w.drewN q := Any.unicode_ToUpper_laid Tryd.lays203 r w hV
def Tryd.lays270_ren : Go.Shelf.Ren := ⟨fun | 270 => 85 | n => n, fun | 70 => 51 | 3 => 3 | 0 => 0 | 72 => 53 | 37 => 37 | 5 => 5 | n => n, fun | n => n⟩
theorem Tryd.lays270 : Go.Proofs.Lays.n270 Tryd.prog Tryd.lays270_ren := {
  mixed := by kernel_rfl
  f270 := Tryd.func85.trans (congrArg some (by kernel_rfl))
  t0 := Tryd.underlying0
  a0 := Tryd.isAgg0
  z0 := Tryd.sizeOf0
  v0 := Tryd.zeroValue0
  t3 := Tryd.underlying3
  a3 := Tryd.isAgg3
  z3 := Tryd.sizeOf3
  v3 := Tryd.zeroValue3
  t37 := Tryd.underlying37
  a37 := Tryd.isAgg37
  z37 := Tryd.sizeOf37
  v37 := Tryd.zeroValue37
  t70 := Tryd.underlying51
  a70 := Tryd.isAgg51
  z70 := Tryd.sizeOf51
  v70 := Tryd.zeroValue51
  t72 := Tryd.underlying53
  a72 := Tryd.isAgg53
  z72 := Tryd.sizeOf53
  v72 := Tryd.zeroValue53 }
open Go.RowKit Go.Lib in
theorem Tryd.Builder_Cap_cell (b : Nat) (p : Option Addr) (n cap : Nat) (w : World) (c1 : w.cell? ⟨b, 1, none⟩ = some (.slice p n cap)) :
    Calls Tryd.prog 85 #[.pointer (some ⟨b, 0, none⟩)] w fun e w' => e = .returned (.int .i64 cap) ∧ w' = w := Any.Builder_Cap_cell Tryd.lays270 b p n cap w c1
def Tryd.lays230_ren : Go.Shelf.Ren := ⟨fun | 230 => 67 | 197 => 62 | 118 => 83 | 165 => 58 | 166 => 59 | 168 => 84 | 270 => 85 | 167 => 66 | 169 => 61 | 260 => 78 | 240 => 76 | 241 => 77 | 242 => 98 | 276 => 91 | 277 => 92 | 278 => 103 | n => n, fun | 107 => 68 | 9 => 9 | 72 => 53 | 0 => 0 | 4 => 4 | 3 => 3 | 21 => 21 | 105 => 61 | 76 => 57 | 5 => 5 | 75 => 56 | 70 => 51 | 20 => 20 | 37 => 37 | 127 => 76 | 119 => 47 | 46 => 36 | 139 => 102 | 138 => 101 | 164 => 97 | 51 => 34 | 80 => 60 | n => n, fun | 3 => 2 | 4 => 3 | n => n⟩
theorem Tryd.lays230 : Go.Proofs.Lays.n230 Tryd.prog Tryd.lays230_ren := {
  mixed := by kernel_rfl
  f118 := Tryd.func83.trans (congrArg some (by kernel_rfl))
  f165 := Tryd.func58.trans (congrArg some (by kernel_rfl))
  f166 := Tryd.func59.trans (congrArg some (by kernel_rfl))
  f167 := Tryd.func66.trans (congrArg some (by kernel_rfl))
  f168 := Tryd.func84.trans (congrArg some (by kernel_rfl))
  f169 := Tryd.func61.trans (congrArg some (by kernel_rfl))
  f197 := Tryd.func62.trans (congrArg some (by kernel_rfl))
  f230 := Tryd.func67.trans (congrArg some (by kernel_rfl))
  f240 := Tryd.func76.trans (congrArg some (by kernel_rfl))
  f241 := Tryd.func77.trans (congrArg some (by kernel_rfl))
  f242 := Tryd.func98.trans (congrArg some (by kernel_rfl))
  f260 := Tryd.func78.trans (congrArg some (by kernel_rfl))
  f270 := Tryd.func85.trans (congrArg some (by kernel_rfl))
  f276 := Tryd.func91.trans (congrArg some (by kernel_rfl))
  f277 := Tryd.func92.trans (congrArg some (by kernel_rfl))
  f278 := Tryd.func103.trans (congrArg some (by kernel_rfl))
  t0 := Tryd.underlying0
  a0 := Tryd.isAgg0
  z0 := Tryd.sizeOf0
  v0 := Tryd.zeroValue0
  t3 := Tryd.underlying3
  a3 := Tryd.isAgg3
  z3 := Tryd.sizeOf3
  v3 := Tryd.zeroValue3
  t4 := Tryd.underlying4
  a4 := Tryd.isAgg4
  z4 := Tryd.sizeOf4
  v4 := Tryd.zeroValue4
  t5 := Tryd.underlying5
  a5 := Tryd.isAgg5
  z5 := Tryd.sizeOf5
  v5 := Tryd.zeroValue5
  t9 := Tryd.underlying9
  a9 := Tryd.isAgg9
  z9 := Tryd.sizeOf9
  v9 := Tryd.zeroValue9
  t20 := Tryd.underlying20
  a20 := Tryd.isAgg20
  z20 := Tryd.sizeOf20
  v20 := Tryd.zeroValue20
  t21 := Tryd.underlying21
  a21 := Tryd.isAgg21
  z21 := Tryd.sizeOf21
  v21 := Tryd.zeroValue21
  t37 := Tryd.underlying37
  a37 := Tryd.isAgg37
  z37 := Tryd.sizeOf37
  v37 := Tryd.zeroValue37
  t46 := Tryd.underlying36
  a46 := Tryd.isAgg36
  z46 := Tryd.sizeOf36
  v46 := Tryd.zeroValue36
  t51 := Tryd.underlying34
  a51 := Tryd.isAgg34
  z51 := Tryd.sizeOf34
  v51 := Tryd.zeroValue34
  t70 := Tryd.underlying51
  a70 := Tryd.isAgg51
  z70 := Tryd.sizeOf51
  v70 := Tryd.zeroValue51
  t72 := Tryd.underlying53
  a72 := Tryd.isAgg53
  z72 := Tryd.sizeOf53
  v72 := Tryd.zeroValue53
  t75 := Tryd.underlying56
  a75 := Tryd.isAgg56
  z75 := Tryd.sizeOf56
  v75 := Tryd.zeroValue56
  t76 := Tryd.underlying57
  a76 := Tryd.isAgg57
  z76 := Tryd.sizeOf57
  v76 := Tryd.zeroValue57
  t105 := Tryd.underlying61
  a105 := Tryd.isAgg61
  z105 := Tryd.sizeOf61
  v105 := Tryd.zeroValue61
  t107 := Tryd.underlying68
  a107 := Tryd.isAgg68
  z107 := Tryd.sizeOf68
  v107 := Tryd.zeroValue68
  t119 := Tryd.underlying47
  a119 := Tryd.isAgg47
  z119 := Tryd.sizeOf47
  t127 := Tryd.underlying76
  a127 := Tryd.isAgg76
  z127 := Tryd.sizeOf76
  v127 := Tryd.zeroValue76
  t138 := Tryd.underlying101
  a138 := Tryd.isAgg101
  z138 := Tryd.sizeOf101
  v138 := Tryd.zeroValue101
  t139 := Tryd.underlying102
  a139 := Tryd.isAgg102
  z139 := Tryd.sizeOf102
  v139 := Tryd.zeroValue102
  t164 := Tryd.underlying97
  a164 := Tryd.isAgg97
  z164 := Tryd.sizeOf97
  v164 := Tryd.zeroValue97
  g3 := by kernel_rfl
  g4 := by kernel_rfl }
theorem Tryd.Builder_Extra_230 : Builder.Extra Tryd.prog Tryd.lays230_ren := {
  sizeBuilder := by kernel_rfl
  liesBuilder := by kernel_rfl
  t5 := Tryd.underlying5
  a5 := Tryd.isAgg5
  z5 := Tryd.sizeOf5
  v5 := Tryd.zeroValue5
  infoByte := by kernel_rfl
  cellsByte := by kernel_rfl
  sizeByte := by kernel_rfl
  neB5 := by decide }
open Go.RowKit Go.Lib in
theorem Tryd.strings_Map_runes (g : Nat) (lb : Array Value) (eg : ∀ args w, (callFunc g args).run Tryd.prog w = .ok (.enter g args) w) (f : Int → Int) (s : ByteArray) (w : World) (hs : s.size < 35184372088832) (hf : MapAtRunes Tryd.prog g lb f w) (hnn : ∀ x : Nat, x ≤ 1114111 → 0 ≤ f x ∧ f x ≤ 2147483647) (hT : Lib.Utf8Tabs 2 3 w) :
    Calls Tryd.prog 67 #[.func (.func g) #[] lb, .string s] w fun e w' => e = .returned (.string ⟨(Lib.mapD f s.data.toList).toArray⟩) ∧ Below w.heap.size w w' := Any.strings_Map_runes Tryd.lays230 Tryd.Builder_Extra_230 g lb eg f s w hs hf hnn hT
open Go.RowKit Go.Lib in
theorem Tryd.strings_ToLower_beyond (s : ByteArray) (w : World) (hs : s.size < 35184372088832) (hhigh : ∃ (j : Nat) (b : UInt8), s.data.toList[j]? = some b ∧ 128 ≤ b.toNat) (hV : CaseVar 5 caseA w) (hT : Lib.Utf8Tabs 2 3 w) :
    Calls Tryd.prog 52 #[.string s] w fun e w' => e = .returned (.string ⟨(Lib.toLowerD s.data.toList).toArray⟩) ∧ Below w.heap.size w w' := Any.strings_ToLower_beyond Tryd.lays159 Tryd.Builder_Extra_159 s w hs hhigh hV hT
open Go.RowKit Go.Lib in
theorem Tryd.strings_ToLower_any (s : ByteArray) (w : World) (hs : s.size < 35184372088832) (hV : CaseVar 5 caseA w) (hT : Lib.Utf8Tabs 2 3 w) :
    Calls Tryd.prog 52 #[.string s] w fun e w' => e = .returned (.string ⟨(Lib.toLowerD s.data.toList).toArray⟩) ∧ Below w.heap.size w w' := Any.strings_ToLower_any Tryd.lays159 Tryd.Builder_Extra_159 s w hs hV hT
open Go.RowKit Go.Lib in
theorem Tryd.strings_ToUpper_beyond (s : ByteArray) (w : World) (hs : s.size < 35184372088832) (hhigh : ∃ (j : Nat) (b : UInt8), s.data.toList[j]? = some b ∧ 128 ≤ b.toNat) (hV : CaseVar 5 caseA w) (hT : Lib.Utf8Tabs 2 3 w) :
    Calls Tryd.prog 51 #[.string s] w fun e w' => e = .returned (.string ⟨(Lib.toUpperD s.data.toList).toArray⟩) ∧ Below w.heap.size w w' := Any.strings_ToUpper_beyond Tryd.lays158 Tryd.Builder_Extra_158 s w hs hhigh hV hT
open Go.RowKit Go.Lib in
theorem Tryd.strings_ToUpper_any (s : ByteArray) (w : World) (hs : s.size < 35184372088832) (hV : CaseVar 5 caseA w) (hT : Lib.Utf8Tabs 2 3 w) :
    Calls Tryd.prog 51 #[.string s] w fun e w' => e = .returned (.string ⟨(Lib.toUpperD s.data.toList).toArray⟩) ∧ Below w.heap.size w w' := Any.strings_ToUpper_any Tryd.lays158 Tryd.Builder_Extra_158 s w hs hV hT
open Go.RowKit Go.Lib in
theorem Tryd.unicode_is16_any (T : Array Rg) (R oR cap : Nat) (z : Nat) (w : World) (hz : z < 65536) (hT : RgTab .u16 R oR T w) (hok : RgOk 65536 T) (hn : T.size ≤ 1000000000) :
    Calls Tryd.prog 88 #[.slice (some ⟨R, oR, none⟩) T.size cap, .int .u16 z] w fun e w' => e = .returned (.bool (is16Go T z)) ∧ ∃ q, w' = w.drewN q := Any.unicode_is16_any Tryd.lays311 T R oR cap z w hz hT hok hn
def Tryd.lays312_ren : Go.Shelf.Ren := ⟨fun | 312 => 89 | n => n, fun | 194 => 87 | 51 => 34 | 4 => 4 | 3 => 3 | 0 => 0 | 227 => 114 | 201 => 95 | 46 => 36 | n => n, fun | n => n⟩
theorem Tryd.lays312 : Go.Proofs.Lays.n312 Tryd.prog Tryd.lays312_ren := {
  mixed := by kernel_rfl
  f312 := Tryd.func89.trans (congrArg some (by kernel_rfl))
  t0 := Tryd.underlying0
  a0 := Tryd.isAgg0
  z0 := Tryd.sizeOf0
  v0 := Tryd.zeroValue0
  t3 := Tryd.underlying3
  a3 := Tryd.isAgg3
  z3 := Tryd.sizeOf3
  v3 := Tryd.zeroValue3
  t4 := Tryd.underlying4
  a4 := Tryd.isAgg4
  z4 := Tryd.sizeOf4
  v4 := Tryd.zeroValue4
  t46 := Tryd.underlying36
  a46 := Tryd.isAgg36
  z46 := Tryd.sizeOf36
  v46 := Tryd.zeroValue36
  t51 := Tryd.underlying34
  a51 := Tryd.isAgg34
  z51 := Tryd.sizeOf34
  v51 := Tryd.zeroValue34
  t194 := Tryd.underlying87
  a194 := Tryd.isAgg87
  z194 := Tryd.sizeOf87
  v194 := Tryd.zeroValue87
  t201 := Tryd.underlying95
  a201 := Tryd.isAgg95
  z201 := Tryd.sizeOf95
  v201 := Tryd.zeroValue95
  t227 := Tryd.underlying114
  a227 := Tryd.isAgg114
  z227 := Tryd.sizeOf114
  v227 := Tryd.zeroValue114 }
open Go.RowKit Go.Lib in
theorem Tryd.unicode_is32_any (T : Array Rg) (R oR cap : Nat) (z : Nat) (w : World) (hz : z < 4294967296) (hT : RgTab .u32 R oR T w) (hok : RgOk 4294967296 T) (hn : T.size ≤ 1000000000) :
    Calls Tryd.prog 89 #[.slice (some ⟨R, oR, none⟩) T.size cap, .int .u32 z] w fun e w' => e = .returned (.bool (is32Go T z)) ∧ Below w.heap.size w w' := Any.unicode_is32_any Tryd.lays312 T R oR cap z w hz hT hok hn
open Go.RowKit Go.Lib in
theorem Tryd.unicode_isExcludingLatin_any (Tb oT : Nat) (T : RTab) (r : Int) (w : World) (hlo : -2147483648 ≤ r) (hhi : r ≤ 2147483647) (hA : RTabAt Tb oT T w) (hok : RTabOk T) :
    Calls Tryd.prog 71 #[.pointer (some ⟨Tb, oT, none⟩), .int .i32 r] w fun e w' => e = .returned (.bool (exclGo T r)) ∧ Below w.heap.size w w' := Any.unicode_isExcludingLatin_any Tryd.lays261 Tb oT T r w hlo hhi hA hok
open Go.RowKit Go.Lib in
theorem Tryd.strings_indexFunc_grows (g : Nat) (lb : Array Value) (eg : ∀ args w, (callFunc g args).run Tryd.prog w = .ok (.enter g args) w) (p : Nat → Bool) (truth : Bool) (s : ByteArray) (w : World) (hp : PredGrows Tryd.prog g lb p w) :
    Calls Tryd.prog 87 #[.string s, .func (.func g) #[] lb, .bool truth] w fun e w' => e = .returned (.int .i64 (Lib.idxFunc p truth s)) ∧ Below w.heap.size w w' := Any.strings_indexFunc_grows Tryd.lays315 g lb eg p truth s w hp
open Go.RowKit Go.Lib in
theorem Tryd.strings_lastIndexFunc_grows (g : Nat) (lb : Array Value) (eg : ∀ args w, (callFunc g args).run Tryd.prog w = .ok (.enter g args) w) (p : Nat → Bool) (truth : Bool) (s : ByteArray) (w : World) (hs : s.size ≤ 9223372036854775807) (hT : Lib.Utf8Tabs 2 3 w) (hp : PredGrows Tryd.prog g lb p w) :
    Calls Tryd.prog 72 #[.string s, .func (.func g) #[] lb, .bool truth] w fun e w' => e = .returned (.int .i64 (Lib.lastIdxFunc p truth s)) ∧ Below w.heap.size w w' := Any.strings_lastIndexFunc_grows Tryd.lays273 g lb eg p truth s w hs hT hp
open Go.RowKit Go.Lib in
theorem Tryd.strings_TrimLeftFunc_grows (g : Nat) (lb : Array Value) (eg : ∀ args w, (callFunc g args).run Tryd.prog w = .ok (.enter g args) w) (p : Nat → Bool) (s : ByteArray) (w : World) (hp : PredGrows Tryd.prog g lb p w) :
    Calls Tryd.prog 70 #[.string s, .func (.func g) #[] lb] w fun e w' => e = .returned (.string (Lib.trimLeftF p s)) ∧ Below w.heap.size w w' := Any.strings_TrimLeftFunc_grows Tryd.lays272 g lb eg p s w hp
open Go.RowKit Go.Lib in
theorem Tryd.strings_TrimRightFunc_grows (g : Nat) (lb : Array Value) (eg : ∀ args w, (callFunc g args).run Tryd.prog w = .ok (.enter g args) w) (p : Nat → Bool) (s : ByteArray) (w : World) (hs : s.size ≤ 9223372036854775807) (hT : Lib.Utf8Tabs 2 3 w) (hp : PredGrows Tryd.prog g lb p w) :
    Calls Tryd.prog 55 #[.string s, .func (.func g) #[] lb] w fun e w' => e = .returned (.string (Lib.trimRightF p s)) ∧ Below w.heap.size w w' := Any.strings_TrimRightFunc_grows Tryd.lays238 g lb eg p s w hs hT hp
open Go.RowKit Go.Lib in
theorem Tryd.strings_TrimFunc_grows (g : Nat) (lb : Array Value) (eg : ∀ args w, (callFunc g args).run Tryd.prog w = .ok (.enter g args) w) (p : Nat → Bool) (s : ByteArray) (w : World) (hs : s.size ≤ 9223372036854775807) (hT : Lib.Utf8Tabs 2 3 w) (hp : PredGrows Tryd.prog g lb p w) :
    Calls Tryd.prog 53 #[.string s, .func (.func g) #[] lb] w fun e w' => e = .returned (.string (Lib.trimF p s)) ∧ Below w.heap.size w w' := Any.strings_TrimFunc_grows Tryd.lays237 g lb eg p s w hs hT hp
open Go.RowKit in
theorem Tryd.Builder_copyCheck_kc (B b : Nat) (bs : List Value) (w : World) (h : Lib.IsBuilderF 53 5 B b bs w) :
    Calls Tryd.prog 76 #[.pointer (some ⟨b, 0, none⟩)] w fun e w' => e = .returned (.tuple #[]) ∧ (Lib.BuilderAtF 53 5 B b (.pointer (some ⟨b, 0, none⟩)) bs w' ∧ Below B w w' ∧ Lib.OthersKept 5 (some b) w w') ∧ w'.cell? ⟨b, 1, none⟩ = w.cell? ⟨b, 1, none⟩ := Any.Builder_copyCheck_kc Tryd.lays240 Tryd.Builder_X72_240 B b bs w h
open Go.RowKit in
theorem Tryd.Builder_WriteString_kc (B b : Nat) (bs : List Value) (s : ByteArray) (w : World) (h : Lib.IsBuilderF 53 5 B b bs w) (hlen : bs.length + s.size ≤ 140737488355328) (hBw : B ≤ w.heap.size) :
    Calls Tryd.prog 59 #[.pointer (some ⟨b, 0, none⟩), .string s] w fun e w' => e = .returned (.tuple #[.int .i64 s.size, .nilIface]) ∧ (Lib.BuilderAtF 53 5 B b (.pointer (some ⟨b, 0, none⟩)) (bs ++ Lib.strCells s) w' ∧ Below B w w' ∧ Lib.OthersKept 5 (some b) w w') ∧ ∀ v0, w.cell? ⟨b, 1, none⟩ = some v0 → ∃ v1, w'.cell? ⟨b, 1, none⟩ = some v1 ∧ v0.capOf ≤ v1.capOf := Any.Builder_WriteString_kc Tryd.lays166 Tryd.Builder_Extra_166 B b bs s w h hlen hBw
end Go.Proofs
