/-
The library's contracts at this program, laid in plain words.
-/
import Derived.Shelf.Strings.Builder1
import Derived.Shelf.Strings.Builder2
import Derived.Shelf.Strings.TrimSpace
import Derived.Shelf.Small.Utf8
import Derived.Shelf.Strings.BuilderF
import Derived.Shelf.Strings.BuilderK
import Derived.Shelf.Strings.BuilderRune
import Derived.Shelf.Utf8.AppendRune
import Derived.Shelf.Utf8.AppendRunePlain
import Derived.Shelf.Strings.Builder2Cap
import Derived.Shelf.Strconv.Itoa0
import Derived.Shelf.Strconv.Itoa1
import Derived.Shelf.LaysM
import Derived.Shelf.Strconv.Itoa2
import Derived.Shelf.Strconv.Itoa3
import Derived.Shelf.Bytes.Len
import Derived.Shelf.Bytes.TryGrow
import Derived.Shelf.Bytes.GrowSliceCatch
import Derived.Shelf.Bytes.GrowSlice
import Derived.Shelf.Bytes.GrowRow0Kept
import Derived.Shelf.Bytes.GrowRowKept
import Derived.Shelf.Bytes.GrowNilKept
import Derived.Shelf.Bytes.GrowKept
import Derived.Shelf.Bytes.WriteByteKept
import Derived.Shelf.Bytes.WriteStringKept
import Derived.Shelf.Bytes.ResetKept
import Derived.Shelf.Strings.LastIndex
import Derived.Shelf.Strings.LastIndexAll
import Derived.Shelf.Bytes.BufferK
import Derived.Shelf.Bytes.GrowRow0Own
import Derived.Shelf.Bytes.GrowRowOwn
import Derived.Shelf.Bytes.GrowNilOwn
import Derived.Shelf.Bytes.GrowOwn
import Derived.Ground.MzProg
import Derived.Shelf.Wr.WriteRuneAscii
import Derived.Shelf.Wr.WriteRune
import Derived.Shelf.GgClosure.StringsIndexFunc
import Derived.Shelf.GgClosure.StringsTrimFunc
import Derived.Shelf.Unicode.Latin
import Derived.Shelf.Unicode.Decode
import Derived.Shelf.Unicode.DecodeSlow
import Derived.Shelf.Unicode.DecodeAny
import Derived.Shelf.Unicode.Is16White
import Derived.Shelf.Unicode.IsSpaceAny
import Derived.Shelf.Unicode.DecodeLast
import Derived.Shelf.Strings.TrimSpaceAny
import Derived.Shelf.Unicode.CaseLookup
import Derived.Shelf.Unicode.CaseConvert
import Derived.Shelf.Unicode.CaseTo
import Derived.Shelf.Unicode.CaseLaid
import Derived.Shelf.Unicode.Is16Any
import Derived.Shelf.Unicode.Is32Any
import Derived.Shelf.Unicode.ExclAny
import Derived.Shelf.Strings.FuncGrows
import Derived.Test.YtagafmfmmnegfaaDoorProg
namespace Go.Proofs
open Go.Shelf
def Tryd.lays240_ren : Go.Shelf.Ren := ⟨fun | 0 => 0 | 1 => 1 | 2 => 2 | 118 => 126 | 120 => 169 | 129 => 152 | 148 => 116 | 156 => 134 | 159 => 85 | 163 => 94 | 165 => 103 | 166 => 104 | 167 => 105 | 168 => 127 | 169 => 106 | 171 => 133 | 173 => 87 | 174 => 173 | 178 => 117 | 179 => 142 | 181 => 161 | 182 => 119 | 184 => 162 | 197 => 125 | 199 => 101 | 204 => 86 | 205 => 172 | 222 => 138 | 223 => 139 | 230 => 107 | 237 => 112 | 238 => 113 | 240 => 123 | 241 => 124 | 242 => 143 | 243 => 156 | 245 => 176 | 246 => 108 | 247 => 175 | 251 => 140 | 252 => 141 | 260 => 150 | 261 => 121 | 262 => 102 | 269 => 160 | 270 => 128 | 271 => 159 | 272 => 136 | 273 => 137 | 274 => 146 | 275 => 147 | 276 => 148 | 277 => 149 | 278 => 164 | 279 => 180 | 280 => 181 | 281 => 182 | 282 => 183 | 283 => 129 | 284 => 130 | 285 => 131 | 286 => 132 | 287 => 179 | 290 => 163 | 311 => 144 | 312 => 145 | 313 => 122 | 315 => 158 | 316 => 187 | 317 => 151 | 318 => 153 | 319 => 154 | 320 => 155 | 321 => 185 | 322 => 186 | 324 => 170 | 337 => 165 | 338 => 166 | 347 => 188 | 348 => 189 | 349 => 190 | 350 => 191 | 351 => 192 | 352 => 193 | 353 => 194 | 354 => 195 | 355 => 196 | 356 => 197 | 357 => 198 | 358 => 199 | 359 => 200 | 360 => 201 | 361 => 202 | 362 => 203 | 363 => 204 | 364 => 205 | 365 => 206 | 366 => 207 | 367 => 224 | n => n, fun | 0 => 0 | 1 => 1 | 2 => 2 | 3 => 3 | 4 => 4 | 5 => 5 | 6 => 6 | 7 => 7 | 8 => 8 | 9 => 9 | 10 => 10 | 11 => 11 | 12 => 12 | 13 => 13 | 14 => 14 | 15 => 15 | 16 => 16 | 17 => 17 | 18 => 18 | 19 => 19 | 20 => 20 | 21 => 21 | 22 => 31 | 23 => 30 | 24 => 174 | 26 => 74 | 27 => 97 | 28 => 59 | 31 => 44 | 37 => 66 | 39 => 108 | 40 => 46 | 41 => 162 | 46 => 49 | 47 => 144 | 49 => 128 | 51 => 47 | 52 => 159 | 53 => 73 | 54 => 112 | 55 => 118 | 64 => 98 | 67 => 116 | 69 => 23 | 70 => 76 | 71 => 77 | 72 => 78 | 73 => 79 | 74 => 80 | 75 => 81 | 76 => 82 | 77 => 83 | 78 => 84 | 79 => 99 | 80 => 85 | 81 => 109 | 83 => 110 | 84 => 70 | 85 => 145 | 86 => 167 | 90 => 93 | 91 => 94 | 92 => 95 | 93 => 96 | 104 => 24 | 105 => 106 | 106 => 107 | 107 => 69 | 108 => 166 | 111 => 25 | 114 => 122 | 119 => 90 | 121 => 86 | 125 => 45 | 126 => 123 | 127 => 105 | 128 => 173 | 130 => 119 | 131 => 120 | 132 => 121 | 137 => 156 | 138 => 157 | 139 => 158 | 140 => 100 | 141 => 101 | 142 => 75 | 143 => 170 | 144 => 171 | 145 => 172 | 146 => 147 | 151 => 148 | 155 => 117 | 160 => 135 | 161 => 136 | 162 => 104 | 163 => 137 | 164 => 138 | 165 => 139 | 166 => 140 | 167 => 176 | 168 => 179 | 169 => 180 | 170 => 181 | 171 => 111 | 172 => 113 | 173 => 114 | 174 => 115 | 175 => 177 | 176 => 178 | 179 => 149 | 193 => 124 | 194 => 125 | 195 => 126 | 196 => 127 | 197 => 129 | 198 => 130 | 199 => 131 | 200 => 132 | 201 => 133 | 202 => 134 | 203 => 102 | 204 => 103 | 205 => 152 | 206 => 153 | 207 => 154 | 208 => 155 | 209 => 183 | 210 => 184 | 211 => 141 | 212 => 142 | 213 => 143 | 214 => 182 | 226 => 150 | 227 => 151 | 232 => 163 | 233 => 164 | 238 => 185 | 239 => 186 | 240 => 187 | 241 => 188 | 242 => 189 | 243 => 190 | 244 => 191 | 245 => 192 | 246 => 193 | 247 => 194 | 248 => 195 | 249 => 196 | n => n, fun | 0 => 0 | 1 => 4 | 3 => 6 | 4 => 7 | 6 => 1 | 13 => 2 | 14 => 5 | 15 => 10 | 16 => 11 | 17 => 3 | 18 => 8 | 19 => 9 | n => n⟩
theorem Tryd.lays240 : Go.Proofs.Lays.n240 Tryd.prog Tryd.lays240_ren := {
  mixed := by kernel_rfl
  f240 := Tryd.func123.trans (congrArg some (by kernel_rfl))
  f276 := Tryd.func148.trans (congrArg some (by kernel_rfl))
  t0 := Tryd.underlying0
  a0 := Tryd.isAgg0
  z0 := Tryd.sizeOf0
  v0 := Tryd.zeroValue0
  t4 := Tryd.underlying4
  a4 := Tryd.isAgg4
  z4 := Tryd.sizeOf4
  v4 := Tryd.zeroValue4
  t9 := Tryd.underlying9
  a9 := Tryd.isAgg9
  z9 := Tryd.sizeOf9
  v9 := Tryd.zeroValue9
  t20 := Tryd.underlying20
  a20 := Tryd.isAgg20
  z20 := Tryd.sizeOf20
  v20 := Tryd.zeroValue20
  t70 := Tryd.underlying76
  a70 := Tryd.isAgg76
  z70 := Tryd.sizeOf76
  v70 := Tryd.zeroValue76
  t72 := Tryd.underlying78
  a72 := Tryd.isAgg78
  z72 := Tryd.sizeOf78
  v72 := Tryd.zeroValue78
  t164 := Tryd.underlying138
  a164 := Tryd.isAgg138
  z164 := Tryd.sizeOf138
  v164 := Tryd.zeroValue138 }
theorem Tryd.Builder_X72_240 : Builder.X72 Tryd.prog Tryd.lays240_ren := {
  sizeBuilder := by kernel_rfl
  liesBuilder := by kernel_rfl }
open Go.RowKit in
theorem Tryd.Builder_copyCheck (B b : Nat) (bs : List Value) (w : World) (h : Lib.IsBuilder 78 5 B b bs w) :
    Calls Tryd.prog 123 #[.pointer (some ⟨b, 0, none⟩)] w fun e w' => e = .returned (.tuple #[]) ∧ (Lib.BuilderAt 78 5 B b (.pointer (some ⟨b, 0, none⟩)) bs w' ∧ Below B w w') := Any.Builder_copyCheck Tryd.lays240 Tryd.Builder_X72_240 B b bs w h
def Tryd.lays167_ren : Go.Shelf.Ren := ⟨fun | 0 => 0 | 1 => 1 | 2 => 2 | 118 => 126 | 120 => 169 | 129 => 152 | 148 => 116 | 156 => 134 | 159 => 85 | 163 => 94 | 165 => 103 | 166 => 104 | 167 => 105 | 168 => 127 | 169 => 106 | 171 => 133 | 173 => 87 | 174 => 173 | 178 => 117 | 179 => 142 | 181 => 161 | 182 => 119 | 184 => 162 | 197 => 125 | 199 => 101 | 204 => 86 | 205 => 172 | 222 => 138 | 223 => 139 | 230 => 107 | 237 => 112 | 238 => 113 | 240 => 123 | 241 => 124 | 242 => 143 | 243 => 156 | 245 => 176 | 246 => 108 | 247 => 175 | 251 => 140 | 252 => 141 | 260 => 150 | 261 => 121 | 262 => 102 | 269 => 160 | 270 => 128 | 271 => 159 | 272 => 136 | 273 => 137 | 274 => 146 | 275 => 147 | 276 => 148 | 277 => 149 | 278 => 164 | 279 => 180 | 280 => 181 | 281 => 182 | 282 => 183 | 283 => 129 | 284 => 130 | 285 => 131 | 286 => 132 | 287 => 179 | 290 => 163 | 311 => 144 | 312 => 145 | 313 => 122 | 315 => 158 | 316 => 187 | 317 => 151 | 318 => 153 | 319 => 154 | 320 => 155 | 321 => 185 | 322 => 186 | 324 => 170 | 337 => 165 | 338 => 166 | 347 => 188 | 348 => 189 | 349 => 190 | 350 => 191 | 351 => 192 | 352 => 193 | 353 => 194 | 354 => 195 | 355 => 196 | 356 => 197 | 357 => 198 | 358 => 199 | 359 => 200 | 360 => 201 | 361 => 202 | 362 => 203 | 363 => 204 | 364 => 205 | 365 => 206 | 366 => 207 | 367 => 224 | n => n, fun | 0 => 0 | 1 => 1 | 2 => 2 | 3 => 3 | 4 => 4 | 5 => 5 | 6 => 6 | 7 => 7 | 8 => 8 | 9 => 9 | 10 => 10 | 11 => 11 | 12 => 12 | 13 => 13 | 14 => 14 | 15 => 15 | 16 => 16 | 17 => 17 | 18 => 18 | 19 => 19 | 20 => 20 | 21 => 21 | 22 => 31 | 23 => 30 | 24 => 174 | 26 => 74 | 27 => 97 | 28 => 59 | 31 => 44 | 37 => 66 | 39 => 108 | 40 => 46 | 41 => 162 | 46 => 49 | 47 => 144 | 49 => 128 | 51 => 47 | 52 => 159 | 53 => 73 | 54 => 112 | 55 => 118 | 64 => 98 | 67 => 116 | 69 => 23 | 70 => 76 | 71 => 77 | 72 => 78 | 73 => 79 | 74 => 80 | 75 => 81 | 76 => 82 | 77 => 83 | 78 => 84 | 79 => 99 | 80 => 85 | 81 => 109 | 83 => 110 | 84 => 70 | 85 => 145 | 86 => 167 | 90 => 93 | 91 => 94 | 92 => 95 | 93 => 96 | 104 => 24 | 105 => 106 | 106 => 107 | 107 => 69 | 108 => 166 | 111 => 25 | 114 => 122 | 119 => 90 | 121 => 86 | 125 => 45 | 126 => 123 | 127 => 105 | 128 => 173 | 130 => 119 | 131 => 120 | 132 => 121 | 137 => 156 | 138 => 157 | 139 => 158 | 140 => 100 | 141 => 101 | 142 => 75 | 143 => 170 | 144 => 171 | 145 => 172 | 146 => 147 | 151 => 148 | 155 => 117 | 160 => 135 | 161 => 136 | 162 => 104 | 163 => 137 | 164 => 138 | 165 => 139 | 166 => 140 | 167 => 176 | 168 => 179 | 169 => 180 | 170 => 181 | 171 => 111 | 172 => 113 | 173 => 114 | 174 => 115 | 175 => 177 | 176 => 178 | 179 => 149 | 193 => 124 | 194 => 125 | 195 => 126 | 196 => 127 | 197 => 129 | 198 => 130 | 199 => 131 | 200 => 132 | 201 => 133 | 202 => 134 | 203 => 102 | 204 => 103 | 205 => 152 | 206 => 153 | 207 => 154 | 208 => 155 | 209 => 183 | 210 => 184 | 211 => 141 | 212 => 142 | 213 => 143 | 214 => 182 | 226 => 150 | 227 => 151 | 232 => 163 | 233 => 164 | 238 => 185 | 239 => 186 | 240 => 187 | 241 => 188 | 242 => 189 | 243 => 190 | 244 => 191 | 245 => 192 | 246 => 193 | 247 => 194 | 248 => 195 | 249 => 196 | n => n, fun | 0 => 0 | 1 => 4 | 3 => 6 | 4 => 7 | 6 => 1 | 13 => 2 | 14 => 5 | 15 => 10 | 16 => 11 | 17 => 3 | 18 => 8 | 19 => 9 | n => n⟩
theorem Tryd.lays167 : Go.Proofs.Lays.n167 Tryd.prog Tryd.lays167_ren := {
  mixed := by kernel_rfl
  f167 := Tryd.func105.trans (congrArg some (by kernel_rfl))
  f240 := Tryd.func123.trans (congrArg some (by kernel_rfl))
  f276 := Tryd.func148.trans (congrArg some (by kernel_rfl))
  t0 := Tryd.underlying0
  a0 := Tryd.isAgg0
  z0 := Tryd.sizeOf0
  v0 := Tryd.zeroValue0
  t4 := Tryd.underlying4
  a4 := Tryd.isAgg4
  z4 := Tryd.sizeOf4
  v4 := Tryd.zeroValue4
  t5 := Tryd.underlying5
  a5 := Tryd.isAgg5
  z5 := Tryd.sizeOf5
  v5 := Tryd.zeroValue5
  t9 := Tryd.underlying9
  a9 := Tryd.isAgg9
  z9 := Tryd.sizeOf9
  v9 := Tryd.zeroValue9
  t20 := Tryd.underlying20
  a20 := Tryd.isAgg20
  z20 := Tryd.sizeOf20
  v20 := Tryd.zeroValue20
  t37 := Tryd.underlying66
  a37 := Tryd.isAgg66
  z37 := Tryd.sizeOf66
  v37 := Tryd.zeroValue66
  t70 := Tryd.underlying76
  a70 := Tryd.isAgg76
  z70 := Tryd.sizeOf76
  v70 := Tryd.zeroValue76
  t72 := Tryd.underlying78
  a72 := Tryd.isAgg78
  z72 := Tryd.sizeOf78
  v72 := Tryd.zeroValue78
  t75 := Tryd.underlying81
  a75 := Tryd.isAgg81
  z75 := Tryd.sizeOf81
  v75 := Tryd.zeroValue81
  t164 := Tryd.underlying138
  a164 := Tryd.isAgg138
  z164 := Tryd.sizeOf138
  v164 := Tryd.zeroValue138 }
theorem Tryd.Builder_Extra_167 : Builder.Extra Tryd.prog Tryd.lays167_ren := {
  sizeBuilder := by kernel_rfl
  liesBuilder := by kernel_rfl
  t5 := Tryd.underlying5
  a5 := Tryd.isAgg5
  z5 := Tryd.sizeOf5
  v5 := Tryd.zeroValue5
  infoByte := by kernel_rfl
  cellsByte := by kernel_rfl
  sizeByte := by kernel_rfl
  neB5 := by decide }
open Go.RowKit in
theorem Tryd.Builder_WriteByte (B b : Nat) (bs : List Value) (c : Int) (w : World) (h : Lib.IsBuilder 78 5 B b bs w) (hlen : bs.length + 1 ≤ 140737488355328) (hBw : B ≤ w.heap.size) :
    Calls Tryd.prog 105 #[.pointer (some ⟨b, 0, none⟩), .int .u8 c] w fun e w' => e = .returned .nilIface ∧ (Lib.BuilderAt 78 5 B b (.pointer (some ⟨b, 0, none⟩)) (bs ++ [.int .u8 c]) w' ∧ Below B w w') := Any.Builder_WriteByte Tryd.lays167 Tryd.Builder_Extra_167 B b bs c w h hlen hBw
def Tryd.lays166_ren : Go.Shelf.Ren := ⟨fun | 0 => 0 | 1 => 1 | 2 => 2 | 118 => 126 | 120 => 169 | 129 => 152 | 148 => 116 | 156 => 134 | 159 => 85 | 163 => 94 | 165 => 103 | 166 => 104 | 167 => 105 | 168 => 127 | 169 => 106 | 171 => 133 | 173 => 87 | 174 => 173 | 178 => 117 | 179 => 142 | 181 => 161 | 182 => 119 | 184 => 162 | 197 => 125 | 199 => 101 | 204 => 86 | 205 => 172 | 222 => 138 | 223 => 139 | 230 => 107 | 237 => 112 | 238 => 113 | 240 => 123 | 241 => 124 | 242 => 143 | 243 => 156 | 245 => 176 | 246 => 108 | 247 => 175 | 251 => 140 | 252 => 141 | 260 => 150 | 261 => 121 | 262 => 102 | 269 => 160 | 270 => 128 | 271 => 159 | 272 => 136 | 273 => 137 | 274 => 146 | 275 => 147 | 276 => 148 | 277 => 149 | 278 => 164 | 279 => 180 | 280 => 181 | 281 => 182 | 282 => 183 | 283 => 129 | 284 => 130 | 285 => 131 | 286 => 132 | 287 => 179 | 290 => 163 | 311 => 144 | 312 => 145 | 313 => 122 | 315 => 158 | 316 => 187 | 317 => 151 | 318 => 153 | 319 => 154 | 320 => 155 | 321 => 185 | 322 => 186 | 324 => 170 | 337 => 165 | 338 => 166 | 347 => 188 | 348 => 189 | 349 => 190 | 350 => 191 | 351 => 192 | 352 => 193 | 353 => 194 | 354 => 195 | 355 => 196 | 356 => 197 | 357 => 198 | 358 => 199 | 359 => 200 | 360 => 201 | 361 => 202 | 362 => 203 | 363 => 204 | 364 => 205 | 365 => 206 | 366 => 207 | 367 => 224 | n => n, fun | 0 => 0 | 1 => 1 | 2 => 2 | 3 => 3 | 4 => 4 | 5 => 5 | 6 => 6 | 7 => 7 | 8 => 8 | 9 => 9 | 10 => 10 | 11 => 11 | 12 => 12 | 13 => 13 | 14 => 14 | 15 => 15 | 16 => 16 | 17 => 17 | 18 => 18 | 19 => 19 | 20 => 20 | 21 => 21 | 22 => 31 | 23 => 30 | 24 => 174 | 26 => 74 | 27 => 97 | 28 => 59 | 31 => 44 | 37 => 66 | 39 => 108 | 40 => 46 | 41 => 162 | 46 => 49 | 47 => 144 | 49 => 128 | 51 => 47 | 52 => 159 | 53 => 73 | 54 => 112 | 55 => 118 | 64 => 98 | 67 => 116 | 69 => 23 | 70 => 76 | 71 => 77 | 72 => 78 | 73 => 79 | 74 => 80 | 75 => 81 | 76 => 82 | 77 => 83 | 78 => 84 | 79 => 99 | 80 => 85 | 81 => 109 | 83 => 110 | 84 => 70 | 85 => 145 | 86 => 167 | 90 => 93 | 91 => 94 | 92 => 95 | 93 => 96 | 104 => 24 | 105 => 106 | 106 => 107 | 107 => 69 | 108 => 166 | 111 => 25 | 114 => 122 | 119 => 90 | 121 => 86 | 125 => 45 | 126 => 123 | 127 => 105 | 128 => 173 | 130 => 119 | 131 => 120 | 132 => 121 | 137 => 156 | 138 => 157 | 139 => 158 | 140 => 100 | 141 => 101 | 142 => 75 | 143 => 170 | 144 => 171 | 145 => 172 | 146 => 147 | 151 => 148 | 155 => 117 | 160 => 135 | 161 => 136 | 162 => 104 | 163 => 137 | 164 => 138 | 165 => 139 | 166 => 140 | 167 => 176 | 168 => 179 | 169 => 180 | 170 => 181 | 171 => 111 | 172 => 113 | 173 => 114 | 174 => 115 | 175 => 177 | 176 => 178 | 179 => 149 | 193 => 124 | 194 => 125 | 195 => 126 | 196 => 127 | 197 => 129 | 198 => 130 | 199 => 131 | 200 => 132 | 201 => 133 | 202 => 134 | 203 => 102 | 204 => 103 | 205 => 152 | 206 => 153 | 207 => 154 | 208 => 155 | 209 => 183 | 210 => 184 | 211 => 141 | 212 => 142 | 213 => 143 | 214 => 182 | 226 => 150 | 227 => 151 | 232 => 163 | 233 => 164 | 238 => 185 | 239 => 186 | 240 => 187 | 241 => 188 | 242 => 189 | 243 => 190 | 244 => 191 | 245 => 192 | 246 => 193 | 247 => 194 | 248 => 195 | 249 => 196 | n => n, fun | 0 => 0 | 1 => 4 | 3 => 6 | 4 => 7 | 6 => 1 | 13 => 2 | 14 => 5 | 15 => 10 | 16 => 11 | 17 => 3 | 18 => 8 | 19 => 9 | n => n⟩
theorem Tryd.lays166 : Go.Proofs.Lays.n166 Tryd.prog Tryd.lays166_ren := {
  mixed := by kernel_rfl
  f166 := Tryd.func104.trans (congrArg some (by kernel_rfl))
  f240 := Tryd.func123.trans (congrArg some (by kernel_rfl))
  f276 := Tryd.func148.trans (congrArg some (by kernel_rfl))
  t0 := Tryd.underlying0
  a0 := Tryd.isAgg0
  z0 := Tryd.sizeOf0
  v0 := Tryd.zeroValue0
  t3 := Tryd.underlying3
  a3 := Tryd.isAgg3
  z3 := Tryd.sizeOf3
  v3 := Tryd.zeroValue3
  t4 := Tryd.underlying4
  a4 := Tryd.isAgg4
  z4 := Tryd.sizeOf4
  v4 := Tryd.zeroValue4
  t9 := Tryd.underlying9
  a9 := Tryd.isAgg9
  z9 := Tryd.sizeOf9
  v9 := Tryd.zeroValue9
  t20 := Tryd.underlying20
  a20 := Tryd.isAgg20
  z20 := Tryd.sizeOf20
  v20 := Tryd.zeroValue20
  t37 := Tryd.underlying66
  a37 := Tryd.isAgg66
  z37 := Tryd.sizeOf66
  v37 := Tryd.zeroValue66
  t70 := Tryd.underlying76
  a70 := Tryd.isAgg76
  z70 := Tryd.sizeOf76
  v70 := Tryd.zeroValue76
  t72 := Tryd.underlying78
  a72 := Tryd.isAgg78
  z72 := Tryd.sizeOf78
  v72 := Tryd.zeroValue78
  t75 := Tryd.underlying81
  a75 := Tryd.isAgg81
  z75 := Tryd.sizeOf81
  v75 := Tryd.zeroValue81
  t164 := Tryd.underlying138
  a164 := Tryd.isAgg138
  z164 := Tryd.sizeOf138
  v164 := Tryd.zeroValue138 }
theorem Tryd.Builder_Extra_166 : Builder.Extra Tryd.prog Tryd.lays166_ren := {
  sizeBuilder := by kernel_rfl
  liesBuilder := by kernel_rfl
  t5 := Tryd.underlying5
  a5 := Tryd.isAgg5
  z5 := Tryd.sizeOf5
  v5 := Tryd.zeroValue5
  infoByte := by kernel_rfl
  cellsByte := by kernel_rfl
  sizeByte := by kernel_rfl
  neB5 := by decide }
open Go.RowKit in
theorem Tryd.Builder_WriteString (B b : Nat) (bs : List Value) (s : ByteArray) (w : World) (h : Lib.IsBuilder 78 5 B b bs w) (hlen : bs.length + s.size ≤ 140737488355328) (hBw : B ≤ w.heap.size) :
    Calls Tryd.prog 104 #[.pointer (some ⟨b, 0, none⟩), .string s] w fun e w' => e = .returned (.tuple #[.int .i64 s.size, .nilIface]) ∧ (Lib.BuilderAt 78 5 B b (.pointer (some ⟨b, 0, none⟩)) (bs ++ Lib.strCells s) w' ∧ Below B w w') := Any.Builder_WriteString Tryd.lays166 Tryd.Builder_Extra_166 B b bs s w h hlen hBw
def Tryd.lays169_ren : Go.Shelf.Ren := ⟨fun | 169 => 106 | n => n, fun | 70 => 76 | 9 => 9 | 0 => 0 | 72 => 78 | 37 => 66 | 127 => 105 | 3 => 3 | 5 => 5 | n => n, fun | n => n⟩
theorem Tryd.lays169 : Go.Proofs.Lays.n169 Tryd.prog Tryd.lays169_ren := {
  mixed := by kernel_rfl
  f169 := Tryd.func106.trans (congrArg some (by kernel_rfl))
  t0 := Tryd.underlying0
  a0 := Tryd.isAgg0
  z0 := Tryd.sizeOf0
  v0 := Tryd.zeroValue0
  t3 := Tryd.underlying3
  a3 := Tryd.isAgg3
  z3 := Tryd.sizeOf3
  v3 := Tryd.zeroValue3
  t9 := Tryd.underlying9
  a9 := Tryd.isAgg9
  z9 := Tryd.sizeOf9
  v9 := Tryd.zeroValue9
  t37 := Tryd.underlying66
  a37 := Tryd.isAgg66
  z37 := Tryd.sizeOf66
  v37 := Tryd.zeroValue66
  t70 := Tryd.underlying76
  a70 := Tryd.isAgg76
  z70 := Tryd.sizeOf76
  v70 := Tryd.zeroValue76
  t72 := Tryd.underlying78
  a72 := Tryd.isAgg78
  z72 := Tryd.sizeOf78
  v72 := Tryd.zeroValue78
  t127 := Tryd.underlying105
  a127 := Tryd.isAgg105
  z127 := Tryd.sizeOf105
  v127 := Tryd.zeroValue105 }
theorem Tryd.Builder_Extra_169 : Builder.Extra Tryd.prog Tryd.lays169_ren := {
  sizeBuilder := by kernel_rfl
  liesBuilder := by kernel_rfl
  t5 := Tryd.underlying5
  a5 := Tryd.isAgg5
  z5 := Tryd.sizeOf5
  v5 := Tryd.zeroValue5
  infoByte := by kernel_rfl
  cellsByte := by kernel_rfl
  sizeByte := by kernel_rfl
  neB5 := by decide }
open Go.RowKit in
theorem Tryd.Builder_String (B b : Nat) (l : List UInt8) (w : World) (h : Lib.IsBuilder 78 5 B b (Lib.byteCells l) w) (h0 : l ≠ []) :
    Calls Tryd.prog 106 #[.pointer (some ⟨b, 0, none⟩)] w fun e w' => e = .returned (.string ⟨l.toArray⟩) ∧ Below B w w' := Any.Builder_String Tryd.lays169 Tryd.Builder_Extra_169 B b l w h h0
open Go.RowKit in
theorem Tryd.Builder_String_empty (B b : Nat) (w : World) (h : Lib.IsBuilder 78 5 B b [] w) (hBw : B ≤ w.heap.size) :
    Calls Tryd.prog 106 #[.pointer (some ⟨b, 0, none⟩)] w fun e w' => e = .returned (.string ⟨#[]⟩) ∧ Below B w w' := Any.Builder_String_empty Tryd.lays169 Tryd.Builder_Extra_169 B b w h hBw
open Go.RowKit in
theorem Tryd.Builder_String_any (B b : Nat) (l : List UInt8) (w : World) (h : Lib.IsBuilder 78 5 B b (Lib.byteCells l) w) (hBw : B ≤ w.heap.size) :
    Calls Tryd.prog 106 #[.pointer (some ⟨b, 0, none⟩)] w fun e w' => e = .returned (.string ⟨l.toArray⟩) ∧ Below B w w' := Any.Builder_String_any Tryd.lays169 Tryd.Builder_Extra_169 B b l w h hBw
def Tryd.lays241_ren : Go.Shelf.Ren := ⟨fun | 241 => 124 | 277 => 149 | n => n, fun | 70 => 76 | 3 => 3 | 0 => 0 | 72 => 78 | 37 => 66 | 5 => 5 | n => n, fun | n => n⟩
theorem Tryd.lays241 : Go.Proofs.Lays.n241 Tryd.prog Tryd.lays241_ren := {
  mixed := by kernel_rfl
  f241 := Tryd.func124.trans (congrArg some (by kernel_rfl))
  f277 := Tryd.func149.trans (congrArg some (by kernel_rfl))
  t0 := Tryd.underlying0
  a0 := Tryd.isAgg0
  z0 := Tryd.sizeOf0
  v0 := Tryd.zeroValue0
  t3 := Tryd.underlying3
  a3 := Tryd.isAgg3
  z3 := Tryd.sizeOf3
  v3 := Tryd.zeroValue3
  t37 := Tryd.underlying66
  a37 := Tryd.isAgg66
  z37 := Tryd.sizeOf66
  v37 := Tryd.zeroValue66
  t70 := Tryd.underlying76
  a70 := Tryd.isAgg76
  z70 := Tryd.sizeOf76
  v70 := Tryd.zeroValue76
  t72 := Tryd.underlying78
  a72 := Tryd.isAgg78
  z72 := Tryd.sizeOf78
  v72 := Tryd.zeroValue78 }
theorem Tryd.Builder_Extra_241 : Builder.Extra Tryd.prog Tryd.lays241_ren := {
  sizeBuilder := by kernel_rfl
  liesBuilder := by kernel_rfl
  t5 := Tryd.underlying5
  a5 := Tryd.isAgg5
  z5 := Tryd.sizeOf5
  v5 := Tryd.zeroValue5
  infoByte := by kernel_rfl
  cellsByte := by kernel_rfl
  sizeByte := by kernel_rfl
  neB5 := by decide }
open Go.RowKit in
theorem Tryd.Builder_grow_fresh (B b n : Nat) (w : World) (hB : B ≤ b) (hbk : w.heap[b]? = some (.cells #[.pointer (some ⟨b, 0, none⟩), .slice none 0 0] 78 (0, 0))) (hBw : B ≤ w.heap.size) (hn : n ≤ 281474976710656) :
    Calls Tryd.prog 124 #[.pointer (some ⟨b, 0, none⟩), .int .i64 n] w fun e w' => e = .returned (.tuple #[]) ∧ (Lib.BuilderAt 78 5 B b (.pointer (some ⟨b, 0, none⟩)) [] w' ∧ Below B w w') := Any.Builder_grow_fresh Tryd.lays241 Tryd.Builder_Extra_241 B b n w hB hbk hBw hn
def Tryd.lays165_ren : Go.Shelf.Ren := ⟨fun | 165 => 103 | 240 => 123 | 241 => 124 | 276 => 148 | 277 => 149 | n => n, fun | 70 => 76 | 3 => 3 | 0 => 0 | 4 => 4 | 9 => 9 | 20 => 20 | 72 => 78 | 37 => 66 | 164 => 138 | 5 => 5 | n => n, fun | n => n⟩
theorem Tryd.lays165 : Go.Proofs.Lays.n165 Tryd.prog Tryd.lays165_ren := {
  mixed := by kernel_rfl
  f165 := Tryd.func103.trans (congrArg some (by kernel_rfl))
  f240 := Tryd.func123.trans (congrArg some (by kernel_rfl))
  f241 := Tryd.func124.trans (congrArg some (by kernel_rfl))
  f276 := Tryd.func148.trans (congrArg some (by kernel_rfl))
  f277 := Tryd.func149.trans (congrArg some (by kernel_rfl))
  t0 := Tryd.underlying0
  a0 := Tryd.isAgg0
  z0 := Tryd.sizeOf0
  v0 := Tryd.zeroValue0
  t3 := Tryd.underlying3
  a3 := Tryd.isAgg3
  z3 := Tryd.sizeOf3
  v3 := Tryd.zeroValue3
  t4 := Tryd.underlying4
  a4 := Tryd.isAgg4
  z4 := Tryd.sizeOf4
  v4 := Tryd.zeroValue4
  t9 := Tryd.underlying9
  a9 := Tryd.isAgg9
  z9 := Tryd.sizeOf9
  v9 := Tryd.zeroValue9
  t20 := Tryd.underlying20
  a20 := Tryd.isAgg20
  z20 := Tryd.sizeOf20
  v20 := Tryd.zeroValue20
  t37 := Tryd.underlying66
  a37 := Tryd.isAgg66
  z37 := Tryd.sizeOf66
  v37 := Tryd.zeroValue66
  t70 := Tryd.underlying76
  a70 := Tryd.isAgg76
  z70 := Tryd.sizeOf76
  v70 := Tryd.zeroValue76
  t72 := Tryd.underlying78
  a72 := Tryd.isAgg78
  z72 := Tryd.sizeOf78
  v72 := Tryd.zeroValue78
  t164 := Tryd.underlying138
  a164 := Tryd.isAgg138
  z164 := Tryd.sizeOf138
  v164 := Tryd.zeroValue138 }
theorem Tryd.Builder_Extra_165 : Builder.Extra Tryd.prog Tryd.lays165_ren := {
  sizeBuilder := by kernel_rfl
  liesBuilder := by kernel_rfl
  t5 := Tryd.underlying5
  a5 := Tryd.isAgg5
  z5 := Tryd.sizeOf5
  v5 := Tryd.zeroValue5
  infoByte := by kernel_rfl
  cellsByte := by kernel_rfl
  sizeByte := by kernel_rfl
  neB5 := by decide }
open Go.RowKit in
theorem Tryd.Builder_Grow_fresh (B b n : Nat) (w : World) (hB : B ≤ b) (hbk : w.heap[b]? = some (.cells #[.pointer none, .slice none 0 0] 78 (0, 0))) (hBw : B ≤ w.heap.size) (hn : n ≤ 281474976710656) :
    Calls Tryd.prog 103 #[.pointer (some ⟨b, 0, none⟩), .int .i64 n] w fun e w' => e = .returned (.tuple #[]) ∧ (Lib.BuilderAt 78 5 B b (.pointer (some ⟨b, 0, none⟩)) [] w' ∧ Below B w w') := Any.Builder_Grow_fresh Tryd.lays165 Tryd.Builder_Extra_165 B b n w hB hbk hBw hn
def Tryd.lays163_ren : Go.Shelf.Ren := ⟨fun | 163 => 94 | 237 => 112 | 199 => 101 | 238 => 113 | 272 => 136 | 261 => 121 | 273 => 137 | 197 => 125 | 315 => 158 | 311 => 144 | 312 => 145 | 271 => 159 | 260 => 150 | 120 => 169 | n => n, fun | 9 => 9 | 37 => 66 | 3 => 3 | 0 => 0 | 5 => 5 | 4 => 4 | 40 => 46 | 119 => 90 | 21 => 21 | 51 => 47 | 141 => 101 | 105 => 106 | 196 => 127 | 193 => 124 | 198 => 130 | 49 => 128 | 194 => 125 | 201 => 133 | 226 => 150 | 46 => 49 | 227 => 151 | 139 => 158 | 138 => 157 | n => n, fun | 0 => 0 | 6 => 1 | 3 => 6 | 4 => 7 | n => n⟩
theorem Tryd.lays163 : Go.Proofs.Lays.n163 Tryd.prog Tryd.lays163_ren := {
  mixed := by kernel_rfl
  f120 := Tryd.func169.trans (congrArg some (by kernel_rfl))
  f163 := Tryd.func94.trans (congrArg some (by kernel_rfl))
  f197 := Tryd.func125.trans (congrArg some (by kernel_rfl))
  f199 := Tryd.func101.trans (congrArg some (by kernel_rfl))
  f237 := Tryd.func112.trans (congrArg some (by kernel_rfl))
  f238 := Tryd.func113.trans (congrArg some (by kernel_rfl))
  f260 := Tryd.func150.trans (congrArg some (by kernel_rfl))
  f261 := Tryd.func121.trans (congrArg some (by kernel_rfl))
  f271 := Tryd.func159.trans (congrArg some (by kernel_rfl))
  f272 := Tryd.func136.trans (congrArg some (by kernel_rfl))
  f273 := Tryd.func137.trans (congrArg some (by kernel_rfl))
  f311 := Tryd.func144.trans (congrArg some (by kernel_rfl))
  f312 := Tryd.func145.trans (congrArg some (by kernel_rfl))
  f315 := Tryd.func158.trans (congrArg some (by kernel_rfl))
  t0 := Tryd.underlying0
  a0 := Tryd.isAgg0
  z0 := Tryd.sizeOf0
  v0 := Tryd.zeroValue0
  t3 := Tryd.underlying3
  a3 := Tryd.isAgg3
  z3 := Tryd.sizeOf3
  v3 := Tryd.zeroValue3
  t4 := Tryd.underlying4
  a4 := Tryd.isAgg4
  z4 := Tryd.sizeOf4
  v4 := Tryd.zeroValue4
  t5 := Tryd.underlying5
  a5 := Tryd.isAgg5
  z5 := Tryd.sizeOf5
  v5 := Tryd.zeroValue5
  t9 := Tryd.underlying9
  a9 := Tryd.isAgg9
  z9 := Tryd.sizeOf9
  v9 := Tryd.zeroValue9
  t21 := Tryd.underlying21
  a21 := Tryd.isAgg21
  z21 := Tryd.sizeOf21
  v21 := Tryd.zeroValue21
  t37 := Tryd.underlying66
  a37 := Tryd.isAgg66
  z37 := Tryd.sizeOf66
  v37 := Tryd.zeroValue66
  t40 := Tryd.underlying46
  a40 := Tryd.isAgg46
  z40 := Tryd.sizeOf46
  v40 := Tryd.zeroValue46
  t46 := Tryd.underlying49
  a46 := Tryd.isAgg49
  z46 := Tryd.sizeOf49
  v46 := Tryd.zeroValue49
  t49 := Tryd.underlying128
  a49 := Tryd.isAgg128
  z49 := Tryd.sizeOf128
  v49 := Tryd.zeroValue128
  t51 := Tryd.underlying47
  a51 := Tryd.isAgg47
  z51 := Tryd.sizeOf47
  v51 := Tryd.zeroValue47
  t105 := Tryd.underlying106
  a105 := Tryd.isAgg106
  z105 := Tryd.sizeOf106
  v105 := Tryd.zeroValue106
  t119 := Tryd.underlying90
  a119 := Tryd.isAgg90
  z119 := Tryd.sizeOf90
  t138 := Tryd.underlying157
  a138 := Tryd.isAgg157
  z138 := Tryd.sizeOf157
  v138 := Tryd.zeroValue157
  t139 := Tryd.underlying158
  a139 := Tryd.isAgg158
  z139 := Tryd.sizeOf158
  v139 := Tryd.zeroValue158
  t141 := Tryd.underlying101
  a141 := Tryd.isAgg101
  z141 := Tryd.sizeOf101
  v141 := Tryd.zeroValue101
  t193 := Tryd.underlying124
  a193 := Tryd.isAgg124
  z193 := Tryd.sizeOf124
  v193 := Tryd.zeroValue124
  t194 := Tryd.underlying125
  a194 := Tryd.isAgg125
  z194 := Tryd.sizeOf125
  v194 := Tryd.zeroValue125
  t196 := Tryd.underlying127
  a196 := Tryd.isAgg127
  z196 := Tryd.sizeOf127
  v196 := Tryd.zeroValue127
  t198 := Tryd.underlying130
  a198 := Tryd.isAgg130
  z198 := Tryd.sizeOf130
  v198 := Tryd.zeroValue130
  t201 := Tryd.underlying133
  a201 := Tryd.isAgg133
  z201 := Tryd.sizeOf133
  v201 := Tryd.zeroValue133
  t226 := Tryd.underlying150
  a226 := Tryd.isAgg150
  z226 := Tryd.sizeOf150
  v226 := Tryd.zeroValue150
  t227 := Tryd.underlying151
  a227 := Tryd.isAgg151
  z227 := Tryd.sizeOf151
  v227 := Tryd.zeroValue151
  g0 := by kernel_rfl
  g3 := by kernel_rfl
  g4 := by kernel_rfl
  g6 := by kernel_rfl }
theorem Tryd.Space_Extra_163 : Space.Extra Tryd.prog Tryd.lays163_ren := {
  gNamed := by kernel_rfl }
open Go.RowKit in
theorem Tryd.strings_TrimSpace (s : ByteArray) (w : World) (hs : s.size ≤ 9223372036854775807) (hascii : ∀ (j : Nat) b, s.data.toList[j]? = some b → b.toNat < 128) (htab : Lib.TabIs Tryd.prog w "strings.asciiSpace" .u8 Lib.asciiSpaceTab) :
    Calls Tryd.prog 94 #[.string s] w fun e w' => e = .returned (.string ⟨(Lib.trimSpace s.data.toList).toArray⟩) ∧ w' = Lib.bytesWorld w 5 s := Any.strings_TrimSpace Tryd.lays163 Tryd.Space_Extra_163 s w hs hascii htab
def Tryd.lays118_ren : Go.Shelf.Ren := ⟨fun | 118 => 126 | n => n, fun | 21 => 21 | 3 => 3 | 4 => 4 | n => n, fun | n => n⟩
theorem Tryd.lays118 : Go.Proofs.Lays.n118 Tryd.prog Tryd.lays118_ren := {
  mixed := by kernel_rfl
  f118 := Tryd.func126.trans (congrArg some (by kernel_rfl))
  t3 := Tryd.underlying3
  a3 := Tryd.isAgg3
  z3 := Tryd.sizeOf3
  v3 := Tryd.zeroValue3
  t4 := Tryd.underlying4
  a4 := Tryd.isAgg4
  z4 := Tryd.sizeOf4
  v4 := Tryd.zeroValue4
  t21 := Tryd.underlying21
  a21 := Tryd.isAgg21
  z21 := Tryd.sizeOf21
  v21 := Tryd.zeroValue21 }
theorem Tryd.utf8_RuneLen (r : Int) (w : World) :
    Calls Tryd.prog 126 #[.int .i32 r] w fun e w' => e = .returned (.int .i64 (Lib.runeLen r)) ∧ w' = w := Any.utf8_RuneLen Tryd.lays118 r w
def Tryd.lays120_ren : Go.Shelf.Ren := ⟨fun | 120 => 169 | n => n, fun | 5 => 5 | 4 => 4 | n => n, fun | n => n⟩
theorem Tryd.lays120 : Go.Proofs.Lays.n120 Tryd.prog Tryd.lays120_ren := {
  mixed := by kernel_rfl
  f120 := Tryd.func169.trans (congrArg some (by kernel_rfl))
  t4 := Tryd.underlying4
  a4 := Tryd.isAgg4
  z4 := Tryd.sizeOf4
  v4 := Tryd.zeroValue4
  t5 := Tryd.underlying5
  a5 := Tryd.isAgg5
  z5 := Tryd.sizeOf5
  v5 := Tryd.zeroValue5 }
theorem Tryd.utf8_RuneStart (b : Int) (w : World) (h0 : 0 ≤ b) (h1 : b < 256) :
    Calls Tryd.prog 169 #[.int .u8 b] w fun e w' => e = .returned (.bool (Lib.runeStart b)) ∧ w' = w := Any.utf8_RuneStart Tryd.lays120 b w h0 h1
open Go.RowKit in
theorem Tryd.Builder_copyCheck_f (B b : Nat) (bs : List Value) (w : World) (h : Lib.IsBuilderF 78 5 B b bs w) :
    Calls Tryd.prog 123 #[.pointer (some ⟨b, 0, none⟩)] w fun e w' => e = .returned (.tuple #[]) ∧ (Lib.BuilderAtF 78 5 B b (.pointer (some ⟨b, 0, none⟩)) bs w' ∧ Below B w w') := Any.Builder_copyCheck_f Tryd.lays240 Tryd.Builder_X72_240 B b bs w h
open Go.RowKit in
theorem Tryd.Builder_WriteString_f (B b : Nat) (bs : List Value) (s : ByteArray) (w : World) (h : Lib.IsBuilderF 78 5 B b bs w) (hlen : bs.length + s.size ≤ 140737488355328) (hBw : B ≤ w.heap.size) :
    Calls Tryd.prog 104 #[.pointer (some ⟨b, 0, none⟩), .string s] w fun e w' => e = .returned (.tuple #[.int .i64 s.size, .nilIface]) ∧ (Lib.BuilderAtF 78 5 B b (.pointer (some ⟨b, 0, none⟩)) (bs ++ Lib.strCells s) w' ∧ Below B w w') := Any.Builder_WriteString_f Tryd.lays166 Tryd.Builder_Extra_166 B b bs s w h hlen hBw
open Go.RowKit in
theorem Tryd.Builder_String_f (B b : Nat) (l : List UInt8) (w : World) (h : Lib.IsBuilderF 78 5 B b (Lib.byteCells l) w) (h0 : l ≠ []) :
    Calls Tryd.prog 106 #[.pointer (some ⟨b, 0, none⟩)] w fun e w' => e = .returned (.string ⟨l.toArray⟩) ∧ (Lib.IsBuilderF 78 5 B b (Lib.byteCells l) w' ∧ Below B w w') := Any.Builder_String_f Tryd.lays169 Tryd.Builder_Extra_169 B b l w h h0
open Go.RowKit in
theorem Tryd.Builder_String_empty_f (B b : Nat) (w : World) (h : Lib.IsBuilderF 78 5 B b [] w) (hBw : B ≤ w.heap.size) :
    Calls Tryd.prog 106 #[.pointer (some ⟨b, 0, none⟩)] w fun e w' => e = .returned (.string ⟨#[]⟩) ∧ (Lib.IsBuilderF 78 5 B b [] w' ∧ Below B w w') := Any.Builder_String_empty_f Tryd.lays169 Tryd.Builder_Extra_169 B b w h hBw
open Go.RowKit in
theorem Tryd.Builder_String_any_f (B b : Nat) (l : List UInt8) (w : World) (h : Lib.IsBuilderF 78 5 B b (Lib.byteCells l) w) (hBw : B ≤ w.heap.size) :
    Calls Tryd.prog 106 #[.pointer (some ⟨b, 0, none⟩)] w fun e w' => e = .returned (.string ⟨l.toArray⟩) ∧ (Lib.IsBuilderF 78 5 B b (Lib.byteCells l) w' ∧ Below B w w') := Any.Builder_String_any_f Tryd.lays169 Tryd.Builder_Extra_169 B b l w h hBw
open Go.RowKit in
theorem Tryd.Builder_copyCheck_k (B b : Nat) (bs : List Value) (w : World) (h : Lib.IsBuilderF 78 5 B b bs w) :
    Calls Tryd.prog 123 #[.pointer (some ⟨b, 0, none⟩)] w fun e w' => e = .returned (.tuple #[]) ∧ (Lib.BuilderAtF 78 5 B b (.pointer (some ⟨b, 0, none⟩)) bs w' ∧ Below B w w' ∧ Lib.OthersKept 5 (some b) w w') := Any.Builder_copyCheck_k Tryd.lays240 Tryd.Builder_X72_240 B b bs w h
open Go.RowKit in
theorem Tryd.Builder_WriteByte_k (B b : Nat) (bs : List Value) (c : Int) (w : World) (h : Lib.IsBuilderF 78 5 B b bs w) (hlen : bs.length + 1 ≤ 140737488355328) (hBw : B ≤ w.heap.size) :
    Calls Tryd.prog 105 #[.pointer (some ⟨b, 0, none⟩), .int .u8 c] w fun e w' => e = .returned .nilIface ∧ (Lib.BuilderAtF 78 5 B b (.pointer (some ⟨b, 0, none⟩)) (bs ++ [.int .u8 c]) w' ∧ Below B w w' ∧ Lib.OthersKept 5 (some b) w w') := Any.Builder_WriteByte_k Tryd.lays167 Tryd.Builder_Extra_167 B b bs c w h hlen hBw
open Go.RowKit in
theorem Tryd.Builder_WriteString_k (B b : Nat) (bs : List Value) (s : ByteArray) (w : World) (h : Lib.IsBuilderF 78 5 B b bs w) (hlen : bs.length + s.size ≤ 140737488355328) (hBw : B ≤ w.heap.size) :
    Calls Tryd.prog 104 #[.pointer (some ⟨b, 0, none⟩), .string s] w fun e w' => e = .returned (.tuple #[.int .i64 s.size, .nilIface]) ∧ (Lib.BuilderAtF 78 5 B b (.pointer (some ⟨b, 0, none⟩)) (bs ++ Lib.strCells s) w' ∧ Below B w w' ∧ Lib.OthersKept 5 (some b) w w') := Any.Builder_WriteString_k Tryd.lays166 Tryd.Builder_Extra_166 B b bs s w h hlen hBw
open Go.RowKit in
theorem Tryd.Builder_String_k (B b : Nat) (l : List UInt8) (w : World) (h : Lib.IsBuilderF 78 5 B b (Lib.byteCells l) w) (h0 : l ≠ []) :
    Calls Tryd.prog 106 #[.pointer (some ⟨b, 0, none⟩)] w fun e w' => e = .returned (.string ⟨l.toArray⟩) ∧ (Lib.IsBuilderF 78 5 B b (Lib.byteCells l) w' ∧ Below B w w' ∧ Lib.OthersKept 5 (some b) w w') := Any.Builder_String_k Tryd.lays169 Tryd.Builder_Extra_169 B b l w h h0
open Go.RowKit in
theorem Tryd.Builder_String_empty_k (B b : Nat) (w : World) (h : Lib.IsBuilderF 78 5 B b [] w) (hBw : B ≤ w.heap.size) :
    Calls Tryd.prog 106 #[.pointer (some ⟨b, 0, none⟩)] w fun e w' => e = .returned (.string ⟨#[]⟩) ∧ (Lib.IsBuilderF 78 5 B b [] w' ∧ Below B w w' ∧ Lib.OthersKept 5 (some b) w w') := Any.Builder_String_empty_k Tryd.lays169 Tryd.Builder_Extra_169 B b w h hBw
open Go.RowKit in
theorem Tryd.Builder_String_any_k (B b : Nat) (l : List UInt8) (w : World) (h : Lib.IsBuilderF 78 5 B b (Lib.byteCells l) w) (hBw : B ≤ w.heap.size) :
    Calls Tryd.prog 106 #[.pointer (some ⟨b, 0, none⟩)] w fun e w' => e = .returned (.string ⟨l.toArray⟩) ∧ (Lib.IsBuilderF 78 5 B b (Lib.byteCells l) w' ∧ Below B w w' ∧ Lib.OthersKept 5 (some b) w w') := Any.Builder_String_any_k Tryd.lays169 Tryd.Builder_Extra_169 B b l w h hBw
def Tryd.lays168_ren : Go.Shelf.Ren := ⟨fun | 0 => 0 | 1 => 1 | 2 => 2 | 118 => 126 | 120 => 169 | 129 => 152 | 148 => 116 | 156 => 134 | 159 => 85 | 163 => 94 | 165 => 103 | 166 => 104 | 167 => 105 | 168 => 127 | 169 => 106 | 171 => 133 | 173 => 87 | 174 => 173 | 178 => 117 | 179 => 142 | 181 => 161 | 182 => 119 | 184 => 162 | 197 => 125 | 199 => 101 | 204 => 86 | 205 => 172 | 222 => 138 | 223 => 139 | 230 => 107 | 237 => 112 | 238 => 113 | 240 => 123 | 241 => 124 | 242 => 143 | 243 => 156 | 245 => 176 | 246 => 108 | 247 => 175 | 251 => 140 | 252 => 141 | 260 => 150 | 261 => 121 | 262 => 102 | 269 => 160 | 270 => 128 | 271 => 159 | 272 => 136 | 273 => 137 | 274 => 146 | 275 => 147 | 276 => 148 | 277 => 149 | 278 => 164 | 279 => 180 | 280 => 181 | 281 => 182 | 282 => 183 | 283 => 129 | 284 => 130 | 285 => 131 | 286 => 132 | 287 => 179 | 290 => 163 | 311 => 144 | 312 => 145 | 313 => 122 | 315 => 158 | 316 => 187 | 317 => 151 | 318 => 153 | 319 => 154 | 320 => 155 | 321 => 185 | 322 => 186 | 324 => 170 | 337 => 165 | 338 => 166 | 347 => 188 | 348 => 189 | 349 => 190 | 350 => 191 | 351 => 192 | 352 => 193 | 353 => 194 | 354 => 195 | 355 => 196 | 356 => 197 | 357 => 198 | 358 => 199 | 359 => 200 | 360 => 201 | 361 => 202 | 362 => 203 | 363 => 204 | 364 => 205 | 365 => 206 | 366 => 207 | 367 => 224 | n => n, fun | 0 => 0 | 1 => 1 | 2 => 2 | 3 => 3 | 4 => 4 | 5 => 5 | 6 => 6 | 7 => 7 | 8 => 8 | 9 => 9 | 10 => 10 | 11 => 11 | 12 => 12 | 13 => 13 | 14 => 14 | 15 => 15 | 16 => 16 | 17 => 17 | 18 => 18 | 19 => 19 | 20 => 20 | 21 => 21 | 22 => 31 | 23 => 30 | 24 => 174 | 26 => 74 | 27 => 97 | 28 => 59 | 31 => 44 | 37 => 66 | 39 => 108 | 40 => 46 | 41 => 162 | 46 => 49 | 47 => 144 | 49 => 128 | 51 => 47 | 52 => 159 | 53 => 73 | 54 => 112 | 55 => 118 | 64 => 98 | 67 => 116 | 69 => 23 | 70 => 76 | 71 => 77 | 72 => 78 | 73 => 79 | 74 => 80 | 75 => 81 | 76 => 82 | 77 => 83 | 78 => 84 | 79 => 99 | 80 => 85 | 81 => 109 | 83 => 110 | 84 => 70 | 85 => 145 | 86 => 167 | 90 => 93 | 91 => 94 | 92 => 95 | 93 => 96 | 104 => 24 | 105 => 106 | 106 => 107 | 107 => 69 | 108 => 166 | 111 => 25 | 114 => 122 | 119 => 90 | 121 => 86 | 125 => 45 | 126 => 123 | 127 => 105 | 128 => 173 | 130 => 119 | 131 => 120 | 132 => 121 | 137 => 156 | 138 => 157 | 139 => 158 | 140 => 100 | 141 => 101 | 142 => 75 | 143 => 170 | 144 => 171 | 145 => 172 | 146 => 147 | 151 => 148 | 155 => 117 | 160 => 135 | 161 => 136 | 162 => 104 | 163 => 137 | 164 => 138 | 165 => 139 | 166 => 140 | 167 => 176 | 168 => 179 | 169 => 180 | 170 => 181 | 171 => 111 | 172 => 113 | 173 => 114 | 174 => 115 | 175 => 177 | 176 => 178 | 179 => 149 | 193 => 124 | 194 => 125 | 195 => 126 | 196 => 127 | 197 => 129 | 198 => 130 | 199 => 131 | 200 => 132 | 201 => 133 | 202 => 134 | 203 => 102 | 204 => 103 | 205 => 152 | 206 => 153 | 207 => 154 | 208 => 155 | 209 => 183 | 210 => 184 | 211 => 141 | 212 => 142 | 213 => 143 | 214 => 182 | 226 => 150 | 227 => 151 | 232 => 163 | 233 => 164 | 238 => 185 | 239 => 186 | 240 => 187 | 241 => 188 | 242 => 189 | 243 => 190 | 244 => 191 | 245 => 192 | 246 => 193 | 247 => 194 | 248 => 195 | 249 => 196 | n => n, fun | 0 => 0 | 1 => 4 | 3 => 6 | 4 => 7 | 6 => 1 | 13 => 2 | 14 => 5 | 15 => 10 | 16 => 11 | 17 => 3 | 18 => 8 | 19 => 9 | n => n⟩
theorem Tryd.lays168 : Go.Proofs.Lays.n168 Tryd.prog Tryd.lays168_ren := {
  mixed := by kernel_rfl
  f168 := Tryd.func127.trans (congrArg some (by kernel_rfl))
  f240 := Tryd.func123.trans (congrArg some (by kernel_rfl))
  f242 := Tryd.func143.trans (congrArg some (by kernel_rfl))
  f276 := Tryd.func148.trans (congrArg some (by kernel_rfl))
  f278 := Tryd.func164.trans (congrArg some (by kernel_rfl))
  t0 := Tryd.underlying0
  a0 := Tryd.isAgg0
  z0 := Tryd.sizeOf0
  v0 := Tryd.zeroValue0
  t3 := Tryd.underlying3
  a3 := Tryd.isAgg3
  z3 := Tryd.sizeOf3
  v3 := Tryd.zeroValue3
  t4 := Tryd.underlying4
  a4 := Tryd.isAgg4
  z4 := Tryd.sizeOf4
  v4 := Tryd.zeroValue4
  t5 := Tryd.underlying5
  a5 := Tryd.isAgg5
  z5 := Tryd.sizeOf5
  v5 := Tryd.zeroValue5
  t9 := Tryd.underlying9
  a9 := Tryd.isAgg9
  z9 := Tryd.sizeOf9
  v9 := Tryd.zeroValue9
  t20 := Tryd.underlying20
  a20 := Tryd.isAgg20
  z20 := Tryd.sizeOf20
  v20 := Tryd.zeroValue20
  t21 := Tryd.underlying21
  a21 := Tryd.isAgg21
  z21 := Tryd.sizeOf21
  v21 := Tryd.zeroValue21
  t37 := Tryd.underlying66
  a37 := Tryd.isAgg66
  z37 := Tryd.sizeOf66
  v37 := Tryd.zeroValue66
  t46 := Tryd.underlying49
  a46 := Tryd.isAgg49
  z46 := Tryd.sizeOf49
  v46 := Tryd.zeroValue49
  t51 := Tryd.underlying47
  a51 := Tryd.isAgg47
  z51 := Tryd.sizeOf47
  v51 := Tryd.zeroValue47
  t70 := Tryd.underlying76
  a70 := Tryd.isAgg76
  z70 := Tryd.sizeOf76
  v70 := Tryd.zeroValue76
  t72 := Tryd.underlying78
  a72 := Tryd.isAgg78
  z72 := Tryd.sizeOf78
  v72 := Tryd.zeroValue78
  t75 := Tryd.underlying81
  a75 := Tryd.isAgg81
  z75 := Tryd.sizeOf81
  v75 := Tryd.zeroValue81
  t164 := Tryd.underlying138
  a164 := Tryd.isAgg138
  z164 := Tryd.sizeOf138
  v164 := Tryd.zeroValue138 }
theorem Tryd.Builder_Extra_168 : Builder.Extra Tryd.prog Tryd.lays168_ren := {
  sizeBuilder := by kernel_rfl
  liesBuilder := by kernel_rfl
  t5 := Tryd.underlying5
  a5 := Tryd.isAgg5
  z5 := Tryd.sizeOf5
  v5 := Tryd.zeroValue5
  infoByte := by kernel_rfl
  cellsByte := by kernel_rfl
  sizeByte := by kernel_rfl
  neB5 := by decide }
open Go.RowKit in
theorem Tryd.Builder_WriteRune_k (B b : Nat) (bs : List Value) (r : Int) (hr0 : -2147483648 ≤ r) (hr1 : r ≤ 2147483647) (w : World) (h : Lib.IsBuilderF 78 5 B b bs w) (hlen : bs.length + 4 ≤ 140737488355328) (hBw : B ≤ w.heap.size) :
    Calls Tryd.prog 127 #[.pointer (some ⟨b, 0, none⟩), .int .i32 r] w fun e w' => e = .returned (.tuple #[.int .i64 (Lib.runeCells r).length, .nilIface]) ∧ (Lib.BuilderAtF 78 5 B b (.pointer (some ⟨b, 0, none⟩)) (bs ++ Lib.runeCells r) w' ∧ Below B w w' ∧ Lib.OthersKept 5 (some b) w w') := Any.Builder_WriteRune_k Tryd.lays168 Tryd.Builder_Extra_168 B b bs r hr0 hr1 w h hlen hBw
def Tryd.lays278_ren : Go.Shelf.Ren := ⟨fun | 278 => 164 | n => n, fun | 37 => 66 | 21 => 21 | 51 => 47 | 4 => 4 | 46 => 49 | 5 => 5 | n => n, fun | n => n⟩
theorem Tryd.lays278 : Go.Proofs.Lays.n278 Tryd.prog Tryd.lays278_ren := {
  mixed := by kernel_rfl
  f278 := Tryd.func164.trans (congrArg some (by kernel_rfl))
  t4 := Tryd.underlying4
  a4 := Tryd.isAgg4
  z4 := Tryd.sizeOf4
  v4 := Tryd.zeroValue4
  t5 := Tryd.underlying5
  a5 := Tryd.isAgg5
  z5 := Tryd.sizeOf5
  v5 := Tryd.zeroValue5
  t21 := Tryd.underlying21
  a21 := Tryd.isAgg21
  z21 := Tryd.sizeOf21
  v21 := Tryd.zeroValue21
  t37 := Tryd.underlying66
  a37 := Tryd.isAgg66
  z37 := Tryd.sizeOf66
  v37 := Tryd.zeroValue66
  t46 := Tryd.underlying49
  a46 := Tryd.isAgg49
  z46 := Tryd.sizeOf49
  v46 := Tryd.zeroValue49
  t51 := Tryd.underlying47
  a51 := Tryd.isAgg47
  z51 := Tryd.sizeOf47
  v51 := Tryd.zeroValue47 }
open Go.RowKit in
theorem Tryd.utf8_appendRuneNonASCII_row (B : Nat) (v : Value) (n : Nat) (xs : List Value) (r : Int) (hr0 : -2147483648 ≤ r) (hr1 : r ≤ 2147483647) (hna : r < 0 ∨ 128 ≤ r) (w : World) (hown : w.ownsRowF B 5 1 v n xs) (hlen : n + 4 ≤ 140737488355328) (hBw : B ≤ w.heap.size) :
    Calls Tryd.prog 164 #[v, .int .i32 r] w fun e w' => ∃ v', e = .returned v' ∧ w'.ownsRowF B 5 1 v' (n + (Lib.runeCells r).length) (xs ++ Lib.runeCells r) ∧ ∃ o, (w.alloc o).grownBy w' v.ownBlock := Any.utf8_appendRuneNonASCII_row Tryd.lays278 (by kernel_rfl) B v n xs r hr0 hr1 hna w hown hlen hBw
def Tryd.lays242_ren : Go.Shelf.Ren := ⟨fun | 242 => 143 | 278 => 164 | n => n, fun | 37 => 66 | 21 => 21 | 51 => 47 | 4 => 4 | 5 => 5 | 46 => 49 | n => n, fun | n => n⟩
theorem Tryd.lays242 : Go.Proofs.Lays.n242 Tryd.prog Tryd.lays242_ren := {
  mixed := by kernel_rfl
  f242 := Tryd.func143.trans (congrArg some (by kernel_rfl))
  f278 := Tryd.func164.trans (congrArg some (by kernel_rfl))
  t4 := Tryd.underlying4
  a4 := Tryd.isAgg4
  z4 := Tryd.sizeOf4
  v4 := Tryd.zeroValue4
  t5 := Tryd.underlying5
  a5 := Tryd.isAgg5
  z5 := Tryd.sizeOf5
  v5 := Tryd.zeroValue5
  t21 := Tryd.underlying21
  a21 := Tryd.isAgg21
  z21 := Tryd.sizeOf21
  v21 := Tryd.zeroValue21
  t37 := Tryd.underlying66
  a37 := Tryd.isAgg66
  z37 := Tryd.sizeOf66
  v37 := Tryd.zeroValue66
  t46 := Tryd.underlying49
  a46 := Tryd.isAgg49
  z46 := Tryd.sizeOf49
  v46 := Tryd.zeroValue49
  t51 := Tryd.underlying47
  a51 := Tryd.isAgg47
  z51 := Tryd.sizeOf47
  v51 := Tryd.zeroValue47 }
open Go.RowKit in
theorem Tryd.utf8_AppendRune_row (B : Nat) (v : Value) (n : Nat) (xs : List Value) (r : Int) (hr0 : -2147483648 ≤ r) (hr1 : r ≤ 2147483647) (w : World) (hown : w.ownsRowF B 5 1 v n xs) (hlen : n + 4 ≤ 140737488355328) (hBw : B ≤ w.heap.size) :
    Calls Tryd.prog 143 #[v, .int .i32 r] w fun e w' => ∃ v', e = .returned v' ∧ w'.ownsRowF B 5 1 v' (n + (Lib.runeCells r).length) (xs ++ Lib.runeCells r) ∧ ∃ o, (w.alloc o).grownBy w' v.ownBlock := Any.utf8_AppendRune_row Tryd.lays242 (by kernel_rfl) B v n xs r hr0 hr1 w hown hlen hBw
open Go.RowKit in
theorem Tryd.utf8_appendRuneNonASCII_plain (B : Nat) (v : Value) (n : Nat) (xs : List Value) (r : Int) (hr0 : -2147483648 ≤ r) (hr1 : r ≤ 2147483647) (hna : r < 0 ∨ 128 ≤ r) (w : World) (hown : w.ownsRow B 5 1 v n xs) (hlen : n + 4 ≤ 140737488355328) (hBw : B ≤ w.heap.size) :
    Calls Tryd.prog 164 #[v, .int .i32 r] w fun e w' => ∃ v', e = .returned v' ∧ w'.ownsRow B 5 1 v' (n + (Lib.runeCells r).length) (xs ++ Lib.runeCells r) ∧ ∃ o, (w.alloc o).grownBy w' v.ownBlock := Any.utf8_appendRuneNonASCII_plain Tryd.lays278 (by kernel_rfl) B v n xs r hr0 hr1 hna w hown hlen hBw
open Go.RowKit in
theorem Tryd.utf8_AppendRune_plain (B : Nat) (v : Value) (n : Nat) (xs : List Value) (r : Int) (hr0 : -2147483648 ≤ r) (hr1 : r ≤ 2147483647) (w : World) (hown : w.ownsRow B 5 1 v n xs) (hlen : n + 4 ≤ 140737488355328) (hBw : B ≤ w.heap.size) :
    Calls Tryd.prog 143 #[v, .int .i32 r] w fun e w' => ∃ v', e = .returned v' ∧ w'.ownsRow B 5 1 v' (n + (Lib.runeCells r).length) (xs ++ Lib.runeCells r) ∧ ∃ o, (w.alloc o).grownBy w' v.ownBlock := Any.utf8_AppendRune_plain Tryd.lays242 (by kernel_rfl) B v n xs r hr0 hr1 w hown hlen hBw
open Go.RowKit in
theorem Tryd.Builder_grow_fresh_cap (B b n : Nat) (w : World) (hB : B ≤ b) (hbk : w.heap[b]? = some (.cells #[.pointer (some ⟨b, 0, none⟩), .slice none 0 0] 78 (0, 0))) (hBw : B ≤ w.heap.size) (hn : n ≤ 281474976710656) :
    Calls Tryd.prog 124 #[.pointer (some ⟨b, 0, none⟩), .int .i64 n] w fun e w' => e = .returned (.tuple #[]) ∧ (Lib.BuilderAt 78 5 B b (.pointer (some ⟨b, 0, none⟩)) [] w' ∧ Below B w w') ∧ ∃ p cap, w'.cell? ⟨b, 1, none⟩ = some (.slice p 0 cap) ∧ n ≤ cap := Any.Builder_grow_fresh_cap Tryd.lays241 Tryd.Builder_Extra_241 B b n w hB hbk hBw hn
open Go.RowKit in
theorem Tryd.Builder_Grow_fresh_cap (B b n : Nat) (w : World) (hB : B ≤ b) (hbk : w.heap[b]? = some (.cells #[.pointer none, .slice none 0 0] 78 (0, 0))) (hBw : B ≤ w.heap.size) (hn : n ≤ 281474976710656) :
    Calls Tryd.prog 103 #[.pointer (some ⟨b, 0, none⟩), .int .i64 n] w fun e w' => e = .returned (.tuple #[]) ∧ (Lib.BuilderAt 78 5 B b (.pointer (some ⟨b, 0, none⟩)) [] w' ∧ Below B w w') ∧ ∃ p cap, w'.cell? ⟨b, 1, none⟩ = some (.slice p 0 cap) ∧ n ≤ cap := Any.Builder_Grow_fresh_cap Tryd.lays165 Tryd.Builder_Extra_165 B b n w hB hbk hBw hn
def Tryd.lays129_ren : Go.Shelf.Ren := ⟨fun | 129 => 152 | n => n, fun | 53 => 73 | 3 => 3 | 4 => 4 | 46 => 49 | 5 => 5 | 9 => 9 | n => n, fun | n => n⟩
theorem Tryd.lays129 : Go.Proofs.Lays.n129 Tryd.prog Tryd.lays129_ren := {
  mixed := by kernel_rfl
  f129 := Tryd.func152.trans (congrArg some (by kernel_rfl))
  t3 := Tryd.underlying3
  a3 := Tryd.isAgg3
  z3 := Tryd.sizeOf3
  v3 := Tryd.zeroValue3
  t4 := Tryd.underlying4
  a4 := Tryd.isAgg4
  z4 := Tryd.sizeOf4
  v4 := Tryd.zeroValue4
  t5 := Tryd.underlying5
  a5 := Tryd.isAgg5
  z5 := Tryd.sizeOf5
  v5 := Tryd.zeroValue5
  t9 := Tryd.underlying9
  a9 := Tryd.isAgg9
  z9 := Tryd.sizeOf9
  v9 := Tryd.zeroValue9
  t46 := Tryd.underlying49
  a46 := Tryd.isAgg49
  z46 := Tryd.sizeOf49
  v46 := Tryd.zeroValue49
  t53 := Tryd.underlying73
  a53 := Tryd.isAgg73
  z53 := Tryd.sizeOf73
  v53 := Tryd.zeroValue73 }
theorem Tryd.bits_Len64 (x : Int) (w : World) (h0 : 0 ≤ x) (h1 : x ≤ 18446744073709551615) :
    Calls Tryd.prog 152 #[.int .u64 x] w fun e w' => e = .returned (.int .i64 (Lib.bitLen x.toNat)) ∧ w' = w := Any.bits_Len64 Tryd.lays129 x w h0 h1
def Tryd.lays317_ren : Go.Shelf.Ren := ⟨fun | 317 => 151 | n => n, fun | 3 => 3 | 46 => 49 | n => n, fun | n => n⟩
theorem Tryd.lays317 : Go.Proofs.Lays.n317 Tryd.prog Tryd.lays317_ren := {
  mixed := by kernel_rfl
  f317 := Tryd.func151.trans (congrArg some (by kernel_rfl))
  t3 := Tryd.underlying3
  a3 := Tryd.isAgg3
  z3 := Tryd.sizeOf3
  v3 := Tryd.zeroValue3
  t46 := Tryd.underlying49
  a46 := Tryd.isAgg49
  z46 := Tryd.sizeOf49
  v46 := Tryd.zeroValue49 }
open Go.Lib in
theorem Tryd.internal_strconv_log10Pow2 (x : Nat) (h : x ≤ 64) (w : World) :
    Calls Tryd.prog 151 #[.int .i64 x] w fun e w' => e = .returned (.int .i64 (Lib.l10 x)) ∧ w' = w := Any.internal_strconv_log10Pow2 Tryd.lays317 x h w
def Tryd.lays318_ren : Go.Shelf.Ren := ⟨fun | 318 => 153 | n => n, fun | 3 => 3 | 4 => 4 | n => n, fun | n => n⟩
theorem Tryd.lays318 : Go.Proofs.Lays.n318 Tryd.prog Tryd.lays318_ren := {
  mixed := by kernel_rfl
  f318 := Tryd.func153.trans (congrArg some (by kernel_rfl))
  t3 := Tryd.underlying3
  a3 := Tryd.isAgg3
  z3 := Tryd.sizeOf3
  v3 := Tryd.zeroValue3
  t4 := Tryd.underlying4
  a4 := Tryd.isAgg4
  z4 := Tryd.sizeOf4
  v4 := Tryd.zeroValue4 }
open Go.Lib in
theorem Tryd.internal_strconv_bool2_int (b : Bool) (w : World) :
    Calls Tryd.prog 153 #[.bool b] w fun e w' => e = .returned (.int .i64 (if b then 1 else 0)) ∧ w' = w := Any.internal_strconv_bool2_int Tryd.lays318 b w
def Tryd.lays283_ren : Go.Shelf.Ren := ⟨fun | 283 => 129 | n => n, fun | 3 => 3 | 9 => 9 | 4 => 4 | n => n, fun | n => n⟩
theorem Tryd.lays283 : Go.Proofs.Lays.n283 Tryd.prog Tryd.lays283_ren := {
  mixed := by kernel_rfl
  f283 := Tryd.func129.trans (congrArg some (by kernel_rfl))
  t3 := Tryd.underlying3
  a3 := Tryd.isAgg3
  z3 := Tryd.sizeOf3
  v3 := Tryd.zeroValue3
  t4 := Tryd.underlying4
  a4 := Tryd.isAgg4
  z4 := Tryd.sizeOf4
  v4 := Tryd.zeroValue4
  t9 := Tryd.underlying9
  a9 := Tryd.isAgg9
  z9 := Tryd.sizeOf9
  v9 := Tryd.zeroValue9 }
open Go.Lib in
theorem Tryd.internal_strconv_small (i : Nat) (h : i < 100) (w : World) :
    Calls Tryd.prog 129 #[.int .i64 i] w fun e w' => e = .returned (.string ⟨(Lib.decDigits i).toArray⟩) ∧ w' = w := Any.internal_strconv_small Tryd.lays283 i h w
def Tryd.laysM284_ren : Go.Shelf.Ren := ⟨fun | 284 => 130 | 129 => 152 | 317 => 151 | 318 => 153 | n => n, fun | 53 => 73 | 3 => 3 | 212 => 142 | 0 => 0 | 4 => 4 | 46 => 49 | 5 => 5 | 9 => 9 | n => n, fun | 17 => 3 | n => n⟩
theorem Tryd.laysM284 : Go.Proofs.LaysM.n284 Tryd.prog Tryd.laysM284_ren := {
  mixed := by kernel_rfl
  f129 := Tryd.func152.trans (congrArg some (by kernel_rfl))
  f284 := Tryd.func130.trans (congrArg some (by kernel_rfl))
  f317 := Tryd.func151.trans (congrArg some (by kernel_rfl))
  f318 := Tryd.func153.trans (congrArg some (by kernel_rfl))
  t0 := Tryd.underlying0
  a0 := Tryd.isAgg0
  z0 := Tryd.sizeOf0
  v0 := Tryd.zeroValue0
  t3 := Tryd.underlying3
  a3 := Tryd.isAgg3
  z3 := Tryd.sizeOf3
  v3 := Tryd.zeroValue3
  t4 := Tryd.underlying4
  a4 := Tryd.isAgg4
  z4 := Tryd.sizeOf4
  v4 := Tryd.zeroValue4
  t5 := Tryd.underlying5
  a5 := Tryd.isAgg5
  z5 := Tryd.sizeOf5
  v5 := Tryd.zeroValue5
  t9 := Tryd.underlying9
  a9 := Tryd.isAgg9
  z9 := Tryd.sizeOf9
  v9 := Tryd.zeroValue9
  t46 := Tryd.underlying49
  a46 := Tryd.isAgg49
  z46 := Tryd.sizeOf49
  v46 := Tryd.zeroValue49
  t53 := Tryd.underlying73
  a53 := Tryd.isAgg73
  z53 := Tryd.sizeOf73
  v53 := Tryd.zeroValue73
  t212 := Tryd.underlying142
  a212 := Tryd.isAgg142
  z212 := Tryd.sizeOf142
  v212 := Tryd.zeroValue142
  g17 := by kernel_rfl
  i0 := by kernel_rfl
  i3 := by kernel_rfl
  i4 := by kernel_rfl
  i5 := by kernel_rfl
  i9 := by kernel_rfl
  i46 := by kernel_rfl
  i53 := by kernel_rfl
  i212 := by kernel_rfl
  m17 := by kernel_rfl }
open Go.Lib in
theorem Tryd.internal_strconv_numDigits (u : Nat) (h1 : 1 ≤ u) (h2 : u < 18446744073709551616) (w : World) (htab : Lib.TabIs Tryd.prog w "internal/strconv.uint64pow10" .u64 Lib.pow10Tab) :
    Calls Tryd.prog 130 #[.int .u64 u] w fun e w' => e = .returned (.int .i64 (Lib.nDigits u)) ∧ w' = w := Any.internal_strconv_numDigits Tryd.laysM284 u h1 h2 w htab
def Tryd.lays285_ren : Go.Shelf.Ren := ⟨fun | 285 => 131 | n => n, fun | 37 => 66 | 53 => 73 | 3 => 3 | 4 => 4 | 51 => 47 | 9 => 9 | 5 => 5 | 0 => 0 | n => n, fun | n => n⟩
theorem Tryd.lays285 : Go.Proofs.Lays.n285 Tryd.prog Tryd.lays285_ren := {
  mixed := by kernel_rfl
  f285 := Tryd.func131.trans (congrArg some (by kernel_rfl))
  t0 := Tryd.underlying0
  a0 := Tryd.isAgg0
  z0 := Tryd.sizeOf0
  v0 := Tryd.zeroValue0
  t3 := Tryd.underlying3
  a3 := Tryd.isAgg3
  z3 := Tryd.sizeOf3
  v3 := Tryd.zeroValue3
  t4 := Tryd.underlying4
  a4 := Tryd.isAgg4
  z4 := Tryd.sizeOf4
  v4 := Tryd.zeroValue4
  t5 := Tryd.underlying5
  a5 := Tryd.isAgg5
  z5 := Tryd.sizeOf5
  v5 := Tryd.zeroValue5
  t9 := Tryd.underlying9
  a9 := Tryd.isAgg9
  z9 := Tryd.sizeOf9
  v9 := Tryd.zeroValue9
  t37 := Tryd.underlying66
  a37 := Tryd.isAgg66
  z37 := Tryd.sizeOf66
  v37 := Tryd.zeroValue66
  t51 := Tryd.underlying47
  a51 := Tryd.isAgg47
  z51 := Tryd.sizeOf47
  v51 := Tryd.zeroValue47
  t53 := Tryd.underlying73
  a53 := Tryd.isAgg73
  z53 := Tryd.sizeOf73
  v53 := Tryd.zeroValue73 }
open Go.RowKit Go.Sort Go.Lib in
theorem Tryd.internal_strconv_formatBase10 (blk off cap : Nat) (u : Nat) (d : Array UInt8) (w : World) (hH : Holds (fun (b : UInt8) => Value.int .u8 (b.toNat : Int)) w blk off d) (hu : u < 10 ^ d.size) (hu64 : u < 18446744073709551616) (hsz : d.size < 4611686018427387904) :
    Calls Tryd.prog 131 #[.slice (some ⟨blk, off, none⟩) d.size cap, .int .u64 u] w fun e w' =>
      e = .returned (.tuple #[]) ∧ ∃ (n v' : Nat) (dk : Array UInt8), w' = (putRow (fun (b : UInt8) => Value.int .u8 (b.toNat : Int)) w blk off dk).drewN n ∧ FmtInv d.size u 0 v' dk := Any.internal_strconv_formatBase10 Tryd.lays285 blk off cap u d w hH hu hu64 hsz
def Tryd.laysM246_ren : Go.Shelf.Ren := ⟨fun | 246 => 108 | 283 => 129 | 284 => 130 | 285 => 131 | 286 => 132 | 129 => 152 | 317 => 151 | 318 => 153 | 319 => 154 | 320 => 155 | 337 => 165 | 338 => 166 | n => n, fun | 2 => 2 | 3 => 3 | 9 => 9 | 4 => 4 | 171 => 111 | 0 => 0 | 53 => 73 | 37 => 66 | 5 => 5 | 173 => 114 | 212 => 142 | 51 => 47 | 20 => 20 | 213 => 143 | 46 => 49 | 232 => 163 | 233 => 164 | n => n, fun | 17 => 3 | 18 => 8 | 19 => 9 | n => n⟩
theorem Tryd.laysM246 : Go.Proofs.LaysM.n246 Tryd.prog Tryd.laysM246_ren := {
  mixed := by kernel_rfl
  f129 := Tryd.func152.trans (congrArg some (by kernel_rfl))
  f246 := Tryd.func108.trans (congrArg some (by kernel_rfl))
  f283 := Tryd.func129.trans (congrArg some (by kernel_rfl))
  f284 := Tryd.func130.trans (congrArg some (by kernel_rfl))
  f285 := Tryd.func131.trans (congrArg some (by kernel_rfl))
  f286 := Tryd.func132.trans (congrArg some (by kernel_rfl))
  f317 := Tryd.func151.trans (congrArg some (by kernel_rfl))
  f318 := Tryd.func153.trans (congrArg some (by kernel_rfl))
  f319 := Tryd.func154.trans (congrArg some (by kernel_rfl))
  f320 := Tryd.func155.trans (congrArg some (by kernel_rfl))
  f337 := Tryd.func165.trans (congrArg some (by kernel_rfl))
  f338 := Tryd.func166.trans (congrArg some (by kernel_rfl))
  t0 := Tryd.underlying0
  a0 := Tryd.isAgg0
  z0 := Tryd.sizeOf0
  v0 := Tryd.zeroValue0
  t2 := Tryd.underlying2
  a2 := Tryd.isAgg2
  z2 := Tryd.sizeOf2
  v2 := Tryd.zeroValue2
  t3 := Tryd.underlying3
  a3 := Tryd.isAgg3
  z3 := Tryd.sizeOf3
  v3 := Tryd.zeroValue3
  t4 := Tryd.underlying4
  a4 := Tryd.isAgg4
  z4 := Tryd.sizeOf4
  v4 := Tryd.zeroValue4
  t5 := Tryd.underlying5
  a5 := Tryd.isAgg5
  z5 := Tryd.sizeOf5
  v5 := Tryd.zeroValue5
  t9 := Tryd.underlying9
  a9 := Tryd.isAgg9
  z9 := Tryd.sizeOf9
  v9 := Tryd.zeroValue9
  t20 := Tryd.underlying20
  a20 := Tryd.isAgg20
  z20 := Tryd.sizeOf20
  v20 := Tryd.zeroValue20
  t37 := Tryd.underlying66
  a37 := Tryd.isAgg66
  z37 := Tryd.sizeOf66
  v37 := Tryd.zeroValue66
  t46 := Tryd.underlying49
  a46 := Tryd.isAgg49
  z46 := Tryd.sizeOf49
  v46 := Tryd.zeroValue49
  t51 := Tryd.underlying47
  a51 := Tryd.isAgg47
  z51 := Tryd.sizeOf47
  v51 := Tryd.zeroValue47
  t53 := Tryd.underlying73
  a53 := Tryd.isAgg73
  z53 := Tryd.sizeOf73
  v53 := Tryd.zeroValue73
  t171 := Tryd.underlying111
  a171 := Tryd.isAgg111
  z171 := Tryd.sizeOf111
  v171 := Tryd.zeroValue111
  t173 := Tryd.underlying114
  a173 := Tryd.isAgg114
  z173 := Tryd.sizeOf114
  v173 := Tryd.zeroValue114
  t212 := Tryd.underlying142
  a212 := Tryd.isAgg142
  z212 := Tryd.sizeOf142
  v212 := Tryd.zeroValue142
  t213 := Tryd.underlying143
  a213 := Tryd.isAgg143
  z213 := Tryd.sizeOf143
  t232 := Tryd.underlying163
  a232 := Tryd.isAgg163
  z232 := Tryd.sizeOf163
  v232 := Tryd.zeroValue163
  t233 := Tryd.underlying164
  a233 := Tryd.isAgg164
  z233 := Tryd.sizeOf164
  v233 := Tryd.zeroValue164
  g17 := by kernel_rfl
  g18 := by kernel_rfl
  g19 := by kernel_rfl
  i0 := by kernel_rfl
  i2 := by kernel_rfl
  i3 := by kernel_rfl
  i4 := by kernel_rfl
  i5 := by kernel_rfl
  i9 := by kernel_rfl
  i20 := by kernel_rfl
  i37 := by kernel_rfl
  i46 := by kernel_rfl
  i51 := by kernel_rfl
  i53 := by kernel_rfl
  i171 := by kernel_rfl
  i173 := by kernel_rfl
  i212 := by kernel_rfl
  i232 := by kernel_rfl
  i233 := by kernel_rfl
  m17 := by kernel_rfl
  m18 := by kernel_rfl
  m19 := by kernel_rfl }
open Go.RowKit Go.Sort Go.Lib in
theorem Tryd.internal_strconv_FormatInt_10 (n : Int) (h0 : -9223372036854775808 ≤ n) (h1 : n ≤ 9223372036854775807) (w : World) (htab : Lib.TabIs Tryd.prog w "internal/strconv.uint64pow10" .u64 Lib.pow10Tab) :
    Calls Tryd.prog 108 #[.int .i64 n, .int .i64 10] w fun e w' => e = .returned (.string ⟨(Lib.itoa n).toArray⟩) ∧ ∃ k os, w' = grow (w.drewN k) os := Any.internal_strconv_FormatInt_10 Tryd.laysM246 n h0 h1 w htab
def Tryd.lays246_ren : Go.Shelf.Ren := ⟨fun | 246 => 108 | 283 => 129 | 284 => 130 | 285 => 131 | 286 => 132 | 129 => 152 | 317 => 151 | 318 => 153 | 319 => 154 | 320 => 155 | 337 => 165 | 338 => 166 | n => n, fun | 2 => 2 | 3 => 3 | 9 => 9 | 4 => 4 | 171 => 111 | 0 => 0 | 53 => 73 | 37 => 66 | 5 => 5 | 173 => 114 | 212 => 142 | 51 => 47 | 20 => 20 | 213 => 143 | 46 => 49 | 232 => 163 | 233 => 164 | n => n, fun | 17 => 3 | 18 => 8 | 19 => 9 | n => n⟩
theorem Tryd.lays246 : Go.Proofs.Lays.n246 Tryd.prog Tryd.lays246_ren := {
  mixed := by kernel_rfl
  f129 := Tryd.func152.trans (congrArg some (by kernel_rfl))
  f246 := Tryd.func108.trans (congrArg some (by kernel_rfl))
  f283 := Tryd.func129.trans (congrArg some (by kernel_rfl))
  f284 := Tryd.func130.trans (congrArg some (by kernel_rfl))
  f285 := Tryd.func131.trans (congrArg some (by kernel_rfl))
  f286 := Tryd.func132.trans (congrArg some (by kernel_rfl))
  f317 := Tryd.func151.trans (congrArg some (by kernel_rfl))
  f318 := Tryd.func153.trans (congrArg some (by kernel_rfl))
  f319 := Tryd.func154.trans (congrArg some (by kernel_rfl))
  f320 := Tryd.func155.trans (congrArg some (by kernel_rfl))
  f337 := Tryd.func165.trans (congrArg some (by kernel_rfl))
  f338 := Tryd.func166.trans (congrArg some (by kernel_rfl))
  t0 := Tryd.underlying0
  a0 := Tryd.isAgg0
  z0 := Tryd.sizeOf0
  v0 := Tryd.zeroValue0
  t2 := Tryd.underlying2
  a2 := Tryd.isAgg2
  z2 := Tryd.sizeOf2
  v2 := Tryd.zeroValue2
  t3 := Tryd.underlying3
  a3 := Tryd.isAgg3
  z3 := Tryd.sizeOf3
  v3 := Tryd.zeroValue3
  t4 := Tryd.underlying4
  a4 := Tryd.isAgg4
  z4 := Tryd.sizeOf4
  v4 := Tryd.zeroValue4
  t5 := Tryd.underlying5
  a5 := Tryd.isAgg5
  z5 := Tryd.sizeOf5
  v5 := Tryd.zeroValue5
  t9 := Tryd.underlying9
  a9 := Tryd.isAgg9
  z9 := Tryd.sizeOf9
  v9 := Tryd.zeroValue9
  t20 := Tryd.underlying20
  a20 := Tryd.isAgg20
  z20 := Tryd.sizeOf20
  v20 := Tryd.zeroValue20
  t37 := Tryd.underlying66
  a37 := Tryd.isAgg66
  z37 := Tryd.sizeOf66
  v37 := Tryd.zeroValue66
  t46 := Tryd.underlying49
  a46 := Tryd.isAgg49
  z46 := Tryd.sizeOf49
  v46 := Tryd.zeroValue49
  t51 := Tryd.underlying47
  a51 := Tryd.isAgg47
  z51 := Tryd.sizeOf47
  v51 := Tryd.zeroValue47
  t53 := Tryd.underlying73
  a53 := Tryd.isAgg73
  z53 := Tryd.sizeOf73
  v53 := Tryd.zeroValue73
  t171 := Tryd.underlying111
  a171 := Tryd.isAgg111
  z171 := Tryd.sizeOf111
  v171 := Tryd.zeroValue111
  t173 := Tryd.underlying114
  a173 := Tryd.isAgg114
  z173 := Tryd.sizeOf114
  v173 := Tryd.zeroValue114
  t212 := Tryd.underlying142
  a212 := Tryd.isAgg142
  z212 := Tryd.sizeOf142
  v212 := Tryd.zeroValue142
  t213 := Tryd.underlying143
  a213 := Tryd.isAgg143
  z213 := Tryd.sizeOf143
  t232 := Tryd.underlying163
  a232 := Tryd.isAgg163
  z232 := Tryd.sizeOf163
  v232 := Tryd.zeroValue163
  t233 := Tryd.underlying164
  a233 := Tryd.isAgg164
  z233 := Tryd.sizeOf164
  v233 := Tryd.zeroValue164
  g17 := by kernel_rfl
  g18 := by kernel_rfl
  g19 := by kernel_rfl }
open Go.RowKit Go.Sort Go.Lib in
theorem Tryd.internal_strconv_FormatInt_10_small (i : Nat) (hi : i < 100) (w : World) :
    Calls Tryd.prog 108 #[.int .i64 i, .int .i64 10] w fun e w' => e = .returned (.string ⟨(Lib.decDigits i).toArray⟩) ∧ w' = w := Any.internal_strconv_FormatInt_10_small Tryd.lays246 i hi w
def Tryd.laysM243_ren : Go.Shelf.Ren := ⟨fun | 243 => 156 | 246 => 108 | 283 => 129 | 284 => 130 | 285 => 131 | 286 => 132 | 129 => 152 | 317 => 151 | 318 => 153 | 319 => 154 | 320 => 155 | 337 => 165 | 338 => 166 | n => n, fun | 3 => 3 | 9 => 9 | 2 => 2 | 4 => 4 | 171 => 111 | 0 => 0 | 53 => 73 | 37 => 66 | 5 => 5 | 173 => 114 | 212 => 142 | 51 => 47 | 20 => 20 | 213 => 143 | 46 => 49 | 232 => 163 | 233 => 164 | n => n, fun | 17 => 3 | 18 => 8 | 19 => 9 | n => n⟩
theorem Tryd.laysM243 : Go.Proofs.LaysM.n243 Tryd.prog Tryd.laysM243_ren := {
  mixed := by kernel_rfl
  f129 := Tryd.func152.trans (congrArg some (by kernel_rfl))
  f243 := Tryd.func156.trans (congrArg some (by kernel_rfl))
  f246 := Tryd.func108.trans (congrArg some (by kernel_rfl))
  f283 := Tryd.func129.trans (congrArg some (by kernel_rfl))
  f284 := Tryd.func130.trans (congrArg some (by kernel_rfl))
  f285 := Tryd.func131.trans (congrArg some (by kernel_rfl))
  f286 := Tryd.func132.trans (congrArg some (by kernel_rfl))
  f317 := Tryd.func151.trans (congrArg some (by kernel_rfl))
  f318 := Tryd.func153.trans (congrArg some (by kernel_rfl))
  f319 := Tryd.func154.trans (congrArg some (by kernel_rfl))
  f320 := Tryd.func155.trans (congrArg some (by kernel_rfl))
  f337 := Tryd.func165.trans (congrArg some (by kernel_rfl))
  f338 := Tryd.func166.trans (congrArg some (by kernel_rfl))
  t0 := Tryd.underlying0
  a0 := Tryd.isAgg0
  z0 := Tryd.sizeOf0
  v0 := Tryd.zeroValue0
  t2 := Tryd.underlying2
  a2 := Tryd.isAgg2
  z2 := Tryd.sizeOf2
  v2 := Tryd.zeroValue2
  t3 := Tryd.underlying3
  a3 := Tryd.isAgg3
  z3 := Tryd.sizeOf3
  v3 := Tryd.zeroValue3
  t4 := Tryd.underlying4
  a4 := Tryd.isAgg4
  z4 := Tryd.sizeOf4
  v4 := Tryd.zeroValue4
  t5 := Tryd.underlying5
  a5 := Tryd.isAgg5
  z5 := Tryd.sizeOf5
  v5 := Tryd.zeroValue5
  t9 := Tryd.underlying9
  a9 := Tryd.isAgg9
  z9 := Tryd.sizeOf9
  v9 := Tryd.zeroValue9
  t20 := Tryd.underlying20
  a20 := Tryd.isAgg20
  z20 := Tryd.sizeOf20
  v20 := Tryd.zeroValue20
  t37 := Tryd.underlying66
  a37 := Tryd.isAgg66
  z37 := Tryd.sizeOf66
  v37 := Tryd.zeroValue66
  t46 := Tryd.underlying49
  a46 := Tryd.isAgg49
  z46 := Tryd.sizeOf49
  v46 := Tryd.zeroValue49
  t51 := Tryd.underlying47
  a51 := Tryd.isAgg47
  z51 := Tryd.sizeOf47
  v51 := Tryd.zeroValue47
  t53 := Tryd.underlying73
  a53 := Tryd.isAgg73
  z53 := Tryd.sizeOf73
  v53 := Tryd.zeroValue73
  t171 := Tryd.underlying111
  a171 := Tryd.isAgg111
  z171 := Tryd.sizeOf111
  v171 := Tryd.zeroValue111
  t173 := Tryd.underlying114
  a173 := Tryd.isAgg114
  z173 := Tryd.sizeOf114
  v173 := Tryd.zeroValue114
  t212 := Tryd.underlying142
  a212 := Tryd.isAgg142
  z212 := Tryd.sizeOf142
  v212 := Tryd.zeroValue142
  t213 := Tryd.underlying143
  a213 := Tryd.isAgg143
  z213 := Tryd.sizeOf143
  t232 := Tryd.underlying163
  a232 := Tryd.isAgg163
  z232 := Tryd.sizeOf163
  v232 := Tryd.zeroValue163
  t233 := Tryd.underlying164
  a233 := Tryd.isAgg164
  z233 := Tryd.sizeOf164
  v233 := Tryd.zeroValue164
  g17 := by kernel_rfl
  g18 := by kernel_rfl
  g19 := by kernel_rfl
  i0 := by kernel_rfl
  i2 := by kernel_rfl
  i3 := by kernel_rfl
  i4 := by kernel_rfl
  i5 := by kernel_rfl
  i9 := by kernel_rfl
  i20 := by kernel_rfl
  i37 := by kernel_rfl
  i46 := by kernel_rfl
  i51 := by kernel_rfl
  i53 := by kernel_rfl
  i171 := by kernel_rfl
  i173 := by kernel_rfl
  i212 := by kernel_rfl
  i232 := by kernel_rfl
  i233 := by kernel_rfl
  m17 := by kernel_rfl
  m18 := by kernel_rfl
  m19 := by kernel_rfl }
open Go.RowKit Go.Sort Go.Lib in
theorem Tryd.internal_strconv_Itoa (n : Int) (h0 : -9223372036854775808 ≤ n) (h1 : n ≤ 9223372036854775807) (w : World) (htab : Lib.TabIs Tryd.prog w "internal/strconv.uint64pow10" .u64 Lib.pow10Tab) :
    Calls Tryd.prog 156 #[.int .i64 n] w fun e w' => e = .returned (.string ⟨(Lib.itoa n).toArray⟩) ∧ ∃ k os, w' = grow (w.drewN k) os := Any.internal_strconv_Itoa Tryd.laysM243 n h0 h1 w htab
def Tryd.lays243_ren : Go.Shelf.Ren := ⟨fun | 243 => 156 | 246 => 108 | 283 => 129 | 284 => 130 | 285 => 131 | 286 => 132 | 129 => 152 | 317 => 151 | 318 => 153 | 319 => 154 | 320 => 155 | 337 => 165 | 338 => 166 | n => n, fun | 3 => 3 | 9 => 9 | 2 => 2 | 4 => 4 | 171 => 111 | 0 => 0 | 53 => 73 | 37 => 66 | 5 => 5 | 173 => 114 | 212 => 142 | 51 => 47 | 20 => 20 | 213 => 143 | 46 => 49 | 232 => 163 | 233 => 164 | n => n, fun | 17 => 3 | 18 => 8 | 19 => 9 | n => n⟩
theorem Tryd.lays243 : Go.Proofs.Lays.n243 Tryd.prog Tryd.lays243_ren := {
  mixed := by kernel_rfl
  f129 := Tryd.func152.trans (congrArg some (by kernel_rfl))
  f243 := Tryd.func156.trans (congrArg some (by kernel_rfl))
  f246 := Tryd.func108.trans (congrArg some (by kernel_rfl))
  f283 := Tryd.func129.trans (congrArg some (by kernel_rfl))
  f284 := Tryd.func130.trans (congrArg some (by kernel_rfl))
  f285 := Tryd.func131.trans (congrArg some (by kernel_rfl))
  f286 := Tryd.func132.trans (congrArg some (by kernel_rfl))
  f317 := Tryd.func151.trans (congrArg some (by kernel_rfl))
  f318 := Tryd.func153.trans (congrArg some (by kernel_rfl))
  f319 := Tryd.func154.trans (congrArg some (by kernel_rfl))
  f320 := Tryd.func155.trans (congrArg some (by kernel_rfl))
  f337 := Tryd.func165.trans (congrArg some (by kernel_rfl))
  f338 := Tryd.func166.trans (congrArg some (by kernel_rfl))
  t0 := Tryd.underlying0
  a0 := Tryd.isAgg0
  z0 := Tryd.sizeOf0
  v0 := Tryd.zeroValue0
  t2 := Tryd.underlying2
  a2 := Tryd.isAgg2
  z2 := Tryd.sizeOf2
  v2 := Tryd.zeroValue2
  t3 := Tryd.underlying3
  a3 := Tryd.isAgg3
  z3 := Tryd.sizeOf3
  v3 := Tryd.zeroValue3
  t4 := Tryd.underlying4
  a4 := Tryd.isAgg4
  z4 := Tryd.sizeOf4
  v4 := Tryd.zeroValue4
  t5 := Tryd.underlying5
  a5 := Tryd.isAgg5
  z5 := Tryd.sizeOf5
  v5 := Tryd.zeroValue5
  t9 := Tryd.underlying9
  a9 := Tryd.isAgg9
  z9 := Tryd.sizeOf9
  v9 := Tryd.zeroValue9
  t20 := Tryd.underlying20
  a20 := Tryd.isAgg20
  z20 := Tryd.sizeOf20
  v20 := Tryd.zeroValue20
  t37 := Tryd.underlying66
  a37 := Tryd.isAgg66
  z37 := Tryd.sizeOf66
  v37 := Tryd.zeroValue66
  t46 := Tryd.underlying49
  a46 := Tryd.isAgg49
  z46 := Tryd.sizeOf49
  v46 := Tryd.zeroValue49
  t51 := Tryd.underlying47
  a51 := Tryd.isAgg47
  z51 := Tryd.sizeOf47
  v51 := Tryd.zeroValue47
  t53 := Tryd.underlying73
  a53 := Tryd.isAgg73
  z53 := Tryd.sizeOf73
  v53 := Tryd.zeroValue73
  t171 := Tryd.underlying111
  a171 := Tryd.isAgg111
  z171 := Tryd.sizeOf111
  v171 := Tryd.zeroValue111
  t173 := Tryd.underlying114
  a173 := Tryd.isAgg114
  z173 := Tryd.sizeOf114
  v173 := Tryd.zeroValue114
  t212 := Tryd.underlying142
  a212 := Tryd.isAgg142
  z212 := Tryd.sizeOf142
  v212 := Tryd.zeroValue142
  t213 := Tryd.underlying143
  a213 := Tryd.isAgg143
  z213 := Tryd.sizeOf143
  t232 := Tryd.underlying163
  a232 := Tryd.isAgg163
  z232 := Tryd.sizeOf163
  v232 := Tryd.zeroValue163
  t233 := Tryd.underlying164
  a233 := Tryd.isAgg164
  z233 := Tryd.sizeOf164
  v233 := Tryd.zeroValue164
  g17 := by kernel_rfl
  g18 := by kernel_rfl
  g19 := by kernel_rfl }
open Go.RowKit Go.Sort Go.Lib in
theorem Tryd.internal_strconv_Itoa_small (i : Nat) (hi : i < 100) (w : World) :
    Calls Tryd.prog 156 #[.int .i64 i] w fun e w' => e = .returned (.string ⟨(Lib.decDigits i).toArray⟩) ∧ w' = w := Any.internal_strconv_Itoa_small Tryd.lays243 i hi w
def Tryd.laysM171_ren : Go.Shelf.Ren := ⟨fun | 171 => 133 | 243 => 156 | 246 => 108 | 283 => 129 | 284 => 130 | 285 => 131 | 286 => 132 | 129 => 152 | 317 => 151 | 318 => 153 | 319 => 154 | 320 => 155 | 337 => 165 | 338 => 166 | n => n, fun | 3 => 3 | 9 => 9 | 2 => 2 | 4 => 4 | 171 => 111 | 0 => 0 | 53 => 73 | 37 => 66 | 5 => 5 | 173 => 114 | 212 => 142 | 51 => 47 | 20 => 20 | 213 => 143 | 46 => 49 | 232 => 163 | 233 => 164 | n => n, fun | 17 => 3 | 18 => 8 | 19 => 9 | n => n⟩
theorem Tryd.laysM171 : Go.Proofs.LaysM.n171 Tryd.prog Tryd.laysM171_ren := {
  mixed := by kernel_rfl
  f129 := Tryd.func152.trans (congrArg some (by kernel_rfl))
  f171 := Tryd.func133.trans (congrArg some (by kernel_rfl))
  f243 := Tryd.func156.trans (congrArg some (by kernel_rfl))
  f246 := Tryd.func108.trans (congrArg some (by kernel_rfl))
  f283 := Tryd.func129.trans (congrArg some (by kernel_rfl))
  f284 := Tryd.func130.trans (congrArg some (by kernel_rfl))
  f285 := Tryd.func131.trans (congrArg some (by kernel_rfl))
  f286 := Tryd.func132.trans (congrArg some (by kernel_rfl))
  f317 := Tryd.func151.trans (congrArg some (by kernel_rfl))
  f318 := Tryd.func153.trans (congrArg some (by kernel_rfl))
  f319 := Tryd.func154.trans (congrArg some (by kernel_rfl))
  f320 := Tryd.func155.trans (congrArg some (by kernel_rfl))
  f337 := Tryd.func165.trans (congrArg some (by kernel_rfl))
  f338 := Tryd.func166.trans (congrArg some (by kernel_rfl))
  t0 := Tryd.underlying0
  a0 := Tryd.isAgg0
  z0 := Tryd.sizeOf0
  v0 := Tryd.zeroValue0
  t2 := Tryd.underlying2
  a2 := Tryd.isAgg2
  z2 := Tryd.sizeOf2
  v2 := Tryd.zeroValue2
  t3 := Tryd.underlying3
  a3 := Tryd.isAgg3
  z3 := Tryd.sizeOf3
  v3 := Tryd.zeroValue3
  t4 := Tryd.underlying4
  a4 := Tryd.isAgg4
  z4 := Tryd.sizeOf4
  v4 := Tryd.zeroValue4
  t5 := Tryd.underlying5
  a5 := Tryd.isAgg5
  z5 := Tryd.sizeOf5
  v5 := Tryd.zeroValue5
  t9 := Tryd.underlying9
  a9 := Tryd.isAgg9
  z9 := Tryd.sizeOf9
  v9 := Tryd.zeroValue9
  t20 := Tryd.underlying20
  a20 := Tryd.isAgg20
  z20 := Tryd.sizeOf20
  v20 := Tryd.zeroValue20
  t37 := Tryd.underlying66
  a37 := Tryd.isAgg66
  z37 := Tryd.sizeOf66
  v37 := Tryd.zeroValue66
  t46 := Tryd.underlying49
  a46 := Tryd.isAgg49
  z46 := Tryd.sizeOf49
  v46 := Tryd.zeroValue49
  t51 := Tryd.underlying47
  a51 := Tryd.isAgg47
  z51 := Tryd.sizeOf47
  v51 := Tryd.zeroValue47
  t53 := Tryd.underlying73
  a53 := Tryd.isAgg73
  z53 := Tryd.sizeOf73
  v53 := Tryd.zeroValue73
  t171 := Tryd.underlying111
  a171 := Tryd.isAgg111
  z171 := Tryd.sizeOf111
  v171 := Tryd.zeroValue111
  t173 := Tryd.underlying114
  a173 := Tryd.isAgg114
  z173 := Tryd.sizeOf114
  v173 := Tryd.zeroValue114
  t212 := Tryd.underlying142
  a212 := Tryd.isAgg142
  z212 := Tryd.sizeOf142
  v212 := Tryd.zeroValue142
  t213 := Tryd.underlying143
  a213 := Tryd.isAgg143
  z213 := Tryd.sizeOf143
  t232 := Tryd.underlying163
  a232 := Tryd.isAgg163
  z232 := Tryd.sizeOf163
  v232 := Tryd.zeroValue163
  t233 := Tryd.underlying164
  a233 := Tryd.isAgg164
  z233 := Tryd.sizeOf164
  v233 := Tryd.zeroValue164
  g17 := by kernel_rfl
  g18 := by kernel_rfl
  g19 := by kernel_rfl
  i0 := by kernel_rfl
  i2 := by kernel_rfl
  i3 := by kernel_rfl
  i4 := by kernel_rfl
  i5 := by kernel_rfl
  i9 := by kernel_rfl
  i20 := by kernel_rfl
  i37 := by kernel_rfl
  i46 := by kernel_rfl
  i51 := by kernel_rfl
  i53 := by kernel_rfl
  i171 := by kernel_rfl
  i173 := by kernel_rfl
  i212 := by kernel_rfl
  i232 := by kernel_rfl
  i233 := by kernel_rfl
  m17 := by kernel_rfl
  m18 := by kernel_rfl
  m19 := by kernel_rfl }
open Go.RowKit Go.Sort Go.Lib in
theorem Tryd.strconv_Itoa (n : Int) (h0 : -9223372036854775808 ≤ n) (h1 : n ≤ 9223372036854775807) (w : World) (htab : Lib.TabIs Tryd.prog w "internal/strconv.uint64pow10" .u64 Lib.pow10Tab) :
    Calls Tryd.prog 133 #[.int .i64 n] w fun e w' => e = .returned (.string ⟨(Lib.itoa n).toArray⟩) ∧ ∃ k os, w' = grow (w.drewN k) os := Any.strconv_Itoa Tryd.laysM171 n h0 h1 w htab
def Tryd.lays171_ren : Go.Shelf.Ren := ⟨fun | 171 => 133 | 243 => 156 | 246 => 108 | 283 => 129 | 284 => 130 | 285 => 131 | 286 => 132 | 129 => 152 | 317 => 151 | 318 => 153 | 319 => 154 | 320 => 155 | 337 => 165 | 338 => 166 | n => n, fun | 3 => 3 | 9 => 9 | 2 => 2 | 4 => 4 | 171 => 111 | 0 => 0 | 53 => 73 | 37 => 66 | 5 => 5 | 173 => 114 | 212 => 142 | 51 => 47 | 20 => 20 | 213 => 143 | 46 => 49 | 232 => 163 | 233 => 164 | n => n, fun | 17 => 3 | 18 => 8 | 19 => 9 | n => n⟩
theorem Tryd.lays171 : Go.Proofs.Lays.n171 Tryd.prog Tryd.lays171_ren := {
  mixed := by kernel_rfl
  f129 := Tryd.func152.trans (congrArg some (by kernel_rfl))
  f171 := Tryd.func133.trans (congrArg some (by kernel_rfl))
  f243 := Tryd.func156.trans (congrArg some (by kernel_rfl))
  f246 := Tryd.func108.trans (congrArg some (by kernel_rfl))
  f283 := Tryd.func129.trans (congrArg some (by kernel_rfl))
  f284 := Tryd.func130.trans (congrArg some (by kernel_rfl))
  f285 := Tryd.func131.trans (congrArg some (by kernel_rfl))
  f286 := Tryd.func132.trans (congrArg some (by kernel_rfl))
  f317 := Tryd.func151.trans (congrArg some (by kernel_rfl))
  f318 := Tryd.func153.trans (congrArg some (by kernel_rfl))
  f319 := Tryd.func154.trans (congrArg some (by kernel_rfl))
  f320 := Tryd.func155.trans (congrArg some (by kernel_rfl))
  f337 := Tryd.func165.trans (congrArg some (by kernel_rfl))
  f338 := Tryd.func166.trans (congrArg some (by kernel_rfl))
  t0 := Tryd.underlying0
  a0 := Tryd.isAgg0
  z0 := Tryd.sizeOf0
  v0 := Tryd.zeroValue0
  t2 := Tryd.underlying2
  a2 := Tryd.isAgg2
  z2 := Tryd.sizeOf2
  v2 := Tryd.zeroValue2
  t3 := Tryd.underlying3
  a3 := Tryd.isAgg3
  z3 := Tryd.sizeOf3
  v3 := Tryd.zeroValue3
  t4 := Tryd.underlying4
  a4 := Tryd.isAgg4
  z4 := Tryd.sizeOf4
  v4 := Tryd.zeroValue4
  t5 := Tryd.underlying5
  a5 := Tryd.isAgg5
  z5 := Tryd.sizeOf5
  v5 := Tryd.zeroValue5
  t9 := Tryd.underlying9
  a9 := Tryd.isAgg9
  z9 := Tryd.sizeOf9
  v9 := Tryd.zeroValue9
  t20 := Tryd.underlying20
  a20 := Tryd.isAgg20
  z20 := Tryd.sizeOf20
  v20 := Tryd.zeroValue20
  t37 := Tryd.underlying66
  a37 := Tryd.isAgg66
  z37 := Tryd.sizeOf66
  v37 := Tryd.zeroValue66
  t46 := Tryd.underlying49
  a46 := Tryd.isAgg49
  z46 := Tryd.sizeOf49
  v46 := Tryd.zeroValue49
  t51 := Tryd.underlying47
  a51 := Tryd.isAgg47
  z51 := Tryd.sizeOf47
  v51 := Tryd.zeroValue47
  t53 := Tryd.underlying73
  a53 := Tryd.isAgg73
  z53 := Tryd.sizeOf73
  v53 := Tryd.zeroValue73
  t171 := Tryd.underlying111
  a171 := Tryd.isAgg111
  z171 := Tryd.sizeOf111
  v171 := Tryd.zeroValue111
  t173 := Tryd.underlying114
  a173 := Tryd.isAgg114
  z173 := Tryd.sizeOf114
  v173 := Tryd.zeroValue114
  t212 := Tryd.underlying142
  a212 := Tryd.isAgg142
  z212 := Tryd.sizeOf142
  v212 := Tryd.zeroValue142
  t213 := Tryd.underlying143
  a213 := Tryd.isAgg143
  z213 := Tryd.sizeOf143
  t232 := Tryd.underlying163
  a232 := Tryd.isAgg163
  z232 := Tryd.sizeOf163
  v232 := Tryd.zeroValue163
  t233 := Tryd.underlying164
  a233 := Tryd.isAgg164
  z233 := Tryd.sizeOf164
  v233 := Tryd.zeroValue164
  g17 := by kernel_rfl
  g18 := by kernel_rfl
  g19 := by kernel_rfl }
open Go.RowKit Go.Sort Go.Lib in
theorem Tryd.strconv_Itoa_small (i : Nat) (hi : i < 100) (w : World) :
    Calls Tryd.prog 133 #[.int .i64 i] w fun e w' => e = .returned (.string ⟨(Lib.decDigits i).toArray⟩) ∧ w' = w := Any.strconv_Itoa_small Tryd.lays171 i hi w
def Tryd.laysM181_ren : Go.Shelf.Ren := ⟨fun | 181 => 161 | n => n, fun | 130 => 119 | 3 => 3 | 0 => 0 | 93 => 96 | 37 => 66 | 91 => 94 | 5 => 5 | n => n, fun | n => n⟩
theorem Tryd.laysM181 : Go.Proofs.LaysM.n181 Tryd.prog Tryd.laysM181_ren := {
  mixed := by kernel_rfl
  f181 := Tryd.func161.trans (congrArg some (by kernel_rfl))
  t0 := Tryd.underlying0
  a0 := Tryd.isAgg0
  z0 := Tryd.sizeOf0
  v0 := Tryd.zeroValue0
  t3 := Tryd.underlying3
  a3 := Tryd.isAgg3
  z3 := Tryd.sizeOf3
  v3 := Tryd.zeroValue3
  t37 := Tryd.underlying66
  a37 := Tryd.isAgg66
  z37 := Tryd.sizeOf66
  v37 := Tryd.zeroValue66
  t93 := Tryd.underlying96
  a93 := Tryd.isAgg96
  z93 := Tryd.sizeOf96
  v93 := Tryd.zeroValue96
  t130 := Tryd.underlying119
  a130 := Tryd.isAgg119
  z130 := Tryd.sizeOf119
  v130 := Tryd.zeroValue119
  t5 := Tryd.underlying5
  a5 := Tryd.isAgg5
  z5 := Tryd.sizeOf5
  v5 := Tryd.zeroValue5
  t91 := Tryd.underlying94
  a91 := Tryd.isAgg94
  z91 := Tryd.sizeOf94
  v91 := Tryd.zeroValue94
  i0 := by kernel_rfl
  i3 := by kernel_rfl
  i5 := by kernel_rfl
  i37 := by kernel_rfl
  i91 := by kernel_rfl
  i93 := by kernel_rfl
  i130 := by kernel_rfl }
open Go.RowKit in
theorem Tryd.Buffer_Len (B b : Nat) (bs : List Value) (w : World) (h : Lib.IsBuffer 96 5 B b bs w) :
    Calls Tryd.prog 161 #[.pointer (some ⟨b, 0, none⟩)] w fun e w' => e = .returned (.int .i64 bs.length) ∧ ∃ n, w' = w.drewN n := Any.Buffer_Len Tryd.laysM181 B b bs w h
def Tryd.laysM251_ren : Go.Shelf.Ren := ⟨fun | 251 => 140 | n => n, fun | 130 => 119 | 3 => 3 | 4 => 4 | 0 => 0 | 93 => 96 | 37 => 66 | 91 => 94 | 5 => 5 | n => n, fun | n => n⟩
theorem Tryd.laysM251 : Go.Proofs.LaysM.n251 Tryd.prog Tryd.laysM251_ren := {
  mixed := by kernel_rfl
  f251 := Tryd.func140.trans (congrArg some (by kernel_rfl))
  t0 := Tryd.underlying0
  a0 := Tryd.isAgg0
  z0 := Tryd.sizeOf0
  v0 := Tryd.zeroValue0
  t3 := Tryd.underlying3
  a3 := Tryd.isAgg3
  z3 := Tryd.sizeOf3
  v3 := Tryd.zeroValue3
  t4 := Tryd.underlying4
  a4 := Tryd.isAgg4
  z4 := Tryd.sizeOf4
  v4 := Tryd.zeroValue4
  t37 := Tryd.underlying66
  a37 := Tryd.isAgg66
  z37 := Tryd.sizeOf66
  v37 := Tryd.zeroValue66
  t93 := Tryd.underlying96
  a93 := Tryd.isAgg96
  z93 := Tryd.sizeOf96
  v93 := Tryd.zeroValue96
  t130 := Tryd.underlying119
  a130 := Tryd.isAgg119
  z130 := Tryd.sizeOf119
  v130 := Tryd.zeroValue119
  t5 := Tryd.underlying5
  a5 := Tryd.isAgg5
  z5 := Tryd.sizeOf5
  v5 := Tryd.zeroValue5
  t91 := Tryd.underlying94
  a91 := Tryd.isAgg94
  z91 := Tryd.sizeOf94
  v91 := Tryd.zeroValue94
  i0 := by kernel_rfl
  i3 := by kernel_rfl
  i4 := by kernel_rfl
  i5 := by kernel_rfl
  i37 := by kernel_rfl
  i91 := by kernel_rfl
  i93 := by kernel_rfl
  i130 := by kernel_rfl }
open Go.RowKit in
theorem Tryd.Buffer_tryGrow_room (b : Nat) (ao : Option Addr) (l cap n : Nat) (w : World) (c0 : w.cell? ⟨b, 0, none⟩ = some (.slice ao l cap)) (f0 : w.frozen? ⟨b, 0, none⟩ = false) (hlc : l ≤ cap) (hcap : cap ≤ maxLen) (hn : n ≤ cap - l) :
    Calls Tryd.prog 140 #[.pointer (some ⟨b, 0, none⟩), .int .i64 n] w fun e w' => e = .returned (.tuple #[.int .i64 l, .bool true]) ∧ w' = w.setCell ⟨b, 0, none⟩ (.slice ao (l + n) cap) := Any.Buffer_tryGrow_room Tryd.laysM251 b ao l cap n w c0 f0 hlc hcap hn
open Go.RowKit in
theorem Tryd.Buffer_tryGrow_none (b : Nat) (ao : Option Addr) (l cap n : Nat) (w : World) (c0 : w.cell? ⟨b, 0, none⟩ = some (.slice ao l cap)) (hlc : l ≤ cap) (hcap : cap ≤ maxLen) (hn : cap - l < n) :
    Calls Tryd.prog 140 #[.pointer (some ⟨b, 0, none⟩), .int .i64 n] w fun e w' => e = .returned (.tuple #[.int .i64 0, .bool false]) ∧ w' = w := Any.Buffer_tryGrow_none Tryd.laysM251 b ao l cap n w c0 hlc hcap hn
def Tryd.laysM324_ren : Go.Shelf.Ren := ⟨fun | 324 => 170 | n => n, fun | 20 => 20 | 4 => 4 | 75 => 81 | 0 => 0 | 80 => 85 | 9 => 9 | n => n, fun | 14 => 5 | n => n⟩
theorem Tryd.laysM324 : Go.Proofs.LaysM.n324 Tryd.prog Tryd.laysM324_ren := {
  mixed := by kernel_rfl
  f324 := Tryd.func170.trans (congrArg some (by kernel_rfl))
  t0 := Tryd.underlying0
  a0 := Tryd.isAgg0
  z0 := Tryd.sizeOf0
  v0 := Tryd.zeroValue0
  t4 := Tryd.underlying4
  a4 := Tryd.isAgg4
  z4 := Tryd.sizeOf4
  v4 := Tryd.zeroValue4
  t20 := Tryd.underlying20
  a20 := Tryd.isAgg20
  z20 := Tryd.sizeOf20
  v20 := Tryd.zeroValue20
  t75 := Tryd.underlying81
  a75 := Tryd.isAgg81
  z75 := Tryd.sizeOf81
  v75 := Tryd.zeroValue81
  g14 := by kernel_rfl
  t9 := Tryd.underlying9
  a9 := Tryd.isAgg9
  z9 := Tryd.sizeOf9
  v9 := Tryd.zeroValue9
  t80 := Tryd.underlying85
  a80 := Tryd.isAgg85
  z80 := Tryd.sizeOf85
  v80 := Tryd.zeroValue85
  i0 := by kernel_rfl
  i4 := by kernel_rfl
  i9 := by kernel_rfl
  i20 := by kernel_rfl
  i75 := by kernel_rfl
  i80 := by kernel_rfl
  m14 := by kernel_rfl }
theorem Tryd.growSlice_catch_idle (w : World) :
    CallsD Tryd.prog 170 #[] .returning w fun e u' w' => e = .returned (.tuple #[]) ∧ u' = .returning ∧ w' = w := Any.growSlice_catch_idle Tryd.laysM324 w
def Tryd.laysM290_ren : Go.Shelf.Ren := ⟨fun | 290 => 163 | 324 => 170 | n => n, fun | 37 => 66 | 3 => 3 | 0 => 0 | 4 => 4 | 20 => 20 | 75 => 81 | 5 => 5 | 80 => 85 | 9 => 9 | n => n, fun | 14 => 5 | n => n⟩
theorem Tryd.laysM290 : Go.Proofs.LaysM.n290 Tryd.prog Tryd.laysM290_ren := {
  mixed := by kernel_rfl
  f290 := Tryd.func163.trans (congrArg some (by kernel_rfl))
  f324 := Tryd.func170.trans (congrArg some (by kernel_rfl))
  t0 := Tryd.underlying0
  a0 := Tryd.isAgg0
  z0 := Tryd.sizeOf0
  v0 := Tryd.zeroValue0
  t3 := Tryd.underlying3
  a3 := Tryd.isAgg3
  z3 := Tryd.sizeOf3
  v3 := Tryd.zeroValue3
  t4 := Tryd.underlying4
  a4 := Tryd.isAgg4
  z4 := Tryd.sizeOf4
  v4 := Tryd.zeroValue4
  t20 := Tryd.underlying20
  a20 := Tryd.isAgg20
  z20 := Tryd.sizeOf20
  v20 := Tryd.zeroValue20
  t37 := Tryd.underlying66
  a37 := Tryd.isAgg66
  z37 := Tryd.sizeOf66
  v37 := Tryd.zeroValue66
  t75 := Tryd.underlying81
  a75 := Tryd.isAgg81
  z75 := Tryd.sizeOf81
  v75 := Tryd.zeroValue81
  g14 := by kernel_rfl
  t5 := Tryd.underlying5
  a5 := Tryd.isAgg5
  z5 := Tryd.sizeOf5
  v5 := Tryd.zeroValue5
  t9 := Tryd.underlying9
  a9 := Tryd.isAgg9
  z9 := Tryd.sizeOf9
  v9 := Tryd.zeroValue9
  t80 := Tryd.underlying85
  a80 := Tryd.isAgg85
  z80 := Tryd.sizeOf85
  v80 := Tryd.zeroValue85
  i0 := by kernel_rfl
  i3 := by kernel_rfl
  i4 := by kernel_rfl
  i5 := by kernel_rfl
  i9 := by kernel_rfl
  i20 := by kernel_rfl
  i37 := by kernel_rfl
  i75 := by kernel_rfl
  i80 := by kernel_rfl
  m14 := by kernel_rfl }
open Go.RowKit in
theorem Tryd.bytes_growSlice_row (g l c n : Nat) (cur : Array Value) (w : World) (hg : w.heap[g]? = some (.cells cur 5 (0, 0))) (hcs : cur.size = c) (hlc : l ≤ c) (hn : 1 ≤ n) (hlim : l + n ≤ 140737488355328) (hc2 : c ≤ 140737488355328) (h1 : ∀ v ∈ cur.toList.take l, v.oneCell' = true) :
    Calls Tryd.prog 163 #[.slice (some ⟨g, 0, none⟩) l c, .int .i64 n] w fun e w' => ∃ cap2 cells, e = .returned (.slice (some ⟨w.heap.size, 0, none⟩) l cap2) ∧ w'.heap[w.heap.size]? = some (.cells cells 5 (0, 0)) ∧
      cells.size = cap2 ∧ cells.toList.take l = cur.toList.take l ∧ l + n ≤ cap2 ∧ cap2 ≤ maxLen ∧ Below w.heap.size w w' := Any.bytes_growSlice_row Tryd.laysM290 g l c n cur w hg hcs hlc hn hlim hc2 h1
open Go.RowKit in
theorem Tryd.bytes_growSlice_nil (n : Nat) (w : World) (hn : 1 ≤ n) (hlim : n ≤ 140737488355328) :
    Calls Tryd.prog 163 #[.slice none 0 0, .int .i64 n] w fun e w' => ∃ cap2 cells, e = .returned (.slice (some ⟨w.heap.size, 0, none⟩) 0 cap2) ∧ w'.heap[w.heap.size]? = some (.cells cells 5 (0, 0)) ∧
      cells.size = cap2 ∧ n ≤ cap2 ∧ cap2 ≤ maxLen ∧ Below w.heap.size w w' := Any.bytes_growSlice_nil Tryd.laysM290 n w hn hlim
def Tryd.laysM252_ren : Go.Shelf.Ren := ⟨fun | 252 => 141 | 181 => 161 | 184 => 162 | 251 => 140 | 290 => 163 | 324 => 170 | n => n, fun | 130 => 119 | 3 => 3 | 4 => 4 | 0 => 0 | 93 => 96 | 131 => 120 | 37 => 66 | 75 => 81 | 91 => 94 | 20 => 20 | 5 => 5 | 80 => 85 | 9 => 9 | n => n, fun | 14 => 5 | n => n⟩
theorem Tryd.laysM252 : Go.Proofs.LaysM.n252 Tryd.prog Tryd.laysM252_ren := {
  mixed := by kernel_rfl
  f181 := Tryd.func161.trans (congrArg some (by kernel_rfl))
  f184 := Tryd.func162.trans (congrArg some (by kernel_rfl))
  f251 := Tryd.func140.trans (congrArg some (by kernel_rfl))
  f252 := Tryd.func141.trans (congrArg some (by kernel_rfl))
  f290 := Tryd.func163.trans (congrArg some (by kernel_rfl))
  f324 := Tryd.func170.trans (congrArg some (by kernel_rfl))
  t0 := Tryd.underlying0
  a0 := Tryd.isAgg0
  z0 := Tryd.sizeOf0
  v0 := Tryd.zeroValue0
  t3 := Tryd.underlying3
  a3 := Tryd.isAgg3
  z3 := Tryd.sizeOf3
  v3 := Tryd.zeroValue3
  t4 := Tryd.underlying4
  a4 := Tryd.isAgg4
  z4 := Tryd.sizeOf4
  v4 := Tryd.zeroValue4
  t20 := Tryd.underlying20
  a20 := Tryd.isAgg20
  z20 := Tryd.sizeOf20
  v20 := Tryd.zeroValue20
  t37 := Tryd.underlying66
  a37 := Tryd.isAgg66
  z37 := Tryd.sizeOf66
  v37 := Tryd.zeroValue66
  t75 := Tryd.underlying81
  a75 := Tryd.isAgg81
  z75 := Tryd.sizeOf81
  v75 := Tryd.zeroValue81
  t91 := Tryd.underlying94
  a91 := Tryd.isAgg94
  z91 := Tryd.sizeOf94
  v91 := Tryd.zeroValue94
  t93 := Tryd.underlying96
  a93 := Tryd.isAgg96
  z93 := Tryd.sizeOf96
  v93 := Tryd.zeroValue96
  t130 := Tryd.underlying119
  a130 := Tryd.isAgg119
  z130 := Tryd.sizeOf119
  v130 := Tryd.zeroValue119
  t131 := Tryd.underlying120
  a131 := Tryd.isAgg120
  z131 := Tryd.sizeOf120
  v131 := Tryd.zeroValue120
  g14 := by kernel_rfl
  t5 := Tryd.underlying5
  a5 := Tryd.isAgg5
  z5 := Tryd.sizeOf5
  v5 := Tryd.zeroValue5
  t9 := Tryd.underlying9
  a9 := Tryd.isAgg9
  z9 := Tryd.sizeOf9
  v9 := Tryd.zeroValue9
  t80 := Tryd.underlying85
  a80 := Tryd.isAgg85
  z80 := Tryd.sizeOf85
  v80 := Tryd.zeroValue85
  i0 := by kernel_rfl
  i3 := by kernel_rfl
  i4 := by kernel_rfl
  i5 := by kernel_rfl
  i9 := by kernel_rfl
  i20 := by kernel_rfl
  i37 := by kernel_rfl
  i75 := by kernel_rfl
  i80 := by kernel_rfl
  i91 := by kernel_rfl
  i93 := by kernel_rfl
  i130 := by kernel_rfl
  i131 := by kernel_rfl
  m14 := by kernel_rfl }
open Go.RowKit in
theorem Tryd.Buffer_grow_row0_kept (B b g cap n : Nat) (lr : Int) (cur : Array Value) (bs : List Value) (w : World) (hB : B ≤ b) (hBw : B ≤ w.heap.size) (hbk : w.heap[b]? = some (.cells #[.slice (some ⟨g, 0, none⟩) 0 cap, .int .i64 0, .int .i8 lr] 96 (0, 0))) (hl : bs.length = 0) (hBg : B ≤ g) (hg : w.heap[g]? = some (.cells cur 5 (0, 0))) (hlc : 0 ≤ cap) (hcm : cap ≤ maxLen) (hcs : cur.size = cap) (htake : cur.toList.take 0 = bs) (hgb : g ≠ b) (h1 : ∀ v ∈ bs, v.oneCell' = true) (hn : 1 ≤ n) (hroom : cap - 0 < n) (hlim : 0 + n ≤ 140737488355328) :
    Calls Tryd.prog 141 #[.pointer (some ⟨b, 0, none⟩), .int .i64 n] w fun e w' => e = .returned (.int .i64 0) ∧ ∃ xs, xs.length = n ∧ Lib.IsBuffer 96 5 B b (bs ++ xs) w' ∧ Below B w w' ∧ Lib.OthersKept 5 (some b) w w' := Any.Buffer_grow_row0_kept Tryd.laysM252 B b g cap n lr cur bs w hB hBw hbk hl hBg hg hlc hcm hcs htake hgb h1 hn hroom hlim
open Go.RowKit in
theorem Tryd.Buffer_grow_row_kept (B b g l cap n : Nat) (lr : Int) (cur : Array Value) (bs : List Value) (w : World) (hB : B ≤ b) (hBw : B ≤ w.heap.size) (hbk : w.heap[b]? = some (.cells #[.slice (some ⟨g, 0, none⟩) l cap, .int .i64 0, .int .i8 lr] 96 (0, 0))) (hl : bs.length = l) (hBg : B ≤ g) (hg : w.heap[g]? = some (.cells cur 5 (0, 0))) (hlc : l ≤ cap) (hcm : cap ≤ maxLen) (hcs : cur.size = cap) (htake : cur.toList.take l = bs) (hgb : g ≠ b) (h1 : ∀ v ∈ bs, v.oneCell' = true) (hn : 1 ≤ n) (hroom : cap - l < n) (hlim : l + n ≤ 140737488355328) :
    Calls Tryd.prog 141 #[.pointer (some ⟨b, 0, none⟩), .int .i64 n] w fun e w' => e = .returned (.int .i64 l) ∧ ∃ xs, xs.length = n ∧ Lib.IsBuffer 96 5 B b (bs ++ xs) w' ∧ Below B w w' ∧ Lib.OthersKept 5 (some b) w w' := Any.Buffer_grow_row_kept Tryd.laysM252 B b g l cap n lr cur bs w hB hBw hbk hl hBg hg hlc hcm hcs htake hgb h1 hn hroom hlim
open Go.RowKit in
theorem Tryd.Buffer_grow_nil_small_kept (B b n : Nat) (lr : Int) (w : World) (hB : B ≤ b) (hBw : B ≤ w.heap.size) (hbk : w.heap[b]? = some (.cells #[.slice none 0 0, .int .i64 0, .int .i8 lr] 96 (0, 0))) (hn : 1 ≤ n) (h64 : n ≤ 64) :
    Calls Tryd.prog 141 #[.pointer (some ⟨b, 0, none⟩), .int .i64 n] w fun e w' => e = .returned (.int .i64 0) ∧ ∃ xs, xs.length = n ∧ Lib.IsBuffer 96 5 B b xs w' ∧ Below B w w' ∧ Lib.OthersKept 5 (some b) w w' := Any.Buffer_grow_nil_small_kept Tryd.laysM252 B b n lr w hB hBw hbk hn h64
open Go.RowKit in
theorem Tryd.Buffer_grow_nil_big_kept (B b n : Nat) (lr : Int) (w : World) (hB : B ≤ b) (hBw : B ≤ w.heap.size) (hbk : w.heap[b]? = some (.cells #[.slice none 0 0, .int .i64 0, .int .i8 lr] 96 (0, 0))) (h64 : 64 < n) (hlim : n ≤ 140737488355328) :
    Calls Tryd.prog 141 #[.pointer (some ⟨b, 0, none⟩), .int .i64 n] w fun e w' => e = .returned (.int .i64 0) ∧ ∃ xs, xs.length = n ∧ Lib.IsBuffer 96 5 B b xs w' ∧ Below B w w' ∧ Lib.OthersKept 5 (some b) w w' := Any.Buffer_grow_nil_big_kept Tryd.laysM252 B b n lr w hB hBw hbk h64 hlim
open Go.RowKit in
theorem Tryd.Buffer_tryGrow_kept (B b n : Nat) (bs : List Value) (w : World) (h : Lib.IsBuffer 96 5 B b bs w) :
    Calls Tryd.prog 140 #[.pointer (some ⟨b, 0, none⟩), .int .i64 n] w fun e w' =>
      (e = .returned (.tuple #[.int .i64 bs.length, .bool true]) ∧ ∃ xs, xs.length = n ∧ Lib.IsBuffer 96 5 B b (bs ++ xs) w' ∧ Below B w w' ∧ Lib.OthersKept 5 (some b) w w') ∨
      (e = .returned (.tuple #[.int .i64 0, .bool false]) ∧ w' = w ∧ Lib.NoRoom b n w) := Any.Buffer_tryGrow_kept Tryd.laysM251 B b n bs w h
open Go.RowKit in
theorem Tryd.Buffer_grow_kept (B b n : Nat) (bs : List Value) (w : World) (h : Lib.IsBuffer 96 5 B b bs w) (hnr : Lib.NoRoom b n w) (hBw : B ≤ w.heap.size) (h1 : ∀ v ∈ bs, v.oneCell' = true) (hlim : bs.length + n ≤ 140737488355328) :
    Calls Tryd.prog 141 #[.pointer (some ⟨b, 0, none⟩), .int .i64 n] w fun e w' => e = .returned (.int .i64 bs.length) ∧ ∃ xs, xs.length = n ∧ Lib.IsBuffer 96 5 B b (bs ++ xs) w' ∧ Below B w w' ∧ Lib.OthersKept 5 (some b) w w' := Any.Buffer_grow_kept Tryd.laysM252 B b n bs w h hnr hBw h1 hlim
def Tryd.laysM179_ren : Go.Shelf.Ren := ⟨fun | 179 => 142 | 251 => 140 | 252 => 141 | 181 => 161 | 184 => 162 | 290 => 163 | 324 => 170 | n => n, fun | 130 => 119 | 5 => 5 | 75 => 81 | 0 => 0 | 93 => 96 | 91 => 94 | 3 => 3 | 131 => 120 | 4 => 4 | 37 => 66 | 20 => 20 | 80 => 85 | 9 => 9 | n => n, fun | 14 => 5 | n => n⟩
theorem Tryd.laysM179 : Go.Proofs.LaysM.n179 Tryd.prog Tryd.laysM179_ren := {
  mixed := by kernel_rfl
  f179 := Tryd.func142.trans (congrArg some (by kernel_rfl))
  f181 := Tryd.func161.trans (congrArg some (by kernel_rfl))
  f184 := Tryd.func162.trans (congrArg some (by kernel_rfl))
  f251 := Tryd.func140.trans (congrArg some (by kernel_rfl))
  f252 := Tryd.func141.trans (congrArg some (by kernel_rfl))
  f290 := Tryd.func163.trans (congrArg some (by kernel_rfl))
  f324 := Tryd.func170.trans (congrArg some (by kernel_rfl))
  t0 := Tryd.underlying0
  a0 := Tryd.isAgg0
  z0 := Tryd.sizeOf0
  v0 := Tryd.zeroValue0
  t3 := Tryd.underlying3
  a3 := Tryd.isAgg3
  z3 := Tryd.sizeOf3
  v3 := Tryd.zeroValue3
  t4 := Tryd.underlying4
  a4 := Tryd.isAgg4
  z4 := Tryd.sizeOf4
  v4 := Tryd.zeroValue4
  t5 := Tryd.underlying5
  a5 := Tryd.isAgg5
  z5 := Tryd.sizeOf5
  v5 := Tryd.zeroValue5
  t20 := Tryd.underlying20
  a20 := Tryd.isAgg20
  z20 := Tryd.sizeOf20
  v20 := Tryd.zeroValue20
  t37 := Tryd.underlying66
  a37 := Tryd.isAgg66
  z37 := Tryd.sizeOf66
  v37 := Tryd.zeroValue66
  t75 := Tryd.underlying81
  a75 := Tryd.isAgg81
  z75 := Tryd.sizeOf81
  v75 := Tryd.zeroValue81
  t91 := Tryd.underlying94
  a91 := Tryd.isAgg94
  z91 := Tryd.sizeOf94
  v91 := Tryd.zeroValue94
  t93 := Tryd.underlying96
  a93 := Tryd.isAgg96
  z93 := Tryd.sizeOf96
  v93 := Tryd.zeroValue96
  t130 := Tryd.underlying119
  a130 := Tryd.isAgg119
  z130 := Tryd.sizeOf119
  v130 := Tryd.zeroValue119
  t131 := Tryd.underlying120
  a131 := Tryd.isAgg120
  z131 := Tryd.sizeOf120
  v131 := Tryd.zeroValue120
  g14 := by kernel_rfl
  t9 := Tryd.underlying9
  a9 := Tryd.isAgg9
  z9 := Tryd.sizeOf9
  v9 := Tryd.zeroValue9
  t80 := Tryd.underlying85
  a80 := Tryd.isAgg85
  z80 := Tryd.sizeOf85
  v80 := Tryd.zeroValue85
  i0 := by kernel_rfl
  i3 := by kernel_rfl
  i4 := by kernel_rfl
  i5 := by kernel_rfl
  i9 := by kernel_rfl
  i20 := by kernel_rfl
  i37 := by kernel_rfl
  i75 := by kernel_rfl
  i80 := by kernel_rfl
  i91 := by kernel_rfl
  i93 := by kernel_rfl
  i130 := by kernel_rfl
  i131 := by kernel_rfl
  m14 := by kernel_rfl }
open Go.RowKit in
theorem Tryd.Buffer_WriteByte_kept (B b : Nat) (bs : List Value) (c : Int) (w : World) (h : Lib.IsBuffer 96 5 B b bs w) (hBw : B ≤ w.heap.size) (h1 : ∀ v ∈ bs, v.oneCell' = true) (hlim : bs.length + 1 ≤ 140737488355328) :
    Calls Tryd.prog 142 #[.pointer (some ⟨b, 0, none⟩), .int .u8 c] w fun e w' => e = .returned .nilIface ∧ Lib.IsBuffer 96 5 B b (bs ++ [.int .u8 c]) w' ∧ Below B w w' ∧ Lib.OthersKept 5 (some b) w w' := Any.Buffer_WriteByte_kept Tryd.laysM179 B b bs c w h hBw h1 hlim
def Tryd.laysM178_ren : Go.Shelf.Ren := ⟨fun | 178 => 117 | 251 => 140 | 252 => 141 | 181 => 161 | 184 => 162 | 290 => 163 | 324 => 170 | n => n, fun | 130 => 119 | 9 => 9 | 3 => 3 | 75 => 81 | 0 => 0 | 93 => 96 | 91 => 94 | 131 => 120 | 4 => 4 | 37 => 66 | 20 => 20 | 80 => 85 | 5 => 5 | n => n, fun | 14 => 5 | n => n⟩
theorem Tryd.laysM178 : Go.Proofs.LaysM.n178 Tryd.prog Tryd.laysM178_ren := {
  mixed := by kernel_rfl
  f178 := Tryd.func117.trans (congrArg some (by kernel_rfl))
  f181 := Tryd.func161.trans (congrArg some (by kernel_rfl))
  f184 := Tryd.func162.trans (congrArg some (by kernel_rfl))
  f251 := Tryd.func140.trans (congrArg some (by kernel_rfl))
  f252 := Tryd.func141.trans (congrArg some (by kernel_rfl))
  f290 := Tryd.func163.trans (congrArg some (by kernel_rfl))
  f324 := Tryd.func170.trans (congrArg some (by kernel_rfl))
  t0 := Tryd.underlying0
  a0 := Tryd.isAgg0
  z0 := Tryd.sizeOf0
  v0 := Tryd.zeroValue0
  t3 := Tryd.underlying3
  a3 := Tryd.isAgg3
  z3 := Tryd.sizeOf3
  v3 := Tryd.zeroValue3
  t4 := Tryd.underlying4
  a4 := Tryd.isAgg4
  z4 := Tryd.sizeOf4
  v4 := Tryd.zeroValue4
  t9 := Tryd.underlying9
  a9 := Tryd.isAgg9
  z9 := Tryd.sizeOf9
  v9 := Tryd.zeroValue9
  t20 := Tryd.underlying20
  a20 := Tryd.isAgg20
  z20 := Tryd.sizeOf20
  v20 := Tryd.zeroValue20
  t37 := Tryd.underlying66
  a37 := Tryd.isAgg66
  z37 := Tryd.sizeOf66
  v37 := Tryd.zeroValue66
  t75 := Tryd.underlying81
  a75 := Tryd.isAgg81
  z75 := Tryd.sizeOf81
  v75 := Tryd.zeroValue81
  t91 := Tryd.underlying94
  a91 := Tryd.isAgg94
  z91 := Tryd.sizeOf94
  v91 := Tryd.zeroValue94
  t93 := Tryd.underlying96
  a93 := Tryd.isAgg96
  z93 := Tryd.sizeOf96
  v93 := Tryd.zeroValue96
  t130 := Tryd.underlying119
  a130 := Tryd.isAgg119
  z130 := Tryd.sizeOf119
  v130 := Tryd.zeroValue119
  t131 := Tryd.underlying120
  a131 := Tryd.isAgg120
  z131 := Tryd.sizeOf120
  v131 := Tryd.zeroValue120
  g14 := by kernel_rfl
  t5 := Tryd.underlying5
  a5 := Tryd.isAgg5
  z5 := Tryd.sizeOf5
  v5 := Tryd.zeroValue5
  t80 := Tryd.underlying85
  a80 := Tryd.isAgg85
  z80 := Tryd.sizeOf85
  v80 := Tryd.zeroValue85
  i0 := by kernel_rfl
  i3 := by kernel_rfl
  i4 := by kernel_rfl
  i5 := by kernel_rfl
  i9 := by kernel_rfl
  i20 := by kernel_rfl
  i37 := by kernel_rfl
  i75 := by kernel_rfl
  i80 := by kernel_rfl
  i91 := by kernel_rfl
  i93 := by kernel_rfl
  i130 := by kernel_rfl
  i131 := by kernel_rfl
  m14 := by kernel_rfl }
open Go.RowKit in
theorem Tryd.Buffer_WriteString_kept (B b : Nat) (bs : List Value) (s : ByteArray) (w : World) (h : Lib.IsBuffer 96 5 B b bs w) (hBw : B ≤ w.heap.size) (h1 : ∀ v ∈ bs, v.oneCell' = true) (hlim : bs.length + s.size ≤ 140737488355328) :
    Calls Tryd.prog 117 #[.pointer (some ⟨b, 0, none⟩), .string s] w fun e w' => e = .returned (.tuple #[.int .i64 s.size, .nilIface]) ∧ Lib.IsBuffer 96 5 B b (bs ++ Lib.byteCells s.data.toList) w' ∧ Below B w w' ∧ Lib.OthersKept 5 (some b) w w' := Any.Buffer_WriteString_kept Tryd.laysM178 B b bs s w h hBw h1 hlim
def Tryd.laysM184_ren : Go.Shelf.Ren := ⟨fun | 184 => 162 | n => n, fun | 130 => 119 | 0 => 0 | 93 => 96 | 37 => 66 | 3 => 3 | 91 => 94 | 5 => 5 | n => n, fun | n => n⟩
theorem Tryd.laysM184 : Go.Proofs.LaysM.n184 Tryd.prog Tryd.laysM184_ren := {
  mixed := by kernel_rfl
  f184 := Tryd.func162.trans (congrArg some (by kernel_rfl))
  t0 := Tryd.underlying0
  a0 := Tryd.isAgg0
  z0 := Tryd.sizeOf0
  v0 := Tryd.zeroValue0
  t3 := Tryd.underlying3
  a3 := Tryd.isAgg3
  z3 := Tryd.sizeOf3
  v3 := Tryd.zeroValue3
  t37 := Tryd.underlying66
  a37 := Tryd.isAgg66
  z37 := Tryd.sizeOf66
  v37 := Tryd.zeroValue66
  t91 := Tryd.underlying94
  a91 := Tryd.isAgg94
  z91 := Tryd.sizeOf94
  v91 := Tryd.zeroValue94
  t93 := Tryd.underlying96
  a93 := Tryd.isAgg96
  z93 := Tryd.sizeOf96
  v93 := Tryd.zeroValue96
  t130 := Tryd.underlying119
  a130 := Tryd.isAgg119
  z130 := Tryd.sizeOf119
  v130 := Tryd.zeroValue119
  t5 := Tryd.underlying5
  a5 := Tryd.isAgg5
  z5 := Tryd.sizeOf5
  v5 := Tryd.zeroValue5
  i0 := by kernel_rfl
  i3 := by kernel_rfl
  i5 := by kernel_rfl
  i37 := by kernel_rfl
  i91 := by kernel_rfl
  i93 := by kernel_rfl
  i130 := by kernel_rfl }
open Go.RowKit in
theorem Tryd.Buffer_Reset_kept (B b : Nat) (bs : List Value) (w : World) (h : Lib.IsBuffer 96 5 B b bs w) :
    Calls Tryd.prog 162 #[.pointer (some ⟨b, 0, none⟩)] w fun e w' => e = .returned (.tuple #[]) ∧ Lib.IsBuffer 96 5 B b [] w' ∧ Below B w w' ∧ Lib.OthersKept 5 (some b) w w' := Any.Buffer_Reset_kept Tryd.laysM184 B b bs w h
def Tryd.lays222_ren : Go.Shelf.Ren := ⟨fun | 222 => 138 | n => n, fun | 9 => 9 | 5 => 5 | 3 => 3 | 4 => 4 | n => n, fun | n => n⟩
theorem Tryd.lays222 : Go.Proofs.Lays.n222 Tryd.prog Tryd.lays222_ren := {
  mixed := by kernel_rfl
  f222 := Tryd.func138.trans (congrArg some (by kernel_rfl))
  t3 := Tryd.underlying3
  a3 := Tryd.isAgg3
  z3 := Tryd.sizeOf3
  v3 := Tryd.zeroValue3
  t4 := Tryd.underlying4
  a4 := Tryd.isAgg4
  z4 := Tryd.sizeOf4
  v4 := Tryd.zeroValue4
  t5 := Tryd.underlying5
  a5 := Tryd.isAgg5
  z5 := Tryd.sizeOf5
  v5 := Tryd.zeroValue5
  t9 := Tryd.underlying9
  a9 := Tryd.isAgg9
  z9 := Tryd.sizeOf9
  v9 := Tryd.zeroValue9 }
open Go.RowKit Go.Lib in
theorem Tryd.bytealg_LastIndexByteString_nm (s : ByteArray) (c : Int) (hs : s.size < 4611686018427387904) (w : World) :
    Calls Tryd.prog 138 #[.string s, .int .u8 c] w fun e w' => e = .returned (.int .i64 (Lib.lastIndexByte s c)) ∧ w' = w := Any.bytealg_LastIndexByteString_nm Tryd.lays222 s c hs w
def Tryd.lays148_ren : Go.Shelf.Ren := ⟨fun | 148 => 116 | 222 => 138 | 223 => 139 | 269 => 160 | n => n, fun | 9 => 9 | 3 => 3 | 4 => 4 | 5 => 5 | 146 => 147 | 51 => 47 | 46 => 49 | n => n, fun | n => n⟩
theorem Tryd.lays148 : Go.Proofs.Lays.n148 Tryd.prog Tryd.lays148_ren := {
  mixed := by kernel_rfl
  f148 := Tryd.func116.trans (congrArg some (by kernel_rfl))
  f222 := Tryd.func138.trans (congrArg some (by kernel_rfl))
  f223 := Tryd.func139.trans (congrArg some (by kernel_rfl))
  f269 := Tryd.func160.trans (congrArg some (by kernel_rfl))
  t3 := Tryd.underlying3
  a3 := Tryd.isAgg3
  z3 := Tryd.sizeOf3
  v3 := Tryd.zeroValue3
  t4 := Tryd.underlying4
  a4 := Tryd.isAgg4
  z4 := Tryd.sizeOf4
  v4 := Tryd.zeroValue4
  t5 := Tryd.underlying5
  a5 := Tryd.isAgg5
  z5 := Tryd.sizeOf5
  v5 := Tryd.zeroValue5
  t9 := Tryd.underlying9
  a9 := Tryd.isAgg9
  z9 := Tryd.sizeOf9
  v9 := Tryd.zeroValue9
  t46 := Tryd.underlying49
  a46 := Tryd.isAgg49
  z46 := Tryd.sizeOf49
  v46 := Tryd.zeroValue49
  t51 := Tryd.underlying47
  a51 := Tryd.isAgg47
  z51 := Tryd.sizeOf47
  v51 := Tryd.zeroValue47
  t146 := Tryd.underlying147
  a146 := Tryd.isAgg147
  z146 := Tryd.sizeOf147
  v146 := Tryd.zeroValue147 }
open Go.RowKit Go.Lib in
theorem Tryd.strings_LastIndex_one (s sub : ByteArray) (h1 : sub.size = 1) (hs : s.size < 4611686018427387904) (w : World) :
    Calls Tryd.prog 116 #[.string s, .string sub] w fun e w' => e = .returned (.int .i64 (Lib.lastIndexByte s ((sub[0]'(by omega)).toNat : Int))) ∧ w' = w := Any.strings_LastIndex_one Tryd.lays148 s sub h1 hs w
open Go.RowKit Go.Lib in
theorem Tryd.strings_LastIndex_empty (s sub : ByteArray) (h0 : sub.size = 0) (w : World) :
    Calls Tryd.prog 116 #[.string s, .string sub] w fun e w' => e = .returned (.int .i64 s.size) ∧ w' = w := Any.strings_LastIndex_empty Tryd.lays148 s sub h0 w
open Go.RowKit Go.Lib in
theorem Tryd.strings_LastIndex_longer (s sub : ByteArray) (h2 : 2 ≤ sub.size) (hl : s.size < sub.size) (w : World) :
    Calls Tryd.prog 116 #[.string s, .string sub] w fun e w' => e = .returned (.int .i64 (-1)) ∧ w' = w := Any.strings_LastIndex_longer Tryd.lays148 s sub h2 hl w
open Go.RowKit Go.Lib in
theorem Tryd.strings_LastIndex_whole (s sub : ByteArray) (h2 : 2 ≤ sub.size) (hl : sub.size = s.size) (w : World) :
    Calls Tryd.prog 116 #[.string s, .string sub] w fun e w' => e = .returned (.int .i64 (if sub = s then 0 else -1)) ∧ w' = w := Any.strings_LastIndex_whole Tryd.lays148 s sub h2 hl w
def Tryd.lays269_ren : Go.Shelf.Ren := ⟨fun | 269 => 160 | n => n, fun | 9 => 9 | 51 => 47 | 3 => 3 | 4 => 4 | 5 => 5 | 46 => 49 | n => n, fun | n => n⟩
theorem Tryd.lays269 : Go.Proofs.Lays.n269 Tryd.prog Tryd.lays269_ren := {
  mixed := by kernel_rfl
  f269 := Tryd.func160.trans (congrArg some (by kernel_rfl))
  t3 := Tryd.underlying3
  a3 := Tryd.isAgg3
  z3 := Tryd.sizeOf3
  v3 := Tryd.zeroValue3
  t4 := Tryd.underlying4
  a4 := Tryd.isAgg4
  z4 := Tryd.sizeOf4
  v4 := Tryd.zeroValue4
  t5 := Tryd.underlying5
  a5 := Tryd.isAgg5
  z5 := Tryd.sizeOf5
  v5 := Tryd.zeroValue5
  t9 := Tryd.underlying9
  a9 := Tryd.isAgg9
  z9 := Tryd.sizeOf9
  v9 := Tryd.zeroValue9
  t46 := Tryd.underlying49
  a46 := Tryd.isAgg49
  z46 := Tryd.sizeOf49
  v46 := Tryd.zeroValue49
  t51 := Tryd.underlying47
  a51 := Tryd.isAgg47
  z51 := Tryd.sizeOf47
  v51 := Tryd.zeroValue47 }
open Go.RowKit Go.Lib in
theorem Tryd.bytealg_hashStrRev (sep : ByteArray) (hs : sep.size < 4611686018427387904) (w : World) :
    Calls Tryd.prog 160 #[.string sep] w fun e w' => e = .returned (.tuple #[.int .u32 (RK.H sep.data.toList.reverse % 4294967296), .int .u32 (16777619 ^ sep.size % 4294967296)]) ∧ w' = w := Any.bytealg_hashStrRev Tryd.lays269 sep hs w
def Tryd.lays223_ren : Go.Shelf.Ren := ⟨fun | 223 => 139 | 269 => 160 | n => n, fun | 9 => 9 | 3 => 3 | 146 => 147 | 51 => 47 | 4 => 4 | 5 => 5 | 46 => 49 | n => n, fun | n => n⟩
theorem Tryd.lays223 : Go.Proofs.Lays.n223 Tryd.prog Tryd.lays223_ren := {
  mixed := by kernel_rfl
  f223 := Tryd.func139.trans (congrArg some (by kernel_rfl))
  f269 := Tryd.func160.trans (congrArg some (by kernel_rfl))
  t3 := Tryd.underlying3
  a3 := Tryd.isAgg3
  z3 := Tryd.sizeOf3
  v3 := Tryd.zeroValue3
  t4 := Tryd.underlying4
  a4 := Tryd.isAgg4
  z4 := Tryd.sizeOf4
  v4 := Tryd.zeroValue4
  t5 := Tryd.underlying5
  a5 := Tryd.isAgg5
  z5 := Tryd.sizeOf5
  v5 := Tryd.zeroValue5
  t9 := Tryd.underlying9
  a9 := Tryd.isAgg9
  z9 := Tryd.sizeOf9
  v9 := Tryd.zeroValue9
  t46 := Tryd.underlying49
  a46 := Tryd.isAgg49
  z46 := Tryd.sizeOf49
  v46 := Tryd.zeroValue49
  t51 := Tryd.underlying47
  a51 := Tryd.isAgg47
  z51 := Tryd.sizeOf47
  v51 := Tryd.zeroValue47
  t146 := Tryd.underlying147
  a146 := Tryd.isAgg147
  z146 := Tryd.sizeOf147
  v146 := Tryd.zeroValue147 }
open Go.RowKit Go.Lib in
theorem Tryd.bytealg_LastIndexRabinKarp (s sep : ByteArray) (h1 : 1 ≤ sep.size) (h2 : sep.size ≤ s.size) (hs : s.size < 4611686018427387904) (w : World) :
    Calls Tryd.prog 139 #[.string s, .string sep] w fun e w' => e = .returned (.int .i64 (Lib.lastIndex s.data.toList sep.data.toList)) ∧ w' = w := Any.bytealg_LastIndexRabinKarp Tryd.lays223 s sep h1 h2 hs w
open Go.RowKit Go.Lib in
theorem Tryd.strings_LastIndex_hash (s sub : ByteArray) (h2 : 2 ≤ sub.size) (hl : sub.size < s.size) (hs : s.size < 4611686018427387904) (w : World) :
    Calls Tryd.prog 116 #[.string s, .string sub] w fun e w' => e = .returned (.int .i64 (Lib.lastIndex s.data.toList sub.data.toList)) ∧ w' = w := Any.strings_LastIndex_hash Tryd.lays148 s sub h2 hl hs w
open Go.RowKit Go.Lib in
theorem Tryd.strings_LastIndex (s sub : ByteArray) (hs : s.size < 4611686018427387904) (w : World) :
    Calls Tryd.prog 116 #[.string s, .string sub] w fun e w' => e = .returned (.int .i64 (Lib.lastIndex s.data.toList sub.data.toList)) ∧ w' = w := Any.strings_LastIndex Tryd.lays148 s sub hs w
open Go.RowKit in
theorem Tryd.Buffer_WriteByte_k (B b : Nat) (bs : List Value) (c : Int) (w : World) (h : Lib.IsBuffer 96 5 B b bs w) (hBw : B ≤ w.heap.size) (h1 : ∀ v ∈ bs, v.oneCell' = true) (hlim : bs.length + 1 ≤ 140737488355328) :
    Calls Tryd.prog 142 #[.pointer (some ⟨b, 0, none⟩), .int .u8 c] w fun e w' => e = .returned .nilIface ∧ Lib.IsBuffer 96 5 B b (bs ++ [.int .u8 c]) w' ∧ Below B w w' ∧ Lib.OthersKept 5 (some b) w w' := Any.Buffer_WriteByte_k Tryd.laysM179 B b bs c w h hBw h1 hlim
open Go.RowKit in
theorem Tryd.Buffer_WriteString_k (B b : Nat) (bs : List Value) (s : ByteArray) (w : World) (h : Lib.IsBuffer 96 5 B b bs w) (hBw : B ≤ w.heap.size) (h1 : ∀ v ∈ bs, v.oneCell' = true) (hlim : bs.length + s.size ≤ 140737488355328) :
    Calls Tryd.prog 117 #[.pointer (some ⟨b, 0, none⟩), .string s] w fun e w' => e = .returned (.tuple #[.int .i64 s.size, .nilIface]) ∧ Lib.IsBuffer 96 5 B b (bs ++ Lib.byteCells s.data.toList) w' ∧ Below B w w' ∧ Lib.OthersKept 5 (some b) w w' := Any.Buffer_WriteString_k Tryd.laysM178 B b bs s w h hBw h1 hlim
open Go.RowKit in
theorem Tryd.Buffer_Reset_k (B b : Nat) (bs : List Value) (w : World) (h : Lib.IsBuffer 96 5 B b bs w) :
    Calls Tryd.prog 162 #[.pointer (some ⟨b, 0, none⟩)] w fun e w' => e = .returned (.tuple #[]) ∧ Lib.IsBuffer 96 5 B b [] w' ∧ Below B w w' ∧ Lib.OthersKept 5 (some b) w w' := Any.Buffer_Reset_k Tryd.laysM184 B b bs w h
open Go.RowKit in
theorem Tryd.Buffer_grow_row0_own (B b g cap n : Nat) (lr : Int) (cur : Array Value) (bs : List Value) (w : World) (hB : B ≤ b) (hBw : B ≤ w.heap.size) (hbk : w.heap[b]? = some (.cells #[.slice (some ⟨g, 0, none⟩) 0 cap, .int .i64 0, .int .i8 lr] 96 (0, 0))) (hl : bs.length = 0) (hBg : B ≤ g) (hg : w.heap[g]? = some (.cells cur 5 (0, 0))) (hlc : 0 ≤ cap) (hcm : cap ≤ maxLen) (hcs : cur.size = cap) (htake : cur.toList.take 0 = bs) (hgb : g ≠ b) (h1 : ∀ v ∈ bs, v.oneCell' = true) (hn : 1 ≤ n) (hroom : cap - 0 < n) (hlim : 0 + n ≤ 140737488355328) :
    Calls Tryd.prog 141 #[.pointer (some ⟨b, 0, none⟩), .int .i64 n] w fun e w' => e = .returned (.int .i64 0) ∧ ∃ xs, xs.length = n ∧ Lib.IsBuffer 96 5 B b (bs ++ xs) w' ∧ Below B w w' ∧ Lib.OthersKept 5 (some b) w w' ∧ w.grownBy w' (some b) := Any.Buffer_grow_row0_own Tryd.laysM252 B b g cap n lr cur bs w hB hBw hbk hl hBg hg hlc hcm hcs htake hgb h1 hn hroom hlim
open Go.RowKit in
theorem Tryd.Buffer_grow_row_own (B b g l cap n : Nat) (lr : Int) (cur : Array Value) (bs : List Value) (w : World) (hB : B ≤ b) (hBw : B ≤ w.heap.size) (hbk : w.heap[b]? = some (.cells #[.slice (some ⟨g, 0, none⟩) l cap, .int .i64 0, .int .i8 lr] 96 (0, 0))) (hl : bs.length = l) (hBg : B ≤ g) (hg : w.heap[g]? = some (.cells cur 5 (0, 0))) (hlc : l ≤ cap) (hcm : cap ≤ maxLen) (hcs : cur.size = cap) (htake : cur.toList.take l = bs) (hgb : g ≠ b) (h1 : ∀ v ∈ bs, v.oneCell' = true) (hn : 1 ≤ n) (hroom : cap - l < n) (hlim : l + n ≤ 140737488355328) :
    Calls Tryd.prog 141 #[.pointer (some ⟨b, 0, none⟩), .int .i64 n] w fun e w' => e = .returned (.int .i64 l) ∧ ∃ xs, xs.length = n ∧ Lib.IsBuffer 96 5 B b (bs ++ xs) w' ∧ Below B w w' ∧ Lib.OthersKept 5 (some b) w w' ∧ w.grownBy w' (some b) := Any.Buffer_grow_row_own Tryd.laysM252 B b g l cap n lr cur bs w hB hBw hbk hl hBg hg hlc hcm hcs htake hgb h1 hn hroom hlim
open Go.RowKit in
theorem Tryd.Buffer_grow_nil_small_own (B b n : Nat) (lr : Int) (w : World) (hB : B ≤ b) (hBw : B ≤ w.heap.size) (hbk : w.heap[b]? = some (.cells #[.slice none 0 0, .int .i64 0, .int .i8 lr] 96 (0, 0))) (hn : 1 ≤ n) (h64 : n ≤ 64) :
    Calls Tryd.prog 141 #[.pointer (some ⟨b, 0, none⟩), .int .i64 n] w fun e w' => e = .returned (.int .i64 0) ∧ ∃ xs, xs.length = n ∧ Lib.IsBuffer 96 5 B b xs w' ∧ Below B w w' ∧ Lib.OthersKept 5 (some b) w w' ∧ w.grownBy w' (some b) := Any.Buffer_grow_nil_small_own Tryd.laysM252 B b n lr w hB hBw hbk hn h64
open Go.RowKit in
theorem Tryd.Buffer_grow_nil_big_own (B b n : Nat) (lr : Int) (w : World) (hB : B ≤ b) (hBw : B ≤ w.heap.size) (hbk : w.heap[b]? = some (.cells #[.slice none 0 0, .int .i64 0, .int .i8 lr] 96 (0, 0))) (h64 : 64 < n) (hlim : n ≤ 140737488355328) :
    Calls Tryd.prog 141 #[.pointer (some ⟨b, 0, none⟩), .int .i64 n] w fun e w' => e = .returned (.int .i64 0) ∧ ∃ xs, xs.length = n ∧ Lib.IsBuffer 96 5 B b xs w' ∧ Below B w w' ∧ Lib.OthersKept 5 (some b) w w' ∧ w.grownBy w' (some b) := Any.Buffer_grow_nil_big_own Tryd.laysM252 B b n lr w hB hBw hbk h64 hlim
open Go.RowKit in
theorem Tryd.Buffer_tryGrow_own (B b n : Nat) (bs : List Value) (w : World) (h : Lib.IsBuffer 96 5 B b bs w) :
    Calls Tryd.prog 140 #[.pointer (some ⟨b, 0, none⟩), .int .i64 n] w fun e w' =>
      (e = .returned (.tuple #[.int .i64 bs.length, .bool true]) ∧ ∃ xs, xs.length = n ∧ Lib.IsBuffer 96 5 B b (bs ++ xs) w' ∧ Below B w w' ∧ Lib.OthersKept 5 (some b) w w' ∧ w.grownBy w' (some b)) ∨
      (e = .returned (.tuple #[.int .i64 0, .bool false]) ∧ w' = w ∧ Lib.NoRoom b n w) := Any.Buffer_tryGrow_own Tryd.laysM251 B b n bs w h
open Go.RowKit in
theorem Tryd.Buffer_grow_own (B b n : Nat) (bs : List Value) (w : World) (h : Lib.IsBuffer 96 5 B b bs w) (hnr : Lib.NoRoom b n w) (hBw : B ≤ w.heap.size) (h1 : ∀ v ∈ bs, v.oneCell' = true) (hlim : bs.length + n ≤ 140737488355328) :
    Calls Tryd.prog 141 #[.pointer (some ⟨b, 0, none⟩), .int .i64 n] w fun e w' => e = .returned (.int .i64 bs.length) ∧ ∃ xs, xs.length = n ∧ Lib.IsBuffer 96 5 B b (bs ++ xs) w' ∧ Below B w w' ∧ Lib.OthersKept 5 (some b) w w' ∧ w.grownBy w' (some b) := Any.Buffer_grow_own Tryd.laysM252 B b n bs w h hnr hBw h1 hlim
def Tryd.laysWr5_ren : Go.Shelf.Ren := ⟨fun | 5 => 120 | 7 => 142 | 8 => 140 | 9 => 141 | 10 => 143 | 11 => 161 | 12 => 162 | 13 => 163 | 14 => 164 | 15 => 170 | n => n, fun | 34 => 119 | 21 => 21 | 3 => 3 | 28 => 81 | 35 => 47 | 4 => 4 | 5 => 5 | 0 => 0 | 26 => 96 | 24 => 94 | 37 => 120 | 22 => 66 | 43 => 49 | 20 => 20 | 31 => 85 | 9 => 9 | n => n, fun | 0 => 5 | n => n⟩
theorem Tryd.laysWr5 : Go.Proofs.LaysWr.n5 Tryd.prog Tryd.laysWr5_ren := {
  mixed := by kernel_rfl
  f5 := Tryd.func120.trans (congrArg some (by kernel_rfl))
  f7 := Tryd.func142.trans (congrArg some (by kernel_rfl))
  f8 := Tryd.func140.trans (congrArg some (by kernel_rfl))
  f9 := Tryd.func141.trans (congrArg some (by kernel_rfl))
  f10 := Tryd.func143.trans (congrArg some (by kernel_rfl))
  f11 := Tryd.func161.trans (congrArg some (by kernel_rfl))
  f12 := Tryd.func162.trans (congrArg some (by kernel_rfl))
  f13 := Tryd.func163.trans (congrArg some (by kernel_rfl))
  f14 := Tryd.func164.trans (congrArg some (by kernel_rfl))
  f15 := Tryd.func170.trans (congrArg some (by kernel_rfl))
  t0 := Tryd.underlying0
  a0 := Tryd.isAgg0
  z0 := Tryd.sizeOf0
  v0 := Tryd.zeroValue0
  i0 := by kernel_rfl
  t3 := Tryd.underlying3
  a3 := Tryd.isAgg3
  z3 := Tryd.sizeOf3
  v3 := Tryd.zeroValue3
  i3 := by kernel_rfl
  t4 := Tryd.underlying4
  a4 := Tryd.isAgg4
  z4 := Tryd.sizeOf4
  v4 := Tryd.zeroValue4
  i4 := by kernel_rfl
  t5 := Tryd.underlying5
  a5 := Tryd.isAgg5
  z5 := Tryd.sizeOf5
  v5 := Tryd.zeroValue5
  i5 := by kernel_rfl
  t9 := Tryd.underlying9
  a9 := Tryd.isAgg9
  z9 := Tryd.sizeOf9
  v9 := Tryd.zeroValue9
  i9 := by kernel_rfl
  t20 := Tryd.underlying20
  a20 := Tryd.isAgg20
  z20 := Tryd.sizeOf20
  v20 := Tryd.zeroValue20
  i20 := by kernel_rfl
  t21 := Tryd.underlying21
  a21 := Tryd.isAgg21
  z21 := Tryd.sizeOf21
  v21 := Tryd.zeroValue21
  i21 := by kernel_rfl
  t22 := Tryd.underlying66
  a22 := Tryd.isAgg66
  z22 := Tryd.sizeOf66
  v22 := Tryd.zeroValue66
  i22 := by kernel_rfl
  t24 := Tryd.underlying94
  a24 := Tryd.isAgg94
  z24 := Tryd.sizeOf94
  v24 := Tryd.zeroValue94
  i24 := by kernel_rfl
  t26 := Tryd.underlying96
  a26 := Tryd.isAgg96
  z26 := Tryd.sizeOf96
  v26 := Tryd.zeroValue96
  i26 := by kernel_rfl
  t28 := Tryd.underlying81
  a28 := Tryd.isAgg81
  z28 := Tryd.sizeOf81
  v28 := Tryd.zeroValue81
  i28 := by kernel_rfl
  t31 := Tryd.underlying85
  a31 := Tryd.isAgg85
  z31 := Tryd.sizeOf85
  v31 := Tryd.zeroValue85
  i31 := by kernel_rfl
  t34 := Tryd.underlying119
  a34 := Tryd.isAgg119
  z34 := Tryd.sizeOf119
  v34 := Tryd.zeroValue119
  i34 := by kernel_rfl
  t35 := Tryd.underlying47
  a35 := Tryd.isAgg47
  z35 := Tryd.sizeOf47
  v35 := Tryd.zeroValue47
  i35 := by kernel_rfl
  t37 := Tryd.underlying120
  a37 := Tryd.isAgg120
  z37 := Tryd.sizeOf120
  v37 := Tryd.zeroValue120
  i37 := by kernel_rfl
  t43 := Tryd.underlying49
  a43 := Tryd.isAgg49
  z43 := Tryd.sizeOf49
  v43 := Tryd.zeroValue49
  i43 := by kernel_rfl
  g0 := by kernel_rfl
  m0 := by kernel_rfl }
open Go.RowKit in
theorem Tryd.Buffer_WriteRune_ascii (B b : Nat) (bs : List Value) (r : Int) (h0 : 0 ≤ r) (h128 : r < 128) (w : World) (h : Lib.IsBuffer 96 5 B b bs w) (hBw : B ≤ w.heap.size) (h1 : ∀ v ∈ bs, v.oneCell' = true) (hlim : bs.length + 1 ≤ 140737488355328) :
    Calls Tryd.prog 120 #[.pointer (some ⟨b, 0, none⟩), .int .i32 r] w fun e w' => e = .returned (.tuple #[.int .i64 1, .nilIface]) ∧ Lib.IsBuffer 96 5 B b (bs ++ [.int .u8 r]) w' ∧ Below B w w' ∧ Lib.OthersKept 5 (some b) w w' := Any.Buffer_WriteRune_ascii Tryd.laysWr5 B b bs r h0 h128 w h hBw h1 hlim
open Go.RowKit in
theorem Tryd.Buffer_WriteRune_other (B b : Nat) (bs : List Value) (r : Int) (hr0 : -2147483648 ≤ r) (hr1 : r ≤ 2147483647) (hna : r < 0 ∨ 128 ≤ r) (w : World) (h : Lib.IsBuffer 96 5 B b bs w) (hBw : B ≤ w.heap.size) (h1 : ∀ v ∈ bs, v.oneCell' = true) (hlim : bs.length + 4 ≤ 140737488355328) :
    Calls Tryd.prog 120 #[.pointer (some ⟨b, 0, none⟩), .int .i32 r] w fun e w' => e = .returned (.tuple #[.int .i64 (Lib.runeCells r).length, .nilIface]) ∧ Lib.IsBuffer 96 5 B b (bs ++ Lib.runeCells r) w' ∧ Below B w w' ∧ Lib.OthersKept 5 (some b) w w' := Any.Buffer_WriteRune_other Tryd.laysWr5 B b bs r hr0 hr1 hna w h hBw h1 hlim
open Go.RowKit in
theorem Tryd.Buffer_WriteRune_k (B b : Nat) (bs : List Value) (r : Int) (hr0 : -2147483648 ≤ r) (hr1 : r ≤ 2147483647) (w : World) (h : Lib.IsBuffer 96 5 B b bs w) (hBw : B ≤ w.heap.size) (h1 : ∀ v ∈ bs, v.oneCell' = true) (hlim : bs.length + 4 ≤ 140737488355328) :
    Calls Tryd.prog 120 #[.pointer (some ⟨b, 0, none⟩), .int .i32 r] w fun e w' => e = .returned (.tuple #[.int .i64 (Lib.runeCells r).length, .nilIface]) ∧ Lib.IsBuffer 96 5 B b (bs ++ Lib.runeCells r) w' ∧ Below B w w' ∧ Lib.OthersKept 5 (some b) w w' := Any.Buffer_WriteRune_k Tryd.laysWr5 B b bs r hr0 hr1 w h hBw h1 hlim
def Tryd.lays315_ren : Go.Shelf.Ren := ⟨fun | 315 => 158 | n => n, fun | 9 => 9 | 40 => 46 | 4 => 4 | 3 => 3 | 0 => 0 | 21 => 21 | n => n, fun | n => n⟩
theorem Tryd.lays315 : Go.Proofs.Lays.n315 Tryd.prog Tryd.lays315_ren := {
  mixed := by kernel_rfl
  f315 := Tryd.func158.trans (congrArg some (by kernel_rfl))
  t0 := Tryd.underlying0
  a0 := Tryd.isAgg0
  z0 := Tryd.sizeOf0
  v0 := Tryd.zeroValue0
  t3 := Tryd.underlying3
  a3 := Tryd.isAgg3
  z3 := Tryd.sizeOf3
  v3 := Tryd.zeroValue3
  t4 := Tryd.underlying4
  a4 := Tryd.isAgg4
  z4 := Tryd.sizeOf4
  v4 := Tryd.zeroValue4
  t9 := Tryd.underlying9
  a9 := Tryd.isAgg9
  z9 := Tryd.sizeOf9
  v9 := Tryd.zeroValue9
  t21 := Tryd.underlying21
  a21 := Tryd.isAgg21
  z21 := Tryd.sizeOf21
  v21 := Tryd.zeroValue21
  t40 := Tryd.underlying46
  a40 := Tryd.isAgg46
  z40 := Tryd.sizeOf46
  v40 := Tryd.zeroValue46 }
open Go.RowKit Go.Lib in
theorem Tryd.strings_indexFunc (g : Nat) (lb : Array Value) (eg : ∀ args w, (callFunc g args).run Tryd.prog w = .ok (.enter g args) w) (p : Nat → Bool) (truth : Bool) (s : ByteArray) (w : World) (hp : PredAt Tryd.prog g lb encR p w) :
    Calls Tryd.prog 158 #[.string s, .func (.func g) #[] lb, .bool truth] w fun e w' => e = .returned (.int .i64 (Lib.idxFunc p truth s)) ∧ Below w.heap.size w w' := Any.strings_indexFunc Tryd.lays315 g lb eg p truth s w hp
def Tryd.lays273_ren : Go.Shelf.Ren := ⟨fun | 273 => 137 | 271 => 159 | 120 => 169 | 197 => 125 | 260 => 150 | n => n, fun | 9 => 9 | 40 => 46 | 4 => 4 | 3 => 3 | 105 => 106 | 21 => 21 | 5 => 5 | 119 => 90 | 0 => 0 | 46 => 49 | 139 => 158 | 138 => 157 | n => n, fun | 3 => 6 | 4 => 7 | n => n⟩
theorem Tryd.lays273 : Go.Proofs.Lays.n273 Tryd.prog Tryd.lays273_ren := {
  mixed := by kernel_rfl
  f120 := Tryd.func169.trans (congrArg some (by kernel_rfl))
  f197 := Tryd.func125.trans (congrArg some (by kernel_rfl))
  f260 := Tryd.func150.trans (congrArg some (by kernel_rfl))
  f271 := Tryd.func159.trans (congrArg some (by kernel_rfl))
  f273 := Tryd.func137.trans (congrArg some (by kernel_rfl))
  t0 := Tryd.underlying0
  a0 := Tryd.isAgg0
  z0 := Tryd.sizeOf0
  v0 := Tryd.zeroValue0
  t3 := Tryd.underlying3
  a3 := Tryd.isAgg3
  z3 := Tryd.sizeOf3
  v3 := Tryd.zeroValue3
  t4 := Tryd.underlying4
  a4 := Tryd.isAgg4
  z4 := Tryd.sizeOf4
  v4 := Tryd.zeroValue4
  t5 := Tryd.underlying5
  a5 := Tryd.isAgg5
  z5 := Tryd.sizeOf5
  v5 := Tryd.zeroValue5
  t9 := Tryd.underlying9
  a9 := Tryd.isAgg9
  z9 := Tryd.sizeOf9
  v9 := Tryd.zeroValue9
  t21 := Tryd.underlying21
  a21 := Tryd.isAgg21
  z21 := Tryd.sizeOf21
  v21 := Tryd.zeroValue21
  t40 := Tryd.underlying46
  a40 := Tryd.isAgg46
  z40 := Tryd.sizeOf46
  v40 := Tryd.zeroValue46
  t46 := Tryd.underlying49
  a46 := Tryd.isAgg49
  z46 := Tryd.sizeOf49
  v46 := Tryd.zeroValue49
  t105 := Tryd.underlying106
  a105 := Tryd.isAgg106
  z105 := Tryd.sizeOf106
  v105 := Tryd.zeroValue106
  t119 := Tryd.underlying90
  a119 := Tryd.isAgg90
  z119 := Tryd.sizeOf90
  t138 := Tryd.underlying157
  a138 := Tryd.isAgg157
  z138 := Tryd.sizeOf157
  v138 := Tryd.zeroValue157
  t139 := Tryd.underlying158
  a139 := Tryd.isAgg158
  z139 := Tryd.sizeOf158
  v139 := Tryd.zeroValue158
  g3 := by kernel_rfl
  g4 := by kernel_rfl }
open Go.RowKit Go.Lib in
theorem Tryd.strings_lastIndexFunc (g : Nat) (lb : Array Value) (eg : ∀ args w, (callFunc g args).run Tryd.prog w = .ok (.enter g args) w) (p : Nat → Bool) (truth : Bool) (s : ByteArray) (w : World) (hs : s.size ≤ 9223372036854775807) (hT : Lib.Utf8Tabs 6 7 w) (hp : PredAt Tryd.prog g lb encR p w) :
    Calls Tryd.prog 137 #[.string s, .func (.func g) #[] lb, .bool truth] w fun e w' => e = .returned (.int .i64 (Lib.lastIdxFunc p truth s)) ∧ Below w.heap.size w w' := Any.strings_lastIndexFunc Tryd.lays273 g lb eg p truth s w hs hT hp
def Tryd.lays272_ren : Go.Shelf.Ren := ⟨fun | 272 => 136 | 315 => 158 | n => n, fun | 9 => 9 | 40 => 46 | 4 => 4 | 3 => 3 | 0 => 0 | 21 => 21 | n => n, fun | n => n⟩
theorem Tryd.lays272 : Go.Proofs.Lays.n272 Tryd.prog Tryd.lays272_ren := {
  mixed := by kernel_rfl
  f272 := Tryd.func136.trans (congrArg some (by kernel_rfl))
  f315 := Tryd.func158.trans (congrArg some (by kernel_rfl))
  t0 := Tryd.underlying0
  a0 := Tryd.isAgg0
  z0 := Tryd.sizeOf0
  v0 := Tryd.zeroValue0
  t3 := Tryd.underlying3
  a3 := Tryd.isAgg3
  z3 := Tryd.sizeOf3
  v3 := Tryd.zeroValue3
  t4 := Tryd.underlying4
  a4 := Tryd.isAgg4
  z4 := Tryd.sizeOf4
  v4 := Tryd.zeroValue4
  t9 := Tryd.underlying9
  a9 := Tryd.isAgg9
  z9 := Tryd.sizeOf9
  v9 := Tryd.zeroValue9
  t21 := Tryd.underlying21
  a21 := Tryd.isAgg21
  z21 := Tryd.sizeOf21
  v21 := Tryd.zeroValue21
  t40 := Tryd.underlying46
  a40 := Tryd.isAgg46
  z40 := Tryd.sizeOf46
  v40 := Tryd.zeroValue46 }
open Go.RowKit Go.Lib in
theorem Tryd.strings_TrimLeftFunc (g : Nat) (lb : Array Value) (eg : ∀ args w, (callFunc g args).run Tryd.prog w = .ok (.enter g args) w) (p : Nat → Bool) (s : ByteArray) (w : World) (hp : PredAt Tryd.prog g lb encR p w) :
    Calls Tryd.prog 136 #[.string s, .func (.func g) #[] lb] w fun e w' => e = .returned (.string (Lib.trimLeftF p s)) ∧ Below w.heap.size w w' := Any.strings_TrimLeftFunc Tryd.lays272 g lb eg p s w hp
def Tryd.lays238_ren : Go.Shelf.Ren := ⟨fun | 238 => 113 | 273 => 137 | 197 => 125 | 271 => 159 | 260 => 150 | 120 => 169 | n => n, fun | 9 => 9 | 40 => 46 | 4 => 4 | 3 => 3 | 105 => 106 | 21 => 21 | 5 => 5 | 119 => 90 | 0 => 0 | 46 => 49 | 139 => 158 | 138 => 157 | n => n, fun | 3 => 6 | 4 => 7 | n => n⟩
theorem Tryd.lays238 : Go.Proofs.Lays.n238 Tryd.prog Tryd.lays238_ren := {
  mixed := by kernel_rfl
  f120 := Tryd.func169.trans (congrArg some (by kernel_rfl))
  f197 := Tryd.func125.trans (congrArg some (by kernel_rfl))
  f238 := Tryd.func113.trans (congrArg some (by kernel_rfl))
  f260 := Tryd.func150.trans (congrArg some (by kernel_rfl))
  f271 := Tryd.func159.trans (congrArg some (by kernel_rfl))
  f273 := Tryd.func137.trans (congrArg some (by kernel_rfl))
  t0 := Tryd.underlying0
  a0 := Tryd.isAgg0
  z0 := Tryd.sizeOf0
  v0 := Tryd.zeroValue0
  t3 := Tryd.underlying3
  a3 := Tryd.isAgg3
  z3 := Tryd.sizeOf3
  v3 := Tryd.zeroValue3
  t4 := Tryd.underlying4
  a4 := Tryd.isAgg4
  z4 := Tryd.sizeOf4
  v4 := Tryd.zeroValue4
  t5 := Tryd.underlying5
  a5 := Tryd.isAgg5
  z5 := Tryd.sizeOf5
  v5 := Tryd.zeroValue5
  t9 := Tryd.underlying9
  a9 := Tryd.isAgg9
  z9 := Tryd.sizeOf9
  v9 := Tryd.zeroValue9
  t21 := Tryd.underlying21
  a21 := Tryd.isAgg21
  z21 := Tryd.sizeOf21
  v21 := Tryd.zeroValue21
  t40 := Tryd.underlying46
  a40 := Tryd.isAgg46
  z40 := Tryd.sizeOf46
  v40 := Tryd.zeroValue46
  t46 := Tryd.underlying49
  a46 := Tryd.isAgg49
  z46 := Tryd.sizeOf49
  v46 := Tryd.zeroValue49
  t105 := Tryd.underlying106
  a105 := Tryd.isAgg106
  z105 := Tryd.sizeOf106
  v105 := Tryd.zeroValue106
  t119 := Tryd.underlying90
  a119 := Tryd.isAgg90
  z119 := Tryd.sizeOf90
  t138 := Tryd.underlying157
  a138 := Tryd.isAgg157
  z138 := Tryd.sizeOf157
  v138 := Tryd.zeroValue157
  t139 := Tryd.underlying158
  a139 := Tryd.isAgg158
  z139 := Tryd.sizeOf158
  v139 := Tryd.zeroValue158
  g3 := by kernel_rfl
  g4 := by kernel_rfl }
open Go.RowKit Go.Lib in
theorem Tryd.strings_TrimRightFunc (g : Nat) (lb : Array Value) (eg : ∀ args w, (callFunc g args).run Tryd.prog w = .ok (.enter g args) w) (p : Nat → Bool) (s : ByteArray) (w : World) (hs : s.size ≤ 9223372036854775807) (hT : Lib.Utf8Tabs 6 7 w) (hp : PredAt Tryd.prog g lb encR p w) :
    Calls Tryd.prog 113 #[.string s, .func (.func g) #[] lb] w fun e w' => e = .returned (.string (Lib.trimRightF p s)) ∧ Below w.heap.size w w' := Any.strings_TrimRightFunc Tryd.lays238 g lb eg p s w hs hT hp
def Tryd.lays237_ren : Go.Shelf.Ren := ⟨fun | 237 => 112 | 272 => 136 | 238 => 113 | 315 => 158 | 273 => 137 | 197 => 125 | 271 => 159 | 260 => 150 | 120 => 169 | n => n, fun | 9 => 9 | 40 => 46 | 4 => 4 | 3 => 3 | 105 => 106 | 21 => 21 | 0 => 0 | 5 => 5 | 119 => 90 | 46 => 49 | 139 => 158 | 138 => 157 | n => n, fun | 3 => 6 | 4 => 7 | n => n⟩
theorem Tryd.lays237 : Go.Proofs.Lays.n237 Tryd.prog Tryd.lays237_ren := {
  mixed := by kernel_rfl
  f120 := Tryd.func169.trans (congrArg some (by kernel_rfl))
  f197 := Tryd.func125.trans (congrArg some (by kernel_rfl))
  f237 := Tryd.func112.trans (congrArg some (by kernel_rfl))
  f238 := Tryd.func113.trans (congrArg some (by kernel_rfl))
  f260 := Tryd.func150.trans (congrArg some (by kernel_rfl))
  f271 := Tryd.func159.trans (congrArg some (by kernel_rfl))
  f272 := Tryd.func136.trans (congrArg some (by kernel_rfl))
  f273 := Tryd.func137.trans (congrArg some (by kernel_rfl))
  f315 := Tryd.func158.trans (congrArg some (by kernel_rfl))
  t0 := Tryd.underlying0
  a0 := Tryd.isAgg0
  z0 := Tryd.sizeOf0
  v0 := Tryd.zeroValue0
  t3 := Tryd.underlying3
  a3 := Tryd.isAgg3
  z3 := Tryd.sizeOf3
  v3 := Tryd.zeroValue3
  t4 := Tryd.underlying4
  a4 := Tryd.isAgg4
  z4 := Tryd.sizeOf4
  v4 := Tryd.zeroValue4
  t5 := Tryd.underlying5
  a5 := Tryd.isAgg5
  z5 := Tryd.sizeOf5
  v5 := Tryd.zeroValue5
  t9 := Tryd.underlying9
  a9 := Tryd.isAgg9
  z9 := Tryd.sizeOf9
  v9 := Tryd.zeroValue9
  t21 := Tryd.underlying21
  a21 := Tryd.isAgg21
  z21 := Tryd.sizeOf21
  v21 := Tryd.zeroValue21
  t40 := Tryd.underlying46
  a40 := Tryd.isAgg46
  z40 := Tryd.sizeOf46
  v40 := Tryd.zeroValue46
  t46 := Tryd.underlying49
  a46 := Tryd.isAgg49
  z46 := Tryd.sizeOf49
  v46 := Tryd.zeroValue49
  t105 := Tryd.underlying106
  a105 := Tryd.isAgg106
  z105 := Tryd.sizeOf106
  v105 := Tryd.zeroValue106
  t119 := Tryd.underlying90
  a119 := Tryd.isAgg90
  z119 := Tryd.sizeOf90
  t138 := Tryd.underlying157
  a138 := Tryd.isAgg157
  z138 := Tryd.sizeOf157
  v138 := Tryd.zeroValue157
  t139 := Tryd.underlying158
  a139 := Tryd.isAgg158
  z139 := Tryd.sizeOf158
  v139 := Tryd.zeroValue158
  g3 := by kernel_rfl
  g4 := by kernel_rfl }
open Go.RowKit Go.Lib in
theorem Tryd.strings_TrimFunc (g : Nat) (lb : Array Value) (eg : ∀ args w, (callFunc g args).run Tryd.prog w = .ok (.enter g args) w) (p : Nat → Bool) (s : ByteArray) (w : World) (hs : s.size ≤ 9223372036854775807) (hT : Lib.Utf8Tabs 6 7 w) (hp : PredAt Tryd.prog g lb encR p w) :
    Calls Tryd.prog 112 #[.string s, .func (.func g) #[] lb] w fun e w' => e = .returned (.string (Lib.trimF p s)) ∧ Below w.heap.size w w' := Any.strings_TrimFunc Tryd.lays237 g lb eg p s w hs hT hp
def Tryd.lays199_ren : Go.Shelf.Ren := ⟨fun | 199 => 101 | 261 => 121 | 311 => 144 | 312 => 145 | n => n, fun | 21 => 21 | 4 => 4 | 51 => 47 | 141 => 101 | 0 => 0 | 196 => 127 | 193 => 124 | 3 => 3 | 198 => 130 | 49 => 128 | 194 => 125 | 201 => 133 | 226 => 150 | 46 => 49 | 227 => 151 | n => n, fun | 6 => 1 | n => n⟩
theorem Tryd.lays199 : Go.Proofs.Lays.n199 Tryd.prog Tryd.lays199_ren := {
  mixed := by kernel_rfl
  f199 := Tryd.func101.trans (congrArg some (by kernel_rfl))
  f261 := Tryd.func121.trans (congrArg some (by kernel_rfl))
  f311 := Tryd.func144.trans (congrArg some (by kernel_rfl))
  f312 := Tryd.func145.trans (congrArg some (by kernel_rfl))
  t0 := Tryd.underlying0
  a0 := Tryd.isAgg0
  z0 := Tryd.sizeOf0
  v0 := Tryd.zeroValue0
  t3 := Tryd.underlying3
  a3 := Tryd.isAgg3
  z3 := Tryd.sizeOf3
  v3 := Tryd.zeroValue3
  t4 := Tryd.underlying4
  a4 := Tryd.isAgg4
  z4 := Tryd.sizeOf4
  v4 := Tryd.zeroValue4
  t21 := Tryd.underlying21
  a21 := Tryd.isAgg21
  z21 := Tryd.sizeOf21
  v21 := Tryd.zeroValue21
  t46 := Tryd.underlying49
  a46 := Tryd.isAgg49
  z46 := Tryd.sizeOf49
  v46 := Tryd.zeroValue49
  t49 := Tryd.underlying128
  a49 := Tryd.isAgg128
  z49 := Tryd.sizeOf128
  v49 := Tryd.zeroValue128
  t51 := Tryd.underlying47
  a51 := Tryd.isAgg47
  z51 := Tryd.sizeOf47
  v51 := Tryd.zeroValue47
  t141 := Tryd.underlying101
  a141 := Tryd.isAgg101
  z141 := Tryd.sizeOf101
  v141 := Tryd.zeroValue101
  t193 := Tryd.underlying124
  a193 := Tryd.isAgg124
  z193 := Tryd.sizeOf124
  v193 := Tryd.zeroValue124
  t194 := Tryd.underlying125
  a194 := Tryd.isAgg125
  z194 := Tryd.sizeOf125
  v194 := Tryd.zeroValue125
  t196 := Tryd.underlying127
  a196 := Tryd.isAgg127
  z196 := Tryd.sizeOf127
  v196 := Tryd.zeroValue127
  t198 := Tryd.underlying130
  a198 := Tryd.isAgg130
  z198 := Tryd.sizeOf130
  v198 := Tryd.zeroValue130
  t201 := Tryd.underlying133
  a201 := Tryd.isAgg133
  z201 := Tryd.sizeOf133
  v201 := Tryd.zeroValue133
  t226 := Tryd.underlying150
  a226 := Tryd.isAgg150
  z226 := Tryd.sizeOf150
  v226 := Tryd.zeroValue150
  t227 := Tryd.underlying151
  a227 := Tryd.isAgg151
  z227 := Tryd.sizeOf151
  v227 := Tryd.zeroValue151
  g6 := by kernel_rfl }
open Go.RowKit Go.Lib in
theorem Tryd.unicode_IsSpace (r : Int) (w : World) (h0 : 0 ≤ r) (h : r ≤ 255) :
    Calls Tryd.prog 101 #[.int .i32 r] w fun e w' => e = .returned (.bool (Lib.isSpaceL r)) ∧ w' = w := Any.unicode_IsSpace Tryd.lays199 r w h0 h
def Tryd.lays204_ren : Go.Shelf.Ren := ⟨fun | 204 => 86 | 262 => 102 | 313 => 122 | 274 => 146 | 275 => 147 | n => n, fun | 21 => 21 | 4 => 4 | 3 => 3 | 162 => 104 | 203 => 102 | 160 => 135 | 46 => 49 | 0 => 0 | 208 => 155 | 51 => 47 | 206 => 153 | n => n, fun | 13 => 2 | n => n⟩
theorem Tryd.lays204 : Go.Proofs.Lays.n204 Tryd.prog Tryd.lays204_ren := {
  mixed := by kernel_rfl
  f204 := Tryd.func86.trans (congrArg some (by kernel_rfl))
  f262 := Tryd.func102.trans (congrArg some (by kernel_rfl))
  f274 := Tryd.func146.trans (congrArg some (by kernel_rfl))
  f275 := Tryd.func147.trans (congrArg some (by kernel_rfl))
  f313 := Tryd.func122.trans (congrArg some (by kernel_rfl))
  t0 := Tryd.underlying0
  a0 := Tryd.isAgg0
  z0 := Tryd.sizeOf0
  v0 := Tryd.zeroValue0
  t3 := Tryd.underlying3
  a3 := Tryd.isAgg3
  z3 := Tryd.sizeOf3
  v3 := Tryd.zeroValue3
  t4 := Tryd.underlying4
  a4 := Tryd.isAgg4
  z4 := Tryd.sizeOf4
  v4 := Tryd.zeroValue4
  t21 := Tryd.underlying21
  a21 := Tryd.isAgg21
  z21 := Tryd.sizeOf21
  v21 := Tryd.zeroValue21
  t46 := Tryd.underlying49
  a46 := Tryd.isAgg49
  z46 := Tryd.sizeOf49
  v46 := Tryd.zeroValue49
  t51 := Tryd.underlying47
  a51 := Tryd.isAgg47
  z51 := Tryd.sizeOf47
  v51 := Tryd.zeroValue47
  t160 := Tryd.underlying135
  a160 := Tryd.isAgg135
  z160 := Tryd.sizeOf135
  v160 := Tryd.zeroValue135
  t162 := Tryd.underlying104
  a162 := Tryd.isAgg104
  z162 := Tryd.sizeOf104
  v162 := Tryd.zeroValue104
  t203 := Tryd.underlying102
  a203 := Tryd.isAgg102
  z203 := Tryd.sizeOf102
  v203 := Tryd.zeroValue102
  t206 := Tryd.underlying153
  a206 := Tryd.isAgg153
  z206 := Tryd.sizeOf153
  v206 := Tryd.zeroValue153
  t208 := Tryd.underlying155
  a208 := Tryd.isAgg155
  z208 := Tryd.sizeOf155
  v208 := Tryd.zeroValue155
  g13 := by kernel_rfl }
open Go.RowKit Go.Lib in
theorem Tryd.unicode_ToLower (r : Int) (w : World) (h : r ≤ 127) :
    Calls Tryd.prog 86 #[.int .i32 r] w fun e w' => e = .returned (.int .i32 (Lib.toLowerR r)) ∧ w' = w := Any.unicode_ToLower Tryd.lays204 r w h
def Tryd.lays197_ren : Go.Shelf.Ren := ⟨fun | 197 => 125 | 260 => 150 | n => n, fun | 9 => 9 | 21 => 21 | 3 => 3 | 4 => 4 | 5 => 5 | 105 => 106 | 119 => 90 | 0 => 0 | 46 => 49 | 139 => 158 | 138 => 157 | n => n, fun | 3 => 6 | 4 => 7 | n => n⟩
theorem Tryd.lays197 : Go.Proofs.Lays.n197 Tryd.prog Tryd.lays197_ren := {
  mixed := by kernel_rfl
  f197 := Tryd.func125.trans (congrArg some (by kernel_rfl))
  f260 := Tryd.func150.trans (congrArg some (by kernel_rfl))
  t0 := Tryd.underlying0
  a0 := Tryd.isAgg0
  z0 := Tryd.sizeOf0
  v0 := Tryd.zeroValue0
  t3 := Tryd.underlying3
  a3 := Tryd.isAgg3
  z3 := Tryd.sizeOf3
  v3 := Tryd.zeroValue3
  t4 := Tryd.underlying4
  a4 := Tryd.isAgg4
  z4 := Tryd.sizeOf4
  v4 := Tryd.zeroValue4
  t5 := Tryd.underlying5
  a5 := Tryd.isAgg5
  z5 := Tryd.sizeOf5
  v5 := Tryd.zeroValue5
  t9 := Tryd.underlying9
  a9 := Tryd.isAgg9
  z9 := Tryd.sizeOf9
  v9 := Tryd.zeroValue9
  t21 := Tryd.underlying21
  a21 := Tryd.isAgg21
  z21 := Tryd.sizeOf21
  v21 := Tryd.zeroValue21
  t46 := Tryd.underlying49
  a46 := Tryd.isAgg49
  z46 := Tryd.sizeOf49
  v46 := Tryd.zeroValue49
  t105 := Tryd.underlying106
  a105 := Tryd.isAgg106
  z105 := Tryd.sizeOf106
  v105 := Tryd.zeroValue106
  t119 := Tryd.underlying90
  a119 := Tryd.isAgg90
  z119 := Tryd.sizeOf90
  t138 := Tryd.underlying157
  a138 := Tryd.isAgg157
  z138 := Tryd.sizeOf157
  v138 := Tryd.zeroValue157
  t139 := Tryd.underlying158
  a139 := Tryd.isAgg158
  z139 := Tryd.sizeOf158
  v139 := Tryd.zeroValue158
  g3 := by kernel_rfl
  g4 := by kernel_rfl }
open Go.RowKit Go.Lib in
theorem Tryd.utf8_DecodeRuneInString_ascii (s : ByteArray) (x : UInt8) (w : World) (h0 : s.data.toList[0]? = some x) (hx : x.toNat < 128) :
    Calls Tryd.prog 125 #[.string s] w fun e w' => e = .returned (.tuple #[.int .i32 x.toNat, .int .i64 1]) ∧ w' = w := Any.utf8_DecodeRuneInString_ascii Tryd.lays197 s x w h0 hx
def Tryd.lays260_ren : Go.Shelf.Ren := ⟨fun | 260 => 150 | n => n, fun | 9 => 9 | 21 => 21 | 3 => 3 | 4 => 4 | 5 => 5 | 119 => 90 | 0 => 0 | 46 => 49 | 139 => 158 | 138 => 157 | n => n, fun | 3 => 6 | 4 => 7 | n => n⟩
theorem Tryd.lays260 : Go.Proofs.Lays.n260 Tryd.prog Tryd.lays260_ren := {
  mixed := by kernel_rfl
  f260 := Tryd.func150.trans (congrArg some (by kernel_rfl))
  t0 := Tryd.underlying0
  a0 := Tryd.isAgg0
  z0 := Tryd.sizeOf0
  v0 := Tryd.zeroValue0
  t3 := Tryd.underlying3
  a3 := Tryd.isAgg3
  z3 := Tryd.sizeOf3
  v3 := Tryd.zeroValue3
  t4 := Tryd.underlying4
  a4 := Tryd.isAgg4
  z4 := Tryd.sizeOf4
  v4 := Tryd.zeroValue4
  t5 := Tryd.underlying5
  a5 := Tryd.isAgg5
  z5 := Tryd.sizeOf5
  v5 := Tryd.zeroValue5
  t9 := Tryd.underlying9
  a9 := Tryd.isAgg9
  z9 := Tryd.sizeOf9
  v9 := Tryd.zeroValue9
  t21 := Tryd.underlying21
  a21 := Tryd.isAgg21
  z21 := Tryd.sizeOf21
  v21 := Tryd.zeroValue21
  t46 := Tryd.underlying49
  a46 := Tryd.isAgg49
  z46 := Tryd.sizeOf49
  v46 := Tryd.zeroValue49
  t119 := Tryd.underlying90
  a119 := Tryd.isAgg90
  z119 := Tryd.sizeOf90
  t138 := Tryd.underlying157
  a138 := Tryd.isAgg157
  z138 := Tryd.sizeOf157
  v138 := Tryd.zeroValue157
  t139 := Tryd.underlying158
  a139 := Tryd.isAgg158
  z139 := Tryd.sizeOf158
  v139 := Tryd.zeroValue158
  g3 := by kernel_rfl
  g4 := by kernel_rfl }
open Go.RowKit Go.Lib in
theorem Tryd.utf8_decodeRuneInStringSlow (s : ByteArray) (w : World) (hT : Lib.Utf8Tabs 6 7 w) :
    Calls Tryd.prog 150 #[.string s] w fun e w' => e = .returned (.tuple #[.int .i32 (Lib.decodeGo s).1, .int .i64 (Lib.decodeGo s).2]) ∧ Below w.heap.size w w' := Any.utf8_decodeRuneInStringSlow Tryd.lays260 s w hT
open Go.RowKit Go.Lib in
theorem Tryd.utf8_DecodeRuneInString (s : ByteArray) (w : World) (hT : Lib.Utf8Tabs 6 7 w) :
    Calls Tryd.prog 125 #[.string s] w fun e w' => e = .returned (.tuple #[.int .i32 (Lib.decodeGo s).1, .int .i64 (Lib.decodeGo s).2]) ∧ Below w.heap.size w w' := Any.utf8_DecodeRuneInString Tryd.lays197 s w hT
def Tryd.lays311_ren : Go.Shelf.Ren := ⟨fun | 311 => 144 | n => n, fun | 193 => 124 | 49 => 128 | 4 => 4 | 3 => 3 | 0 => 0 | 226 => 150 | 198 => 130 | 46 => 49 | n => n, fun | n => n⟩
theorem Tryd.lays311 : Go.Proofs.Lays.n311 Tryd.prog Tryd.lays311_ren := {
  mixed := by kernel_rfl
  f311 := Tryd.func144.trans (congrArg some (by kernel_rfl))
  t0 := Tryd.underlying0
  a0 := Tryd.isAgg0
  z0 := Tryd.sizeOf0
  v0 := Tryd.zeroValue0
  t3 := Tryd.underlying3
  a3 := Tryd.isAgg3
  z3 := Tryd.sizeOf3
  v3 := Tryd.zeroValue3
  t4 := Tryd.underlying4
  a4 := Tryd.isAgg4
  z4 := Tryd.sizeOf4
  v4 := Tryd.zeroValue4
  t46 := Tryd.underlying49
  a46 := Tryd.isAgg49
  z46 := Tryd.sizeOf49
  v46 := Tryd.zeroValue49
  t49 := Tryd.underlying128
  a49 := Tryd.isAgg128
  z49 := Tryd.sizeOf128
  v49 := Tryd.zeroValue128
  t193 := Tryd.underlying124
  a193 := Tryd.isAgg124
  z193 := Tryd.sizeOf124
  v193 := Tryd.zeroValue124
  t198 := Tryd.underlying130
  a198 := Tryd.isAgg130
  z198 := Tryd.sizeOf130
  v198 := Tryd.zeroValue130
  t226 := Tryd.underlying150
  a226 := Tryd.isAgg150
  z226 := Tryd.sizeOf150
  v226 := Tryd.zeroValue150 }
open Go.RowKit Go.Lib in
theorem Tryd.unicode_is16_white (R oR : Nat) (z : Nat) (w : World) (hz : z < 65536) (hz0 : 255 < z) (c6 : w.cell? ⟨R, oR + 6, none⟩ = some (.int .u16 160)) (c7 : w.cell? ⟨R, oR + 7, none⟩ = some (.int .u16 5760)) (c8 : w.cell? ⟨R, oR + 8, none⟩ = some (.int .u16 5600)) (c9 : w.cell? ⟨R, oR + 9, none⟩ = some (.int .u16 8192)) (c10 : w.cell? ⟨R, oR + 10, none⟩ = some (.int .u16 8202)) (c11 : w.cell? ⟨R, oR + 11, none⟩ = some (.int .u16 1)) (c12 : w.cell? ⟨R, oR + 12, none⟩ = some (.int .u16 8232)) (c13 : w.cell? ⟨R, oR + 13, none⟩ = some (.int .u16 8233)) (c14 : w.cell? ⟨R, oR + 14, none⟩ = some (.int .u16 1)) (c15 : w.cell? ⟨R, oR + 15, none⟩ = some (.int .u16 8239)) (c16 : w.cell? ⟨R, oR + 16, none⟩ = some (.int .u16 8287)) (c17 : w.cell? ⟨R, oR + 17, none⟩ = some (.int .u16 48)) (c18 : w.cell? ⟨R, oR + 18, none⟩ = some (.int .u16 12288)) (c19 : w.cell? ⟨R, oR + 19, none⟩ = some (.int .u16 12288)) (c20 : w.cell? ⟨R, oR + 20, none⟩ = some (.int .u16 1)) :
    Calls Tryd.prog 144 #[.slice (some ⟨R, oR + 6, none⟩) 5 5, .int .u16 z] w fun e w' => e = .returned (.bool (Lib.isSpaceR z)) ∧ Below w.heap.size w w' := Any.unicode_is16_white Tryd.lays311 R oR z w hz hz0 c6 c7 c8 c9 c10 c11 c12 c13 c14 c15 c16 c17 c18 c19 c20
def Tryd.lays261_ren : Go.Shelf.Ren := ⟨fun | 261 => 121 | 311 => 144 | 312 => 145 | n => n, fun | 141 => 101 | 21 => 21 | 4 => 4 | 0 => 0 | 196 => 127 | 193 => 124 | 3 => 3 | 51 => 47 | 198 => 130 | 49 => 128 | 194 => 125 | 201 => 133 | 226 => 150 | 46 => 49 | 227 => 151 | n => n, fun | n => n⟩
theorem Tryd.lays261 : Go.Proofs.Lays.n261 Tryd.prog Tryd.lays261_ren := {
  mixed := by kernel_rfl
  f261 := Tryd.func121.trans (congrArg some (by kernel_rfl))
  f311 := Tryd.func144.trans (congrArg some (by kernel_rfl))
  f312 := Tryd.func145.trans (congrArg some (by kernel_rfl))
  t0 := Tryd.underlying0
  a0 := Tryd.isAgg0
  z0 := Tryd.sizeOf0
  v0 := Tryd.zeroValue0
  t3 := Tryd.underlying3
  a3 := Tryd.isAgg3
  z3 := Tryd.sizeOf3
  v3 := Tryd.zeroValue3
  t4 := Tryd.underlying4
  a4 := Tryd.isAgg4
  z4 := Tryd.sizeOf4
  v4 := Tryd.zeroValue4
  t21 := Tryd.underlying21
  a21 := Tryd.isAgg21
  z21 := Tryd.sizeOf21
  v21 := Tryd.zeroValue21
  t46 := Tryd.underlying49
  a46 := Tryd.isAgg49
  z46 := Tryd.sizeOf49
  v46 := Tryd.zeroValue49
  t49 := Tryd.underlying128
  a49 := Tryd.isAgg128
  z49 := Tryd.sizeOf128
  v49 := Tryd.zeroValue128
  t51 := Tryd.underlying47
  a51 := Tryd.isAgg47
  z51 := Tryd.sizeOf47
  v51 := Tryd.zeroValue47
  t141 := Tryd.underlying101
  a141 := Tryd.isAgg101
  z141 := Tryd.sizeOf101
  v141 := Tryd.zeroValue101
  t193 := Tryd.underlying124
  a193 := Tryd.isAgg124
  z193 := Tryd.sizeOf124
  v193 := Tryd.zeroValue124
  t194 := Tryd.underlying125
  a194 := Tryd.isAgg125
  z194 := Tryd.sizeOf125
  v194 := Tryd.zeroValue125
  t196 := Tryd.underlying127
  a196 := Tryd.isAgg127
  z196 := Tryd.sizeOf127
  v196 := Tryd.zeroValue127
  t198 := Tryd.underlying130
  a198 := Tryd.isAgg130
  z198 := Tryd.sizeOf130
  v198 := Tryd.zeroValue130
  t201 := Tryd.underlying133
  a201 := Tryd.isAgg133
  z201 := Tryd.sizeOf133
  v201 := Tryd.zeroValue133
  t226 := Tryd.underlying150
  a226 := Tryd.isAgg150
  z226 := Tryd.sizeOf150
  v226 := Tryd.zeroValue150
  t227 := Tryd.underlying151
  a227 := Tryd.isAgg151
  z227 := Tryd.sizeOf151
  v227 := Tryd.zeroValue151 }
open Go.RowKit Go.Lib in
theorem Tryd.unicode_isExcludingLatin_white (T oT R oR : Nat) (r : Int) (w : World) (hlo : -2147483648 ≤ r) (hhi : r ≤ 2147483647) (hr : r < 0 ∨ 255 < r) (h2 : w.cell? ⟨T, oT, none⟩ = some (.slice (some ⟨R, oR, none⟩) 7 7)) (h3 : w.cell? ⟨T, oT + 1, none⟩ = some (.slice none 0 0)) (h4 : w.cell? ⟨T, oT + 2, none⟩ = some (.int .i64 2)) (h5 : ∀ i, i < 21 → w.cell? ⟨R, oR + i, none⟩ = some (.int .u16 (whiteT.getD i 0))) :
    Calls Tryd.prog 121 #[.pointer (some ⟨T, oT, none⟩), .int .i32 r] w fun e w' => e = .returned (.bool (Lib.isSpaceZ r)) ∧ Below w.heap.size w w' := Any.unicode_isExcludingLatin_white Tryd.lays261 T oT R oR r w hlo hhi hr h2 h3 h4 h5
open Go.RowKit Go.Lib in
theorem Tryd.unicode_IsSpace_any (r : Int) (w : World) (hlo : -2147483648 ≤ r) (hhi : r ≤ 2147483647) (hW : Lib.WhiteTab 1 w) :
    Calls Tryd.prog 101 #[.int .i32 r] w fun e w' => e = .returned (.bool (Lib.isSpaceZ r)) ∧ Below w.heap.size w w' := Any.unicode_IsSpace_any Tryd.lays199 r w hlo hhi hW
def Tryd.lays271_ren : Go.Shelf.Ren := ⟨fun | 271 => 159 | 120 => 169 | 197 => 125 | 260 => 150 | n => n, fun | 9 => 9 | 21 => 21 | 3 => 3 | 4 => 4 | 5 => 5 | 105 => 106 | 119 => 90 | 0 => 0 | 46 => 49 | 139 => 158 | 138 => 157 | n => n, fun | 3 => 6 | 4 => 7 | n => n⟩
theorem Tryd.lays271 : Go.Proofs.Lays.n271 Tryd.prog Tryd.lays271_ren := {
  mixed := by kernel_rfl
  f120 := Tryd.func169.trans (congrArg some (by kernel_rfl))
  f197 := Tryd.func125.trans (congrArg some (by kernel_rfl))
  f260 := Tryd.func150.trans (congrArg some (by kernel_rfl))
  f271 := Tryd.func159.trans (congrArg some (by kernel_rfl))
  t0 := Tryd.underlying0
  a0 := Tryd.isAgg0
  z0 := Tryd.sizeOf0
  v0 := Tryd.zeroValue0
  t3 := Tryd.underlying3
  a3 := Tryd.isAgg3
  z3 := Tryd.sizeOf3
  v3 := Tryd.zeroValue3
  t4 := Tryd.underlying4
  a4 := Tryd.isAgg4
  z4 := Tryd.sizeOf4
  v4 := Tryd.zeroValue4
  t5 := Tryd.underlying5
  a5 := Tryd.isAgg5
  z5 := Tryd.sizeOf5
  v5 := Tryd.zeroValue5
  t9 := Tryd.underlying9
  a9 := Tryd.isAgg9
  z9 := Tryd.sizeOf9
  v9 := Tryd.zeroValue9
  t21 := Tryd.underlying21
  a21 := Tryd.isAgg21
  z21 := Tryd.sizeOf21
  v21 := Tryd.zeroValue21
  t46 := Tryd.underlying49
  a46 := Tryd.isAgg49
  z46 := Tryd.sizeOf49
  v46 := Tryd.zeroValue49
  t105 := Tryd.underlying106
  a105 := Tryd.isAgg106
  z105 := Tryd.sizeOf106
  v105 := Tryd.zeroValue106
  t119 := Tryd.underlying90
  a119 := Tryd.isAgg90
  z119 := Tryd.sizeOf90
  t138 := Tryd.underlying157
  a138 := Tryd.isAgg157
  z138 := Tryd.sizeOf157
  v138 := Tryd.zeroValue157
  t139 := Tryd.underlying158
  a139 := Tryd.isAgg158
  z139 := Tryd.sizeOf158
  v139 := Tryd.zeroValue158
  g3 := by kernel_rfl
  g4 := by kernel_rfl }
open Go.RowKit Go.Lib in
theorem Tryd.utf8_DecodeLastRuneInString (s : ByteArray) (w : World) (hs : s.size ≤ 9223372036854775807) (hT : Lib.Utf8Tabs 6 7 w) :
    Calls Tryd.prog 159 #[.string s] w fun e w' => e = .returned (.tuple #[.int .i32 (Lib.decodeLastL s.data.toList).1, .int .i64 (Lib.decodeLastL s.data.toList).2]) ∧ Below w.heap.size w w' := Any.utf8_DecodeLastRuneInString Tryd.lays271 s w hs hT
open Go.RowKit in
theorem Tryd.strings_TrimSpace_any (s : ByteArray) (w : World) (hs : s.size ≤ 9223372036854775807) (htab : Lib.TabIs Tryd.prog w "strings.asciiSpace" .u8 Lib.asciiSpaceTab) (hU8 : Lib.Utf8Tabs 6 7 w) (hWS : Lib.WhiteTab 1 w) :
    Calls Tryd.prog 94 #[.string s] w fun e w' => e = .returned (.string ⟨(Lib.trimSpaceD s.data.toList).toArray⟩) ∧ Below w.heap.size w w' := Any.strings_TrimSpace_any Tryd.lays163 Tryd.Space_Extra_163 s w hs htab hU8 hWS
def Tryd.lays274_ren : Go.Shelf.Ren := ⟨fun | 274 => 146 | n => n, fun | 21 => 21 | 162 => 104 | 160 => 135 | 3 => 3 | 4 => 4 | 46 => 49 | 0 => 0 | 208 => 155 | 51 => 47 | 206 => 153 | n => n, fun | n => n⟩
theorem Tryd.lays274 : Go.Proofs.Lays.n274 Tryd.prog Tryd.lays274_ren := {
  mixed := by kernel_rfl
  f274 := Tryd.func146.trans (congrArg some (by kernel_rfl))
  t0 := Tryd.underlying0
  a0 := Tryd.isAgg0
  z0 := Tryd.sizeOf0
  v0 := Tryd.zeroValue0
  t3 := Tryd.underlying3
  a3 := Tryd.isAgg3
  z3 := Tryd.sizeOf3
  v3 := Tryd.zeroValue3
  t4 := Tryd.underlying4
  a4 := Tryd.isAgg4
  z4 := Tryd.sizeOf4
  v4 := Tryd.zeroValue4
  t21 := Tryd.underlying21
  a21 := Tryd.isAgg21
  z21 := Tryd.sizeOf21
  v21 := Tryd.zeroValue21
  t46 := Tryd.underlying49
  a46 := Tryd.isAgg49
  z46 := Tryd.sizeOf49
  v46 := Tryd.zeroValue49
  t51 := Tryd.underlying47
  a51 := Tryd.isAgg47
  z51 := Tryd.sizeOf47
  v51 := Tryd.zeroValue47
  t160 := Tryd.underlying135
  a160 := Tryd.isAgg135
  z160 := Tryd.sizeOf135
  v160 := Tryd.zeroValue135
  t162 := Tryd.underlying104
  a162 := Tryd.isAgg104
  z162 := Tryd.sizeOf104
  v162 := Tryd.zeroValue104
  t208 := Tryd.underlying155
  a208 := Tryd.isAgg155
  z208 := Tryd.sizeOf155
  v208 := Tryd.zeroValue155 }
open Go.RowKit Go.Lib in
theorem Tryd.unicode_lookupCaseRange (T : Array CaseRow) (R oR cap : Nat) (r : Int) (w : World) (hT : CaseTab R oR T w) (hok : CaseOk T) (hn : T.size ≤ 1000000000) :
    Calls Tryd.prog 146 #[.int .i32 r, .slice (some ⟨R, oR, none⟩) T.size cap] w fun e w' =>
      e = .returned (match lookupIdx T r (T.size + 1) 0 T.size with | some i => .pointer (some ⟨R, oR + i * 5, none⟩) | none => .pointer none) ∧ w' = w := Any.unicode_lookupCaseRange Tryd.lays274 T R oR cap r w hT hok hn
def Tryd.lays275_ren : Go.Shelf.Ren := ⟨fun | 275 => 147 | n => n, fun | 3 => 3 | 21 => 21 | 160 => 135 | 0 => 0 | 208 => 155 | 206 => 153 | 4 => 4 | 51 => 47 | n => n, fun | n => n⟩
theorem Tryd.lays275 : Go.Proofs.Lays.n275 Tryd.prog Tryd.lays275_ren := {
  mixed := by kernel_rfl
  f275 := Tryd.func147.trans (congrArg some (by kernel_rfl))
  t0 := Tryd.underlying0
  a0 := Tryd.isAgg0
  z0 := Tryd.sizeOf0
  v0 := Tryd.zeroValue0
  t3 := Tryd.underlying3
  a3 := Tryd.isAgg3
  z3 := Tryd.sizeOf3
  v3 := Tryd.zeroValue3
  t4 := Tryd.underlying4
  a4 := Tryd.isAgg4
  z4 := Tryd.sizeOf4
  v4 := Tryd.zeroValue4
  t21 := Tryd.underlying21
  a21 := Tryd.isAgg21
  z21 := Tryd.sizeOf21
  v21 := Tryd.zeroValue21
  t51 := Tryd.underlying47
  a51 := Tryd.isAgg47
  z51 := Tryd.sizeOf47
  v51 := Tryd.zeroValue47
  t160 := Tryd.underlying135
  a160 := Tryd.isAgg135
  z160 := Tryd.sizeOf135
  v160 := Tryd.zeroValue135
  t206 := Tryd.underlying153
  a206 := Tryd.isAgg153
  z206 := Tryd.sizeOf153
  v206 := Tryd.zeroValue153
  t208 := Tryd.underlying155
  a208 := Tryd.isAgg155
  z208 := Tryd.sizeOf155
  v208 := Tryd.zeroValue155 }
open Go.RowKit Go.Lib in
theorem Tryd.unicode_convertCase (c : Nat) (hc : c < 3) (r : Int) (A o : Nat) (x : CaseRow) (w : World) (hlo : (x.1 : Int) ≤ r) (hhi : r ≤ (x.2.1 : Int)) (hH : x.2.1 < 2147483647) (c0 : w.cell? ⟨A, o, none⟩ = some (.int .u32 x.1)) (cD : w.cell? ⟨A, o + 2 + c, none⟩ = some (.int .i32 (x.delta c))) :
    Calls Tryd.prog 147 #[.int .i64 c, .int .i32 r, .pointer (some ⟨A, o, none⟩)] w fun e w' => e = .returned (.int .i32 (wrap32 (convertR c r x))) ∧ ∃ q, w' = w.drewN q := Any.unicode_convertCase Tryd.lays275 c hc r A o x w hlo hhi hH c0 cD
def Tryd.lays313_ren : Go.Shelf.Ren := ⟨fun | 313 => 122 | 274 => 146 | 275 => 147 | n => n, fun | 3 => 3 | 21 => 21 | 162 => 104 | 4 => 4 | 160 => 135 | 46 => 49 | 0 => 0 | 208 => 155 | 51 => 47 | 206 => 153 | n => n, fun | n => n⟩
theorem Tryd.lays313 : Go.Proofs.Lays.n313 Tryd.prog Tryd.lays313_ren := {
  mixed := by kernel_rfl
  f274 := Tryd.func146.trans (congrArg some (by kernel_rfl))
  f275 := Tryd.func147.trans (congrArg some (by kernel_rfl))
  f313 := Tryd.func122.trans (congrArg some (by kernel_rfl))
  t0 := Tryd.underlying0
  a0 := Tryd.isAgg0
  z0 := Tryd.sizeOf0
  v0 := Tryd.zeroValue0
  t3 := Tryd.underlying3
  a3 := Tryd.isAgg3
  z3 := Tryd.sizeOf3
  v3 := Tryd.zeroValue3
  t4 := Tryd.underlying4
  a4 := Tryd.isAgg4
  z4 := Tryd.sizeOf4
  v4 := Tryd.zeroValue4
  t21 := Tryd.underlying21
  a21 := Tryd.isAgg21
  z21 := Tryd.sizeOf21
  v21 := Tryd.zeroValue21
  t46 := Tryd.underlying49
  a46 := Tryd.isAgg49
  z46 := Tryd.sizeOf49
  v46 := Tryd.zeroValue49
  t51 := Tryd.underlying47
  a51 := Tryd.isAgg47
  z51 := Tryd.sizeOf47
  v51 := Tryd.zeroValue47
  t160 := Tryd.underlying135
  a160 := Tryd.isAgg135
  z160 := Tryd.sizeOf135
  v160 := Tryd.zeroValue135
  t162 := Tryd.underlying104
  a162 := Tryd.isAgg104
  z162 := Tryd.sizeOf104
  v162 := Tryd.zeroValue104
  t206 := Tryd.underlying153
  a206 := Tryd.isAgg153
  z206 := Tryd.sizeOf153
  v206 := Tryd.zeroValue153
  t208 := Tryd.underlying155
  a208 := Tryd.isAgg155
  z208 := Tryd.sizeOf155
  v208 := Tryd.zeroValue155 }
open Go.RowKit Go.Lib in
theorem Tryd.unicode_to (c : Nat) (hc : c < 3) (r : Int) (T : Array CaseRow) (R oR cap : Nat) (w : World) (hT : CaseTab R oR T w) (hok : CaseOk2 T) (hn : T.size ≤ 1000000000) :
    Calls Tryd.prog 122 #[.int .i64 c, .int .i32 r, .slice (some ⟨R, oR, none⟩) T.size cap] w fun e w' => e = .returned (.tuple #[.int .i32 (toW T c r), .bool (lookupIdx T r (T.size + 1) 0 T.size).isSome]) ∧ ∃ q, w' = w.drewN q := Any.unicode_to Tryd.lays313 c hc r T R oR cap w hT hok hn
def Tryd.lays262_ren : Go.Shelf.Ren := ⟨fun | 262 => 102 | 313 => 122 | 274 => 146 | 275 => 147 | n => n, fun | 3 => 3 | 21 => 21 | 162 => 104 | 203 => 102 | 4 => 4 | 160 => 135 | 46 => 49 | 0 => 0 | 208 => 155 | 51 => 47 | 206 => 153 | n => n, fun | 13 => 2 | n => n⟩
theorem Tryd.lays262 : Go.Proofs.Lays.n262 Tryd.prog Tryd.lays262_ren := {
  mixed := by kernel_rfl
  f262 := Tryd.func102.trans (congrArg some (by kernel_rfl))
  f274 := Tryd.func146.trans (congrArg some (by kernel_rfl))
  f275 := Tryd.func147.trans (congrArg some (by kernel_rfl))
  f313 := Tryd.func122.trans (congrArg some (by kernel_rfl))
  t0 := Tryd.underlying0
  a0 := Tryd.isAgg0
  z0 := Tryd.sizeOf0
  v0 := Tryd.zeroValue0
  t3 := Tryd.underlying3
  a3 := Tryd.isAgg3
  z3 := Tryd.sizeOf3
  v3 := Tryd.zeroValue3
  t4 := Tryd.underlying4
  a4 := Tryd.isAgg4
  z4 := Tryd.sizeOf4
  v4 := Tryd.zeroValue4
  t21 := Tryd.underlying21
  a21 := Tryd.isAgg21
  z21 := Tryd.sizeOf21
  v21 := Tryd.zeroValue21
  t46 := Tryd.underlying49
  a46 := Tryd.isAgg49
  z46 := Tryd.sizeOf49
  v46 := Tryd.zeroValue49
  t51 := Tryd.underlying47
  a51 := Tryd.isAgg47
  z51 := Tryd.sizeOf47
  v51 := Tryd.zeroValue47
  t160 := Tryd.underlying135
  a160 := Tryd.isAgg135
  z160 := Tryd.sizeOf135
  v160 := Tryd.zeroValue135
  t162 := Tryd.underlying104
  a162 := Tryd.isAgg104
  z162 := Tryd.sizeOf104
  v162 := Tryd.zeroValue104
  t203 := Tryd.underlying102
  a203 := Tryd.isAgg102
  z203 := Tryd.sizeOf102
  v203 := Tryd.zeroValue102
  t206 := Tryd.underlying153
  a206 := Tryd.isAgg153
  z206 := Tryd.sizeOf153
  v206 := Tryd.zeroValue153
  t208 := Tryd.underlying155
  a208 := Tryd.isAgg155
  z208 := Tryd.sizeOf155
  v208 := Tryd.zeroValue155
  g13 := by kernel_rfl }
open Go.RowKit Go.Lib in
theorem Tryd.unicode_To (c : Nat) (hc : c < 3) (r : Int) (T : Array CaseRow) (w : World) (hV : CaseVar 2 T w) (hok : CaseOk2 T) (hn : T.size ≤ 1000000000) :
    Calls Tryd.prog 102 #[.int .i64 c, .int .i32 r] w fun e w' => e = .returned (.int .i32 (toW T c r)) ∧ ∃ q, w' = w.drewN q := Any.unicode_To Tryd.lays262 c hc r T w hV hok hn
open Go.RowKit Go.Lib in
theorem Tryd.unicode_ToLower_any (r : Int) (T : Array CaseRow) (w : World) (hV : CaseVar 2 T w) (hok : CaseOk2 T) (hn : T.size ≤ 1000000000) :
    Calls Tryd.prog 86 #[.int .i32 r] w fun e w' => e = .returned (.int .i32 (Lib.toLowerW T r)) ∧ ∃ q, w' = w.drewN q := Any.unicode_ToLower_any Tryd.lays204 r T w hV hok hn
open Go.RowKit Go.Lib in
theorem Tryd.unicode_ToLower_laid (r : Int) (w : World) (hV : CaseVar 2 caseA w) :
    Calls Tryd.prog 86 #[.int .i32 r] w fun e w' => e = .returned (.int .i32 (toLowerU r)) ∧ ∃ q, w' = w.drewN q := Any.unicode_ToLower_laid Tryd.lays204 r w hV
open Go.RowKit Go.Lib in
theorem Tryd.unicode_is16_any (T : Array Rg) (R oR cap : Nat) (z : Nat) (w : World) (hz : z < 65536) (hT : RgTab .u16 R oR T w) (hok : RgOk 65536 T) (hn : T.size ≤ 1000000000) :
    Calls Tryd.prog 144 #[.slice (some ⟨R, oR, none⟩) T.size cap, .int .u16 z] w fun e w' => e = .returned (.bool (is16Go T z)) ∧ ∃ q, w' = w.drewN q := Any.unicode_is16_any Tryd.lays311 T R oR cap z w hz hT hok hn
def Tryd.lays312_ren : Go.Shelf.Ren := ⟨fun | 312 => 145 | n => n, fun | 194 => 125 | 51 => 47 | 4 => 4 | 3 => 3 | 0 => 0 | 227 => 151 | 201 => 133 | 46 => 49 | n => n, fun | n => n⟩
theorem Tryd.lays312 : Go.Proofs.Lays.n312 Tryd.prog Tryd.lays312_ren := {
  mixed := by kernel_rfl
  f312 := Tryd.func145.trans (congrArg some (by kernel_rfl))
  t0 := Tryd.underlying0
  a0 := Tryd.isAgg0
  z0 := Tryd.sizeOf0
  v0 := Tryd.zeroValue0
  t3 := Tryd.underlying3
  a3 := Tryd.isAgg3
  z3 := Tryd.sizeOf3
  v3 := Tryd.zeroValue3
  t4 := Tryd.underlying4
  a4 := Tryd.isAgg4
  z4 := Tryd.sizeOf4
  v4 := Tryd.zeroValue4
  t46 := Tryd.underlying49
  a46 := Tryd.isAgg49
  z46 := Tryd.sizeOf49
  v46 := Tryd.zeroValue49
  t51 := Tryd.underlying47
  a51 := Tryd.isAgg47
  z51 := Tryd.sizeOf47
  v51 := Tryd.zeroValue47
  t194 := Tryd.underlying125
  a194 := Tryd.isAgg125
  z194 := Tryd.sizeOf125
  v194 := Tryd.zeroValue125
  t201 := Tryd.underlying133
  a201 := Tryd.isAgg133
  z201 := Tryd.sizeOf133
  v201 := Tryd.zeroValue133
  t227 := Tryd.underlying151
  a227 := Tryd.isAgg151
  z227 := Tryd.sizeOf151
  v227 := Tryd.zeroValue151 }
open Go.RowKit Go.Lib in
theorem Tryd.unicode_is32_any (T : Array Rg) (R oR cap : Nat) (z : Nat) (w : World) (hz : z < 4294967296) (hT : RgTab .u32 R oR T w) (hok : RgOk 4294967296 T) (hn : T.size ≤ 1000000000) :
    Calls Tryd.prog 145 #[.slice (some ⟨R, oR, none⟩) T.size cap, .int .u32 z] w fun e w' => e = .returned (.bool (is32Go T z)) ∧ Below w.heap.size w w' := Any.unicode_is32_any Tryd.lays312 T R oR cap z w hz hT hok hn
open Go.RowKit Go.Lib in
theorem Tryd.unicode_isExcludingLatin_any (Tb oT : Nat) (T : RTab) (r : Int) (w : World) (hlo : -2147483648 ≤ r) (hhi : r ≤ 2147483647) (hA : RTabAt Tb oT T w) (hok : RTabOk T) :
    Calls Tryd.prog 121 #[.pointer (some ⟨Tb, oT, none⟩), .int .i32 r] w fun e w' => e = .returned (.bool (exclGo T r)) ∧ Below w.heap.size w w' := Any.unicode_isExcludingLatin_any Tryd.lays261 Tb oT T r w hlo hhi hA hok
open Go.RowKit Go.Lib in
theorem Tryd.strings_indexFunc_grows (g : Nat) (lb : Array Value) (eg : ∀ args w, (callFunc g args).run Tryd.prog w = .ok (.enter g args) w) (p : Nat → Bool) (truth : Bool) (s : ByteArray) (w : World) (hp : PredGrows Tryd.prog g lb p w) :
    Calls Tryd.prog 158 #[.string s, .func (.func g) #[] lb, .bool truth] w fun e w' => e = .returned (.int .i64 (Lib.idxFunc p truth s)) ∧ Below w.heap.size w w' := Any.strings_indexFunc_grows Tryd.lays315 g lb eg p truth s w hp
open Go.RowKit Go.Lib in
theorem Tryd.strings_lastIndexFunc_grows (g : Nat) (lb : Array Value) (eg : ∀ args w, (callFunc g args).run Tryd.prog w = .ok (.enter g args) w) (p : Nat → Bool) (truth : Bool) (s : ByteArray) (w : World) (hs : s.size ≤ 9223372036854775807) (hT : Lib.Utf8Tabs 6 7 w) (hp : PredGrows Tryd.prog g lb p w) :
    Calls Tryd.prog 137 #[.string s, .func (.func g) #[] lb, .bool truth] w fun e w' => e = .returned (.int .i64 (Lib.lastIdxFunc p truth s)) ∧ Below w.heap.size w w' := Any.strings_lastIndexFunc_grows Tryd.lays273 g lb eg p truth s w hs hT hp
open Go.RowKit Go.Lib in
theorem Tryd.strings_TrimLeftFunc_grows (g : Nat) (lb : Array Value) (eg : ∀ args w, (callFunc g args).run Tryd.prog w = .ok (.enter g args) w) (p : Nat → Bool) (s : ByteArray) (w : World) (hp : PredGrows Tryd.prog g lb p w) :
    Calls Tryd.prog 136 #[.string s, .func (.func g) #[] lb] w fun e w' => e = .returned (.string (Lib.trimLeftF p s)) ∧ Below w.heap.size w w' := Any.strings_TrimLeftFunc_grows Tryd.lays272 g lb eg p s w hp
open Go.RowKit Go.Lib in
theorem Tryd.strings_TrimRightFunc_grows (g : Nat) (lb : Array Value) (eg : ∀ args w, (callFunc g args).run Tryd.prog w = .ok (.enter g args) w) (p : Nat → Bool) (s : ByteArray) (w : World) (hs : s.size ≤ 9223372036854775807) (hT : Lib.Utf8Tabs 6 7 w) (hp : PredGrows Tryd.prog g lb p w) :
    Calls Tryd.prog 113 #[.string s, .func (.func g) #[] lb] w fun e w' => e = .returned (.string (Lib.trimRightF p s)) ∧ Below w.heap.size w w' := Any.strings_TrimRightFunc_grows Tryd.lays238 g lb eg p s w hs hT hp
open Go.RowKit Go.Lib in
theorem Tryd.strings_TrimFunc_grows (g : Nat) (lb : Array Value) (eg : ∀ args w, (callFunc g args).run Tryd.prog w = .ok (.enter g args) w) (p : Nat → Bool) (s : ByteArray) (w : World) (hs : s.size ≤ 9223372036854775807) (hT : Lib.Utf8Tabs 6 7 w) (hp : PredGrows Tryd.prog g lb p w) :
    Calls Tryd.prog 112 #[.string s, .func (.func g) #[] lb] w fun e w' => e = .returned (.string (Lib.trimF p s)) ∧ Below w.heap.size w w' := Any.strings_TrimFunc_grows Tryd.lays237 g lb eg p s w hs hT hp
end Go.Proofs
