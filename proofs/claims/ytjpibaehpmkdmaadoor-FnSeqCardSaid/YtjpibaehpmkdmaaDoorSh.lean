/-
  DERIVED: THE SHELF's CONTRACTS AT THIS DUMP, IN PLAIN WORDS (tools/lay-plain.mjs out of 'YtjpibaehpmkdmaaDoorShelf.lean', which tools/lay-shelf.mjs wrote): THE SAME DECLARATIONS UNDER THE SAME NAMES: 'import', 'namespace', 'open', 'def', 'theorem' AND NOTHING ELSE: no command of the shelf's: FOR A HAND-IN. Each laying: the table of numbers ('.._ren') and one theorem, a field a fact of the dump's own or the kernel's comparison; each contract: ONE APPLICATION.
-/
import Derived.Shelf.Strings.Builder1
import Derived.Shelf.Strings.Builder2
import Derived.Shelf.Strings.OnBuilder
import Derived.Shelf.Small.Utf8
import Derived.Shelf.Strconv.Itoa0
import Derived.Shelf.Strconv.Itoa1
import Derived.Shelf.LaysM
import Derived.Shelf.Strconv.Itoa2
import Derived.Shelf.Strconv.Itoa3
import Derived.Shelf.Strconv.Itoa4
import Derived.Shelf.Bytes.Len
import Derived.Shelf.Bytes.TryGrow
import Derived.Shelf.Bytes.GrowSliceCatch
import Derived.Shelf.Bytes.GrowSlice
import Derived.Shelf.Bytes.GrowRow0
import Derived.Shelf.Bytes.GrowRow
import Derived.Shelf.Bytes.GrowNil
import Derived.Shelf.Bytes.Grow
import Derived.Shelf.Bytes.WriteString
import Derived.Shelf.Bytes.String
import Derived.Shelf.Bytes.GrowRow0Kept
import Derived.Shelf.Bytes.GrowRowKept
import Derived.Shelf.Bytes.GrowNilKept
import Derived.Shelf.Bytes.GrowKept
import Derived.Shelf.Bytes.WriteStringKept
import Derived.Shelf.Bytes.ResetKept
import Derived.Shelf.Strings.LastIndex
import Derived.Shelf.Bytes.BufferK
import Derived.Shelf.Unicode.Latin
import Derived.Shelf.Unicode.DecodeSlow
import Derived.Shelf.Unicode.DecodeAny
import Derived.Test.YtjpibaehpmkdmaaDoorProg
namespace Go.Proofs
open Go.Shelf
def Tryd.lays169_ren : Go.Shelf.Ren := ⟨fun | 169 => 69 | n => n, fun | 70 => 74 | 9 => 9 | 0 => 0 | 72 => 84 | 37 => 64 | 127 => 105 | 3 => 3 | 5 => 5 | n => n, fun | n => n⟩
theorem Tryd.lays169 : Go.Proofs.Lays.n169 Tryd.prog Tryd.lays169_ren := {
  mixed := by kernel_rfl
  f169 := Tryd.func69.trans (congrArg some (by kernel_rfl))
  t0 := Tryd.underlying0
  a0 := Tryd.isAgg0
  z0 := Tryd.sizeOf0
  v0 := Tryd.zeroValue0
  t3 := Tryd.underlying3
  a3 := Tryd.isAgg3
  z3 := Tryd.sizeOf3
  v3 := Tryd.zeroValue3
  t9 := Tryd.underlying9
  a9 := Tryd.isAgg9
  z9 := Tryd.sizeOf9
  v9 := Tryd.zeroValue9
  t37 := Tryd.underlying64
  a37 := Tryd.isAgg64
  z37 := Tryd.sizeOf64
  v37 := Tryd.zeroValue64
  t70 := Tryd.underlying74
  a70 := Tryd.isAgg74
  z70 := Tryd.sizeOf74
  v70 := Tryd.zeroValue74
  t72 := Tryd.underlying84
  a72 := Tryd.isAgg84
  z72 := Tryd.sizeOf84
  v72 := Tryd.zeroValue84
  t127 := Tryd.underlying105
  a127 := Tryd.isAgg105
  z127 := Tryd.sizeOf105
  v127 := Tryd.zeroValue105 }
theorem Tryd.Builder_Extra_169 : Builder.Extra Tryd.prog Tryd.lays169_ren := {
  sizeBuilder := by kernel_rfl
  liesBuilder := by kernel_rfl
  t5 := Tryd.underlying5
  a5 := Tryd.isAgg5
  z5 := Tryd.sizeOf5
  v5 := Tryd.zeroValue5
  infoByte := by kernel_rfl
  cellsByte := by kernel_rfl
  sizeByte := by kernel_rfl
  neB5 := by decide }
open Go.RowKit in
/-- (*strings.Builder).String: "String returns the accumulated string.": OF A BUILDER THAT HOLDS AT LEAST ONE BYTE. ✋ THE MODEL FREEZES THOSE BYTES IN THE BUFFER (unsafe.String): a later write INTO them ends the model's run without an answer; a later append BEHIND them goes on. The statement's order of evaluation is drawn: one draw. (LAID: no walk: one application.) -/
theorem Tryd.Builder_String (B b : Nat) (l : List UInt8) (w : World) (h : Lib.IsBuilder 84 5 B b (Lib.byteCells l) w) (h0 : l ≠ []) :
    Calls Tryd.prog 69 #[.pointer (some ⟨b, 0, none⟩)] w fun e w' => e = .returned (.string ⟨l.toArray⟩) ∧ Below B w w' := Any.Builder_String Tryd.lays169 Tryd.Builder_Extra_169 B b l w h h0
open Go.RowKit in
/-- (*strings.Builder).String OF A BUILDER THAT HOLDS NO BYTE: the empty string. (Its buffer is nil, or a row of which it has taken nothing yet; where that row has NO capacity the model lays one new block for unsafe.SliceData's 'some address'.) One draw. (LAID: no walk: one application.) -/
theorem Tryd.Builder_String_empty (B b : Nat) (w : World) (h : Lib.IsBuilder 84 5 B b [] w) (hBw : B ≤ w.heap.size) :
    Calls Tryd.prog 69 #[.pointer (some ⟨b, 0, none⟩)] w fun e w' => e = .returned (.string ⟨#[]⟩) ∧ Below B w w' := Any.Builder_String_empty Tryd.lays169 Tryd.Builder_Extra_169 B b w h hBw
open Go.RowKit in
/-- (*strings.Builder).String: "String returns the accumulated string.": WHATEVER THE BUILDER HOLDS. (LAID: no walk: one application.) -/
theorem Tryd.Builder_String_any (B b : Nat) (l : List UInt8) (w : World) (h : Lib.IsBuilder 84 5 B b (Lib.byteCells l) w) (hBw : B ≤ w.heap.size) :
    Calls Tryd.prog 69 #[.pointer (some ⟨b, 0, none⟩)] w fun e w' => e = .returned (.string ⟨l.toArray⟩) ∧ Below B w w' := Any.Builder_String_any Tryd.lays169 Tryd.Builder_Extra_169 B b l w h hBw
def Tryd.lays241_ren : Go.Shelf.Ren := ⟨fun | 241 => 92 | 277 => 111 | n => n, fun | 70 => 74 | 3 => 3 | 0 => 0 | 72 => 84 | 37 => 64 | 5 => 5 | n => n, fun | n => n⟩
theorem Tryd.lays241 : Go.Proofs.Lays.n241 Tryd.prog Tryd.lays241_ren := {
  mixed := by kernel_rfl
  f241 := Tryd.func92.trans (congrArg some (by kernel_rfl))
  f277 := Tryd.func111.trans (congrArg some (by kernel_rfl))
  t0 := Tryd.underlying0
  a0 := Tryd.isAgg0
  z0 := Tryd.sizeOf0
  v0 := Tryd.zeroValue0
  t3 := Tryd.underlying3
  a3 := Tryd.isAgg3
  z3 := Tryd.sizeOf3
  v3 := Tryd.zeroValue3
  t37 := Tryd.underlying64
  a37 := Tryd.isAgg64
  z37 := Tryd.sizeOf64
  v37 := Tryd.zeroValue64
  t70 := Tryd.underlying74
  a70 := Tryd.isAgg74
  z70 := Tryd.sizeOf74
  v70 := Tryd.zeroValue74
  t72 := Tryd.underlying84
  a72 := Tryd.isAgg84
  z72 := Tryd.sizeOf84
  v72 := Tryd.zeroValue84 }
theorem Tryd.Builder_Extra_241 : Builder.Extra Tryd.prog Tryd.lays241_ren := {
  sizeBuilder := by kernel_rfl
  liesBuilder := by kernel_rfl
  t5 := Tryd.underlying5
  a5 := Tryd.isAgg5
  z5 := Tryd.sizeOf5
  v5 := Tryd.zeroValue5
  infoByte := by kernel_rfl
  cellsByte := by kernel_rfl
  sizeByte := by kernel_rfl
  neB5 := by decide }
open Go.RowKit in
/-- (*strings.Builder).grow (no doc but "grow copies the buffer to a new, larger buffer so that there are at least n bytes of capacity beyond len(b.buf)."): AT A BUILDER WITHOUT A BUFFER: a new row of whatever bytes for its buffer, none of them its own yet. Three draws. (LAID: no walk: one application.) -/
theorem Tryd.Builder_grow_fresh (B b n : Nat) (w : World) (hB : B ≤ b) (hbk : w.heap[b]? = some (.cells #[.pointer (some ⟨b, 0, none⟩), .slice none 0 0] 84 (0, 0))) (hBw : B ≤ w.heap.size) (hn : n ≤ 281474976710656) :
    Calls Tryd.prog 92 #[.pointer (some ⟨b, 0, none⟩), .int .i64 n] w fun e w' => e = .returned (.tuple #[]) ∧ (Lib.BuilderAt 84 5 B b (.pointer (some ⟨b, 0, none⟩)) [] w' ∧ Below B w w') := Any.Builder_grow_fresh Tryd.lays241 Tryd.Builder_Extra_241 B b n w hB hbk hBw hn
def Tryd.lays165_ren : Go.Shelf.Ren := ⟨fun | 165 => 74 | 240 => 89 | 241 => 92 | 276 => 106 | 277 => 111 | n => n, fun | 70 => 74 | 3 => 3 | 0 => 0 | 4 => 4 | 9 => 9 | 20 => 20 | 72 => 84 | 37 => 64 | 164 => 138 | 5 => 5 | n => n, fun | n => n⟩
theorem Tryd.lays165 : Go.Proofs.Lays.n165 Tryd.prog Tryd.lays165_ren := {
  mixed := by kernel_rfl
  f165 := Tryd.func74.trans (congrArg some (by kernel_rfl))
  f240 := Tryd.func89.trans (congrArg some (by kernel_rfl))
  f241 := Tryd.func92.trans (congrArg some (by kernel_rfl))
  f276 := Tryd.func106.trans (congrArg some (by kernel_rfl))
  f277 := Tryd.func111.trans (congrArg some (by kernel_rfl))
  t0 := Tryd.underlying0
  a0 := Tryd.isAgg0
  z0 := Tryd.sizeOf0
  v0 := Tryd.zeroValue0
  t3 := Tryd.underlying3
  a3 := Tryd.isAgg3
  z3 := Tryd.sizeOf3
  v3 := Tryd.zeroValue3
  t4 := Tryd.underlying4
  a4 := Tryd.isAgg4
  z4 := Tryd.sizeOf4
  v4 := Tryd.zeroValue4
  t9 := Tryd.underlying9
  a9 := Tryd.isAgg9
  z9 := Tryd.sizeOf9
  v9 := Tryd.zeroValue9
  t20 := Tryd.underlying20
  a20 := Tryd.isAgg20
  z20 := Tryd.sizeOf20
  v20 := Tryd.zeroValue20
  t37 := Tryd.underlying64
  a37 := Tryd.isAgg64
  z37 := Tryd.sizeOf64
  v37 := Tryd.zeroValue64
  t70 := Tryd.underlying74
  a70 := Tryd.isAgg74
  z70 := Tryd.sizeOf74
  v70 := Tryd.zeroValue74
  t72 := Tryd.underlying84
  a72 := Tryd.isAgg84
  z72 := Tryd.sizeOf84
  v72 := Tryd.zeroValue84
  t164 := Tryd.underlying138
  a164 := Tryd.isAgg138
  z164 := Tryd.sizeOf138
  v164 := Tryd.zeroValue138 }
theorem Tryd.Builder_Extra_165 : Builder.Extra Tryd.prog Tryd.lays165_ren := {
  sizeBuilder := by kernel_rfl
  liesBuilder := by kernel_rfl
  t5 := Tryd.underlying5
  a5 := Tryd.isAgg5
  z5 := Tryd.sizeOf5
  v5 := Tryd.zeroValue5
  infoByte := by kernel_rfl
  cellsByte := by kernel_rfl
  sizeByte := by kernel_rfl
  neB5 := by decide }
open Go.RowKit in
/-- (*strings.Builder).Grow AT A BUILDER THAT HAS NOT BEEN WRITTEN ('var b strings.Builder; b.Grow(n)'): "Grow grows b's capacity, if necessary, to guarantee space for another n bytes.": it holds no byte behind it as before it. (LAID: no walk: one application.) -/
theorem Tryd.Builder_Grow_fresh (B b n : Nat) (w : World) (hB : B ≤ b) (hbk : w.heap[b]? = some (.cells #[.pointer none, .slice none 0 0] 84 (0, 0))) (hBw : B ≤ w.heap.size) (hn : n ≤ 281474976710656) :
    Calls Tryd.prog 74 #[.pointer (some ⟨b, 0, none⟩), .int .i64 n] w fun e w' => e = .returned (.tuple #[]) ∧ (Lib.BuilderAt 84 5 B b (.pointer (some ⟨b, 0, none⟩)) [] w' ∧ Below B w w') := Any.Builder_Grow_fresh Tryd.lays165 Tryd.Builder_Extra_165 B b n w hB hbk hBw hn
def Tryd.lays159_ren : Go.Shelf.Ren := ⟨fun | 159 => 55 | 165 => 74 | 166 => 68 | 167 => 75 | 169 => 69 | 230 => 76 | 204 => 56 | 240 => 89 | 241 => 92 | 197 => 64 | 118 => 93 | 168 => 88 | 270 => 94 | 262 => 71 | 276 => 106 | 277 => 111 | 260 => 86 | 242 => 105 | 313 => 91 | 278 => 122 | 274 => 109 | 275 => 110 | n => n, fun | 9 => 9 | 4 => 4 | 3 => 3 | 5 => 5 | 72 => 84 | 0 => 0 | 76 => 78 | 75 => 77 | 107 => 62 | 70 => 74 | 20 => 20 | 37 => 64 | 127 => 105 | 21 => 21 | 105 => 70 | 164 => 138 | 162 => 110 | 203 => 72 | 119 => 132 | 46 => 133 | 139 => 136 | 138 => 135 | 51 => 106 | 160 => 151 | 208 => 169 | 206 => 167 | 80 => 80 | n => n, fun | 13 => 1 | 3 => 2 | 4 => 3 | n => n⟩
theorem Tryd.lays159 : Go.Proofs.Lays.n159 Tryd.prog Tryd.lays159_ren := {
  mixed := by kernel_rfl
  f118 := Tryd.func93.trans (congrArg some (by kernel_rfl))
  f159 := Tryd.func55.trans (congrArg some (by kernel_rfl))
  f165 := Tryd.func74.trans (congrArg some (by kernel_rfl))
  f166 := Tryd.func68.trans (congrArg some (by kernel_rfl))
  f167 := Tryd.func75.trans (congrArg some (by kernel_rfl))
  f168 := Tryd.func88.trans (congrArg some (by kernel_rfl))
  f169 := Tryd.func69.trans (congrArg some (by kernel_rfl))
  f197 := Tryd.func64.trans (congrArg some (by kernel_rfl))
  f204 := Tryd.func56.trans (congrArg some (by kernel_rfl))
  f230 := Tryd.func76.trans (congrArg some (by kernel_rfl))
  f240 := Tryd.func89.trans (congrArg some (by kernel_rfl))
  f241 := Tryd.func92.trans (congrArg some (by kernel_rfl))
  f242 := Tryd.func105.trans (congrArg some (by kernel_rfl))
  f260 := Tryd.func86.trans (congrArg some (by kernel_rfl))
  f262 := Tryd.func71.trans (congrArg some (by kernel_rfl))
  f270 := Tryd.func94.trans (congrArg some (by kernel_rfl))
  f274 := Tryd.func109.trans (congrArg some (by kernel_rfl))
  f275 := Tryd.func110.trans (congrArg some (by kernel_rfl))
  f276 := Tryd.func106.trans (congrArg some (by kernel_rfl))
  f277 := Tryd.func111.trans (congrArg some (by kernel_rfl))
  f278 := Tryd.func122.trans (congrArg some (by kernel_rfl))
  f313 := Tryd.func91.trans (congrArg some (by kernel_rfl))
  t0 := Tryd.underlying0
  a0 := Tryd.isAgg0
  z0 := Tryd.sizeOf0
  v0 := Tryd.zeroValue0
  t3 := Tryd.underlying3
  a3 := Tryd.isAgg3
  z3 := Tryd.sizeOf3
  v3 := Tryd.zeroValue3
  t4 := Tryd.underlying4
  a4 := Tryd.isAgg4
  z4 := Tryd.sizeOf4
  v4 := Tryd.zeroValue4
  t5 := Tryd.underlying5
  a5 := Tryd.isAgg5
  z5 := Tryd.sizeOf5
  v5 := Tryd.zeroValue5
  t9 := Tryd.underlying9
  a9 := Tryd.isAgg9
  z9 := Tryd.sizeOf9
  v9 := Tryd.zeroValue9
  t20 := Tryd.underlying20
  a20 := Tryd.isAgg20
  z20 := Tryd.sizeOf20
  v20 := Tryd.zeroValue20
  t21 := Tryd.underlying21
  a21 := Tryd.isAgg21
  z21 := Tryd.sizeOf21
  v21 := Tryd.zeroValue21
  t37 := Tryd.underlying64
  a37 := Tryd.isAgg64
  z37 := Tryd.sizeOf64
  v37 := Tryd.zeroValue64
  t46 := Tryd.underlying133
  a46 := Tryd.isAgg133
  z46 := Tryd.sizeOf133
  v46 := Tryd.zeroValue133
  t51 := Tryd.underlying106
  a51 := Tryd.isAgg106
  z51 := Tryd.sizeOf106
  v51 := Tryd.zeroValue106
  t70 := Tryd.underlying74
  a70 := Tryd.isAgg74
  z70 := Tryd.sizeOf74
  v70 := Tryd.zeroValue74
  t72 := Tryd.underlying84
  a72 := Tryd.isAgg84
  z72 := Tryd.sizeOf84
  v72 := Tryd.zeroValue84
  t75 := Tryd.underlying77
  a75 := Tryd.isAgg77
  z75 := Tryd.sizeOf77
  v75 := Tryd.zeroValue77
  t76 := Tryd.underlying78
  a76 := Tryd.isAgg78
  z76 := Tryd.sizeOf78
  v76 := Tryd.zeroValue78
  t105 := Tryd.underlying70
  a105 := Tryd.isAgg70
  z105 := Tryd.sizeOf70
  v105 := Tryd.zeroValue70
  t107 := Tryd.underlying62
  a107 := Tryd.isAgg62
  z107 := Tryd.sizeOf62
  v107 := Tryd.zeroValue62
  t119 := Tryd.underlying132
  a119 := Tryd.isAgg132
  z119 := Tryd.sizeOf132
  t127 := Tryd.underlying105
  a127 := Tryd.isAgg105
  z127 := Tryd.sizeOf105
  v127 := Tryd.zeroValue105
  t138 := Tryd.underlying135
  a138 := Tryd.isAgg135
  z138 := Tryd.sizeOf135
  v138 := Tryd.zeroValue135
  t139 := Tryd.underlying136
  a139 := Tryd.isAgg136
  z139 := Tryd.sizeOf136
  v139 := Tryd.zeroValue136
  t160 := Tryd.underlying151
  a160 := Tryd.isAgg151
  z160 := Tryd.sizeOf151
  v160 := Tryd.zeroValue151
  t162 := Tryd.underlying110
  a162 := Tryd.isAgg110
  z162 := Tryd.sizeOf110
  v162 := Tryd.zeroValue110
  t164 := Tryd.underlying138
  a164 := Tryd.isAgg138
  z164 := Tryd.sizeOf138
  v164 := Tryd.zeroValue138
  t203 := Tryd.underlying72
  a203 := Tryd.isAgg72
  z203 := Tryd.sizeOf72
  v203 := Tryd.zeroValue72
  t206 := Tryd.underlying167
  a206 := Tryd.isAgg167
  z206 := Tryd.sizeOf167
  v206 := Tryd.zeroValue167
  t208 := Tryd.underlying169
  a208 := Tryd.isAgg169
  z208 := Tryd.sizeOf169
  v208 := Tryd.zeroValue169
  g3 := by kernel_rfl
  g4 := by kernel_rfl
  g13 := by kernel_rfl }
theorem Tryd.Builder_Extra_159 : Builder.Extra Tryd.prog Tryd.lays159_ren := {
  sizeBuilder := by kernel_rfl
  liesBuilder := by kernel_rfl
  t5 := Tryd.underlying5
  a5 := Tryd.isAgg5
  z5 := Tryd.sizeOf5
  v5 := Tryd.zeroValue5
  infoByte := by kernel_rfl
  cellsByte := by kernel_rfl
  sizeByte := by kernel_rfl
  neB5 := by decide }
open Go.RowKit in
/-- strings.ToLower: "ToLower returns s with all Unicode letters mapped to their lower case.": ON ASCII TEXT OF AT MOST 2^47 BYTES. Below the heap's end the world is as it was: where a letter turns, the call makes a builder and its buffer. (LAID: no walk: one application.) -/
theorem Tryd.strings_ToLower_ascii (s : ByteArray) (w : World) (hs : s.size ≤ 140737488355328) (hascii : ∀ (j : Nat) (b : UInt8), s.data.toList[j]? = some b → b.toNat < 128) :
    Calls Tryd.prog 55 #[.string s] w fun e w' => e = .returned (.string ⟨(Lib.toLowerA s.data.toList).toArray⟩) ∧ Below w.heap.size w w' := Any.strings_ToLower_ascii Tryd.lays159 Tryd.Builder_Extra_159 s w hs hascii
def Tryd.lays156_ren : Go.Shelf.Ren := ⟨fun | 156 => 104 | 165 => 74 | 166 => 68 | 169 => 69 | 240 => 89 | 241 => 92 | 276 => 106 | 277 => 111 | n => n, fun | 31 => 47 | 9 => 9 | 3 => 3 | 4 => 4 | 0 => 0 | 20 => 20 | 72 => 84 | 76 => 78 | 70 => 74 | 37 => 64 | 75 => 77 | 127 => 105 | 164 => 138 | 5 => 5 | 80 => 80 | n => n, fun | n => n⟩
theorem Tryd.lays156 : Go.Proofs.Lays.n156 Tryd.prog Tryd.lays156_ren := {
  mixed := by kernel_rfl
  f156 := Tryd.func104.trans (congrArg some (by kernel_rfl))
  f165 := Tryd.func74.trans (congrArg some (by kernel_rfl))
  f166 := Tryd.func68.trans (congrArg some (by kernel_rfl))
  f169 := Tryd.func69.trans (congrArg some (by kernel_rfl))
  f240 := Tryd.func89.trans (congrArg some (by kernel_rfl))
  f241 := Tryd.func92.trans (congrArg some (by kernel_rfl))
  f276 := Tryd.func106.trans (congrArg some (by kernel_rfl))
  f277 := Tryd.func111.trans (congrArg some (by kernel_rfl))
  t0 := Tryd.underlying0
  a0 := Tryd.isAgg0
  z0 := Tryd.sizeOf0
  v0 := Tryd.zeroValue0
  t3 := Tryd.underlying3
  a3 := Tryd.isAgg3
  z3 := Tryd.sizeOf3
  v3 := Tryd.zeroValue3
  t4 := Tryd.underlying4
  a4 := Tryd.isAgg4
  z4 := Tryd.sizeOf4
  v4 := Tryd.zeroValue4
  t9 := Tryd.underlying9
  a9 := Tryd.isAgg9
  z9 := Tryd.sizeOf9
  v9 := Tryd.zeroValue9
  t20 := Tryd.underlying20
  a20 := Tryd.isAgg20
  z20 := Tryd.sizeOf20
  v20 := Tryd.zeroValue20
  t31 := Tryd.underlying47
  a31 := Tryd.isAgg47
  z31 := Tryd.sizeOf47
  v31 := Tryd.zeroValue47
  t37 := Tryd.underlying64
  a37 := Tryd.isAgg64
  z37 := Tryd.sizeOf64
  v37 := Tryd.zeroValue64
  t70 := Tryd.underlying74
  a70 := Tryd.isAgg74
  z70 := Tryd.sizeOf74
  v70 := Tryd.zeroValue74
  t72 := Tryd.underlying84
  a72 := Tryd.isAgg84
  z72 := Tryd.sizeOf84
  v72 := Tryd.zeroValue84
  t75 := Tryd.underlying77
  a75 := Tryd.isAgg77
  z75 := Tryd.sizeOf77
  v75 := Tryd.zeroValue77
  t76 := Tryd.underlying78
  a76 := Tryd.isAgg78
  z76 := Tryd.sizeOf78
  v76 := Tryd.zeroValue78
  t127 := Tryd.underlying105
  a127 := Tryd.isAgg105
  z127 := Tryd.sizeOf105
  v127 := Tryd.zeroValue105
  t164 := Tryd.underlying138
  a164 := Tryd.isAgg138
  z164 := Tryd.sizeOf138
  v164 := Tryd.zeroValue138 }
theorem Tryd.Builder_Extra_156 : Builder.Extra Tryd.prog Tryd.lays156_ren := {
  sizeBuilder := by kernel_rfl
  liesBuilder := by kernel_rfl
  t5 := Tryd.underlying5
  a5 := Tryd.isAgg5
  z5 := Tryd.sizeOf5
  v5 := Tryd.zeroValue5
  infoByte := by kernel_rfl
  cellsByte := by kernel_rfl
  sizeByte := by kernel_rfl
  neB5 := by decide }
open Go.RowKit in
/-- No element: the empty string; the world is as it was. (Whatever the slice's address and capacity: a nil slice too.) (LAID: no walk: one application.) -/
theorem Tryd.strings_Join_none (a : Option Addr) (c : Nat) (sep : ByteArray) (w : World) :
    Calls Tryd.prog 104 #[.slice a 0 c, .string sep] w fun e w' => e = .returned (.string ⟨#[]⟩) ∧ w' = w := Any.strings_Join_none Tryd.lays156 Tryd.Builder_Extra_156 a c sep w
open Go.RowKit in
/-- strings.Join: "Join concatenates the elements of its first argument to create a single string. The separator string sep is placed between elements in the resulting string.": HOWEVER MANY ELEMENTS. Below the heap's end the world is as it was. (LAID: no walk: one application.) -/
theorem Tryd.strings_Join (bk o c : Nat) (xs : List ByteArray) (sep : ByteArray) (w : World) (hcells : ∀ (j : Nat) x, xs[j]? = some x → w.cell? ⟨bk, o + j, none⟩ = some (.string x)) (hbk : bk < w.heap.size) (hN : xs.length ≤ 140737488355328) (hcap : xs.length ≤ c) (hlen : (Lib.join (xs.map (·.data.toList)) sep.data.toList).length ≤ 140737488355328) :
    Calls Tryd.prog 104 #[.slice (some ⟨bk, o, none⟩) xs.length c, .string sep] w fun e w' => e = .returned (.string ⟨(Lib.join (xs.map (·.data.toList)) sep.data.toList).toArray⟩) ∧ Below w.heap.size w w' := Any.strings_Join Tryd.lays156 Tryd.Builder_Extra_156 bk o c xs sep w hcells hbk hN hcap hlen
def Tryd.lays118_ren : Go.Shelf.Ren := ⟨fun | 118 => 93 | n => n, fun | 21 => 21 | 3 => 3 | 4 => 4 | n => n, fun | n => n⟩
theorem Tryd.lays118 : Go.Proofs.Lays.n118 Tryd.prog Tryd.lays118_ren := {
  mixed := by kernel_rfl
  f118 := Tryd.func93.trans (congrArg some (by kernel_rfl))
  t3 := Tryd.underlying3
  a3 := Tryd.isAgg3
  z3 := Tryd.sizeOf3
  v3 := Tryd.zeroValue3
  t4 := Tryd.underlying4
  a4 := Tryd.isAgg4
  z4 := Tryd.sizeOf4
  v4 := Tryd.zeroValue4
  t21 := Tryd.underlying21
  a21 := Tryd.isAgg21
  z21 := Tryd.sizeOf21
  v21 := Tryd.zeroValue21 }
/-- utf8.RuneLen: "RuneLen returns the number of bytes in the UTF-8 encoding of the rune. It returns -1 if the rune is not a valid value to encode in UTF-8.": IT RETURNS 'Lib.runeLen r'; the world is as it was. (LAID: no walk: one application.) -/
theorem Tryd.utf8_RuneLen (r : Int) (w : World) :
    Calls Tryd.prog 93 #[.int .i32 r] w fun e w' => e = .returned (.int .i64 (Lib.runeLen r)) ∧ w' = w := Any.utf8_RuneLen Tryd.lays118 r w
def Tryd.lays129_ren : Go.Shelf.Ren := ⟨fun | 129 => 117 | n => n, fun | 53 => 119 | 3 => 3 | 4 => 4 | 46 => 133 | 5 => 5 | 9 => 9 | n => n, fun | n => n⟩
theorem Tryd.lays129 : Go.Proofs.Lays.n129 Tryd.prog Tryd.lays129_ren := {
  mixed := by kernel_rfl
  f129 := Tryd.func117.trans (congrArg some (by kernel_rfl))
  t3 := Tryd.underlying3
  a3 := Tryd.isAgg3
  z3 := Tryd.sizeOf3
  v3 := Tryd.zeroValue3
  t4 := Tryd.underlying4
  a4 := Tryd.isAgg4
  z4 := Tryd.sizeOf4
  v4 := Tryd.zeroValue4
  t5 := Tryd.underlying5
  a5 := Tryd.isAgg5
  z5 := Tryd.sizeOf5
  v5 := Tryd.zeroValue5
  t9 := Tryd.underlying9
  a9 := Tryd.isAgg9
  z9 := Tryd.sizeOf9
  v9 := Tryd.zeroValue9
  t46 := Tryd.underlying133
  a46 := Tryd.isAgg133
  z46 := Tryd.sizeOf133
  v46 := Tryd.zeroValue133
  t53 := Tryd.underlying119
  a53 := Tryd.isAgg119
  z53 := Tryd.sizeOf119
  v53 := Tryd.zeroValue119 }
/-- bits.Len64: "Len64 returns the minimum number of bits required to represent x; the result is 0 for x == 0.": IT RETURNS 'Lib.bitLen x'; the world is as it was. ('h0', 'h1': x is a uint64.) (LAID: no walk: one application.) -/
theorem Tryd.bits_Len64 (x : Int) (w : World) (h0 : 0 ≤ x) (h1 : x ≤ 18446744073709551615) :
    Calls Tryd.prog 117 #[.int .u64 x] w fun e w' => e = .returned (.int .i64 (Lib.bitLen x.toNat)) ∧ w' = w := Any.bits_Len64 Tryd.lays129 x w h0 h1
def Tryd.lays317_ren : Go.Shelf.Ren := ⟨fun | 317 => 116 | n => n, fun | 3 => 3 | 46 => 133 | n => n, fun | n => n⟩
theorem Tryd.lays317 : Go.Proofs.Lays.n317 Tryd.prog Tryd.lays317_ren := {
  mixed := by kernel_rfl
  f317 := Tryd.func116.trans (congrArg some (by kernel_rfl))
  t3 := Tryd.underlying3
  a3 := Tryd.isAgg3
  z3 := Tryd.sizeOf3
  v3 := Tryd.zeroValue3
  t46 := Tryd.underlying133
  a46 := Tryd.isAgg133
  z46 := Tryd.sizeOf133
  v46 := Tryd.zeroValue133 }
open Go.Lib in
/-- internal/strconv.log10Pow2: "log10Pow2(x) returns ⌊log₁₀ 2**x⌋ = ⌊x * log₁₀ 2⌋.": '(x * 78913) >> 18', at an x up to 64 (a length in bits). The world is as it was. (LAID: no walk: one application.) -/
theorem Tryd.internal_strconv_log10Pow2 (x : Nat) (h : x ≤ 64) (w : World) :
    Calls Tryd.prog 116 #[.int .i64 x] w fun e w' => e = .returned (.int .i64 (Lib.l10 x)) ∧ w' = w := Any.internal_strconv_log10Pow2 Tryd.lays317 x h w
def Tryd.lays318_ren : Go.Shelf.Ren := ⟨fun | 318 => 118 | n => n, fun | 3 => 3 | 4 => 4 | n => n, fun | n => n⟩
theorem Tryd.lays318 : Go.Proofs.Lays.n318 Tryd.prog Tryd.lays318_ren := {
  mixed := by kernel_rfl
  f318 := Tryd.func118.trans (congrArg some (by kernel_rfl))
  t3 := Tryd.underlying3
  a3 := Tryd.isAgg3
  z3 := Tryd.sizeOf3
  v3 := Tryd.zeroValue3
  t4 := Tryd.underlying4
  a4 := Tryd.isAgg4
  z4 := Tryd.sizeOf4
  v4 := Tryd.zeroValue4 }
open Go.Lib in
/-- internal/strconv.bool2: "bool2 converts b to an integer: 1 for true, 0 for false." The world is as it was. (LAID: no walk: one application.) -/
theorem Tryd.internal_strconv_bool2_int (b : Bool) (w : World) :
    Calls Tryd.prog 118 #[.bool b] w fun e w' => e = .returned (.int .i64 (if b then 1 else 0)) ∧ w' = w := Any.internal_strconv_bool2_int Tryd.lays318 b w
def Tryd.lays283_ren : Go.Shelf.Ren := ⟨fun | 283 => 99 | n => n, fun | 3 => 3 | 9 => 9 | 4 => 4 | n => n, fun | n => n⟩
theorem Tryd.lays283 : Go.Proofs.Lays.n283 Tryd.prog Tryd.lays283_ren := {
  mixed := by kernel_rfl
  f283 := Tryd.func99.trans (congrArg some (by kernel_rfl))
  t3 := Tryd.underlying3
  a3 := Tryd.isAgg3
  z3 := Tryd.sizeOf3
  v3 := Tryd.zeroValue3
  t4 := Tryd.underlying4
  a4 := Tryd.isAgg4
  z4 := Tryd.sizeOf4
  v4 := Tryd.zeroValue4
  t9 := Tryd.underlying9
  a9 := Tryd.isAgg9
  z9 := Tryd.sizeOf9
  v9 := Tryd.zeroValue9 }
open Go.Lib in
/-- internal/strconv.small: "small returns the string for an i with 0 <= i < nSmalls.": i's decimal numeral. The world is as it was. (LAID: no walk: one application.) -/
theorem Tryd.internal_strconv_small (i : Nat) (h : i < 100) (w : World) :
    Calls Tryd.prog 99 #[.int .i64 i] w fun e w' => e = .returned (.string ⟨(Lib.decDigits i).toArray⟩) ∧ w' = w := Any.internal_strconv_small Tryd.lays283 i h w
def Tryd.laysM284_ren : Go.Shelf.Ren := ⟨fun | 284 => 100 | 129 => 117 | 317 => 116 | 318 => 118 | n => n, fun | 53 => 119 | 3 => 3 | 212 => 161 | 0 => 0 | 4 => 4 | 46 => 133 | 5 => 5 | 9 => 9 | n => n, fun | 17 => 4 | n => n⟩
theorem Tryd.laysM284 : Go.Proofs.LaysM.n284 Tryd.prog Tryd.laysM284_ren := {
  mixed := by kernel_rfl
  f129 := Tryd.func117.trans (congrArg some (by kernel_rfl))
  f284 := Tryd.func100.trans (congrArg some (by kernel_rfl))
  f317 := Tryd.func116.trans (congrArg some (by kernel_rfl))
  f318 := Tryd.func118.trans (congrArg some (by kernel_rfl))
  t0 := Tryd.underlying0
  a0 := Tryd.isAgg0
  z0 := Tryd.sizeOf0
  v0 := Tryd.zeroValue0
  t3 := Tryd.underlying3
  a3 := Tryd.isAgg3
  z3 := Tryd.sizeOf3
  v3 := Tryd.zeroValue3
  t4 := Tryd.underlying4
  a4 := Tryd.isAgg4
  z4 := Tryd.sizeOf4
  v4 := Tryd.zeroValue4
  t5 := Tryd.underlying5
  a5 := Tryd.isAgg5
  z5 := Tryd.sizeOf5
  v5 := Tryd.zeroValue5
  t9 := Tryd.underlying9
  a9 := Tryd.isAgg9
  z9 := Tryd.sizeOf9
  v9 := Tryd.zeroValue9
  t46 := Tryd.underlying133
  a46 := Tryd.isAgg133
  z46 := Tryd.sizeOf133
  v46 := Tryd.zeroValue133
  t53 := Tryd.underlying119
  a53 := Tryd.isAgg119
  z53 := Tryd.sizeOf119
  v53 := Tryd.zeroValue119
  t212 := Tryd.underlying161
  a212 := Tryd.isAgg161
  z212 := Tryd.sizeOf161
  v212 := Tryd.zeroValue161
  g17 := by kernel_rfl
  i0 := by kernel_rfl
  i3 := by kernel_rfl
  i4 := by kernel_rfl
  i5 := by kernel_rfl
  i9 := by kernel_rfl
  i46 := by kernel_rfl
  i53 := by kernel_rfl
  i212 := by kernel_rfl
  m17 := by kernel_rfl }
open Go.Lib in
/-- internal/strconv.numDigits, at a d that is not 0: THE NUMBER OF d's DECIMAL DIGITS. The world is as it was. (LAID: no walk: one application.) -/
theorem Tryd.internal_strconv_numDigits (u : Nat) (h1 : 1 ≤ u) (h2 : u < 18446744073709551616) (w : World) (htab : Lib.TabIs Tryd.prog w "internal/strconv.uint64pow10" .u64 Lib.pow10Tab) :
    Calls Tryd.prog 100 #[.int .u64 u] w fun e w' => e = .returned (.int .i64 (Lib.nDigits u)) ∧ w' = w := Any.internal_strconv_numDigits Tryd.laysM284 u h1 h2 w htab
def Tryd.lays285_ren : Go.Shelf.Ren := ⟨fun | 285 => 101 | n => n, fun | 37 => 64 | 53 => 119 | 3 => 3 | 4 => 4 | 51 => 106 | 9 => 9 | 5 => 5 | 0 => 0 | n => n, fun | n => n⟩
theorem Tryd.lays285 : Go.Proofs.Lays.n285 Tryd.prog Tryd.lays285_ren := {
  mixed := by kernel_rfl
  f285 := Tryd.func101.trans (congrArg some (by kernel_rfl))
  t0 := Tryd.underlying0
  a0 := Tryd.isAgg0
  z0 := Tryd.sizeOf0
  v0 := Tryd.zeroValue0
  t3 := Tryd.underlying3
  a3 := Tryd.isAgg3
  z3 := Tryd.sizeOf3
  v3 := Tryd.zeroValue3
  t4 := Tryd.underlying4
  a4 := Tryd.isAgg4
  z4 := Tryd.sizeOf4
  v4 := Tryd.zeroValue4
  t5 := Tryd.underlying5
  a5 := Tryd.isAgg5
  z5 := Tryd.sizeOf5
  v5 := Tryd.zeroValue5
  t9 := Tryd.underlying9
  a9 := Tryd.isAgg9
  z9 := Tryd.sizeOf9
  v9 := Tryd.zeroValue9
  t37 := Tryd.underlying64
  a37 := Tryd.isAgg64
  z37 := Tryd.sizeOf64
  v37 := Tryd.zeroValue64
  t51 := Tryd.underlying106
  a51 := Tryd.isAgg106
  z51 := Tryd.sizeOf106
  v51 := Tryd.zeroValue106
  t53 := Tryd.underlying119
  a53 := Tryd.isAgg119
  z53 := Tryd.sizeOf119
  v53 := Tryd.zeroValue119 }
open Go.RowKit Go.Sort Go.Lib in
/-- internal/strconv.formatBase10: "formatBase10 formats the decimal representation of u into a. The caller is responsible for ensuring that a is big enough to hold u. If a is too big, leading zeros will be filled in as needed.": THE ROW HOLDS u's DIGITS ('FmtInv .. 0 ..': every place t holds 'dg u (len - 1 - t)'); all else is as it was but for the count of draws. (LAID: no walk: one application.) -/
theorem Tryd.internal_strconv_formatBase10 (blk off cap : Nat) (u : Nat) (d : Array UInt8) (w : World) (hH : Holds (fun (b : UInt8) => Value.int .u8 (b.toNat : Int)) w blk off d) (hu : u < 10 ^ d.size) (hu64 : u < 18446744073709551616) (hsz : d.size < 4611686018427387904) :
    Calls Tryd.prog 101 #[.slice (some ⟨blk, off, none⟩) d.size cap, .int .u64 u] w fun e w' =>
      e = .returned (.tuple #[]) ∧ ∃ (n v' : Nat) (dk : Array UInt8), w' = (putRow (fun (b : UInt8) => Value.int .u8 (b.toNat : Int)) w blk off dk).drewN n ∧ FmtInv d.size u 0 v' dk := Any.internal_strconv_formatBase10 Tryd.lays285 blk off cap u d w hH hu hu64 hsz
def Tryd.laysM246_ren : Go.Shelf.Ren := ⟨fun | 246 => 79 | 283 => 99 | 284 => 100 | 285 => 101 | 286 => 102 | 129 => 117 | 317 => 116 | 318 => 118 | 319 => 119 | 320 => 120 | 337 => 127 | 338 => 128 | n => n, fun | 2 => 2 | 3 => 3 | 9 => 9 | 4 => 4 | 171 => 118 | 0 => 0 | 53 => 119 | 37 => 64 | 5 => 5 | 173 => 122 | 212 => 161 | 51 => 106 | 20 => 20 | 213 => 162 | 46 => 133 | 232 => 174 | 233 => 175 | n => n, fun | 17 => 4 | 18 => 7 | 19 => 8 | n => n⟩
theorem Tryd.laysM246 : Go.Proofs.LaysM.n246 Tryd.prog Tryd.laysM246_ren := {
  mixed := by kernel_rfl
  f129 := Tryd.func117.trans (congrArg some (by kernel_rfl))
  f246 := Tryd.func79.trans (congrArg some (by kernel_rfl))
  f283 := Tryd.func99.trans (congrArg some (by kernel_rfl))
  f284 := Tryd.func100.trans (congrArg some (by kernel_rfl))
  f285 := Tryd.func101.trans (congrArg some (by kernel_rfl))
  f286 := Tryd.func102.trans (congrArg some (by kernel_rfl))
  f317 := Tryd.func116.trans (congrArg some (by kernel_rfl))
  f318 := Tryd.func118.trans (congrArg some (by kernel_rfl))
  f319 := Tryd.func119.trans (congrArg some (by kernel_rfl))
  f320 := Tryd.func120.trans (congrArg some (by kernel_rfl))
  f337 := Tryd.func127.trans (congrArg some (by kernel_rfl))
  f338 := Tryd.func128.trans (congrArg some (by kernel_rfl))
  t0 := Tryd.underlying0
  a0 := Tryd.isAgg0
  z0 := Tryd.sizeOf0
  v0 := Tryd.zeroValue0
  t2 := Tryd.underlying2
  a2 := Tryd.isAgg2
  z2 := Tryd.sizeOf2
  v2 := Tryd.zeroValue2
  t3 := Tryd.underlying3
  a3 := Tryd.isAgg3
  z3 := Tryd.sizeOf3
  v3 := Tryd.zeroValue3
  t4 := Tryd.underlying4
  a4 := Tryd.isAgg4
  z4 := Tryd.sizeOf4
  v4 := Tryd.zeroValue4
  t5 := Tryd.underlying5
  a5 := Tryd.isAgg5
  z5 := Tryd.sizeOf5
  v5 := Tryd.zeroValue5
  t9 := Tryd.underlying9
  a9 := Tryd.isAgg9
  z9 := Tryd.sizeOf9
  v9 := Tryd.zeroValue9
  t20 := Tryd.underlying20
  a20 := Tryd.isAgg20
  z20 := Tryd.sizeOf20
  v20 := Tryd.zeroValue20
  t37 := Tryd.underlying64
  a37 := Tryd.isAgg64
  z37 := Tryd.sizeOf64
  v37 := Tryd.zeroValue64
  t46 := Tryd.underlying133
  a46 := Tryd.isAgg133
  z46 := Tryd.sizeOf133
  v46 := Tryd.zeroValue133
  t51 := Tryd.underlying106
  a51 := Tryd.isAgg106
  z51 := Tryd.sizeOf106
  v51 := Tryd.zeroValue106
  t53 := Tryd.underlying119
  a53 := Tryd.isAgg119
  z53 := Tryd.sizeOf119
  v53 := Tryd.zeroValue119
  t171 := Tryd.underlying118
  a171 := Tryd.isAgg118
  z171 := Tryd.sizeOf118
  v171 := Tryd.zeroValue118
  t173 := Tryd.underlying122
  a173 := Tryd.isAgg122
  z173 := Tryd.sizeOf122
  v173 := Tryd.zeroValue122
  t212 := Tryd.underlying161
  a212 := Tryd.isAgg161
  z212 := Tryd.sizeOf161
  v212 := Tryd.zeroValue161
  t213 := Tryd.underlying162
  a213 := Tryd.isAgg162
  z213 := Tryd.sizeOf162
  t232 := Tryd.underlying174
  a232 := Tryd.isAgg174
  z232 := Tryd.sizeOf174
  v232 := Tryd.zeroValue174
  t233 := Tryd.underlying175
  a233 := Tryd.isAgg175
  z233 := Tryd.sizeOf175
  v233 := Tryd.zeroValue175
  g17 := by kernel_rfl
  g18 := by kernel_rfl
  g19 := by kernel_rfl
  i0 := by kernel_rfl
  i2 := by kernel_rfl
  i3 := by kernel_rfl
  i4 := by kernel_rfl
  i5 := by kernel_rfl
  i9 := by kernel_rfl
  i20 := by kernel_rfl
  i37 := by kernel_rfl
  i46 := by kernel_rfl
  i51 := by kernel_rfl
  i53 := by kernel_rfl
  i171 := by kernel_rfl
  i173 := by kernel_rfl
  i212 := by kernel_rfl
  i232 := by kernel_rfl
  i233 := by kernel_rfl
  m17 := by kernel_rfl
  m18 := by kernel_rfl
  m19 := by kernel_rfl }
open Go.RowKit Go.Sort Go.Lib in
/-- internal/strconv.FormatInt: "FormatInt returns the string representation of i in the given base": AT BASE 10: i's decimal numeral, for every int64. The world behind the call: the world before it, new blocks behind the heap, draws. (LAID: no walk: one application.) -/
theorem Tryd.internal_strconv_FormatInt_10 (n : Int) (h0 : -9223372036854775808 ≤ n) (h1 : n ≤ 9223372036854775807) (w : World) (htab : Lib.TabIs Tryd.prog w "internal/strconv.uint64pow10" .u64 Lib.pow10Tab) :
    Calls Tryd.prog 79 #[.int .i64 n, .int .i64 10] w fun e w' => e = .returned (.string ⟨(Lib.itoa n).toArray⟩) ∧ ∃ k os, w' = grow (w.drewN k) os := Any.internal_strconv_FormatInt_10 Tryd.laysM246 n h0 h1 w htab
def Tryd.lays246_ren : Go.Shelf.Ren := ⟨fun | 246 => 79 | 283 => 99 | 284 => 100 | 285 => 101 | 286 => 102 | 129 => 117 | 317 => 116 | 318 => 118 | 319 => 119 | 320 => 120 | 337 => 127 | 338 => 128 | n => n, fun | 2 => 2 | 3 => 3 | 9 => 9 | 4 => 4 | 171 => 118 | 0 => 0 | 53 => 119 | 37 => 64 | 5 => 5 | 173 => 122 | 212 => 161 | 51 => 106 | 20 => 20 | 213 => 162 | 46 => 133 | 232 => 174 | 233 => 175 | n => n, fun | 17 => 4 | 18 => 7 | 19 => 8 | n => n⟩
theorem Tryd.lays246 : Go.Proofs.Lays.n246 Tryd.prog Tryd.lays246_ren := {
  mixed := by kernel_rfl
  f129 := Tryd.func117.trans (congrArg some (by kernel_rfl))
  f246 := Tryd.func79.trans (congrArg some (by kernel_rfl))
  f283 := Tryd.func99.trans (congrArg some (by kernel_rfl))
  f284 := Tryd.func100.trans (congrArg some (by kernel_rfl))
  f285 := Tryd.func101.trans (congrArg some (by kernel_rfl))
  f286 := Tryd.func102.trans (congrArg some (by kernel_rfl))
  f317 := Tryd.func116.trans (congrArg some (by kernel_rfl))
  f318 := Tryd.func118.trans (congrArg some (by kernel_rfl))
  f319 := Tryd.func119.trans (congrArg some (by kernel_rfl))
  f320 := Tryd.func120.trans (congrArg some (by kernel_rfl))
  f337 := Tryd.func127.trans (congrArg some (by kernel_rfl))
  f338 := Tryd.func128.trans (congrArg some (by kernel_rfl))
  t0 := Tryd.underlying0
  a0 := Tryd.isAgg0
  z0 := Tryd.sizeOf0
  v0 := Tryd.zeroValue0
  t2 := Tryd.underlying2
  a2 := Tryd.isAgg2
  z2 := Tryd.sizeOf2
  v2 := Tryd.zeroValue2
  t3 := Tryd.underlying3
  a3 := Tryd.isAgg3
  z3 := Tryd.sizeOf3
  v3 := Tryd.zeroValue3
  t4 := Tryd.underlying4
  a4 := Tryd.isAgg4
  z4 := Tryd.sizeOf4
  v4 := Tryd.zeroValue4
  t5 := Tryd.underlying5
  a5 := Tryd.isAgg5
  z5 := Tryd.sizeOf5
  v5 := Tryd.zeroValue5
  t9 := Tryd.underlying9
  a9 := Tryd.isAgg9
  z9 := Tryd.sizeOf9
  v9 := Tryd.zeroValue9
  t20 := Tryd.underlying20
  a20 := Tryd.isAgg20
  z20 := Tryd.sizeOf20
  v20 := Tryd.zeroValue20
  t37 := Tryd.underlying64
  a37 := Tryd.isAgg64
  z37 := Tryd.sizeOf64
  v37 := Tryd.zeroValue64
  t46 := Tryd.underlying133
  a46 := Tryd.isAgg133
  z46 := Tryd.sizeOf133
  v46 := Tryd.zeroValue133
  t51 := Tryd.underlying106
  a51 := Tryd.isAgg106
  z51 := Tryd.sizeOf106
  v51 := Tryd.zeroValue106
  t53 := Tryd.underlying119
  a53 := Tryd.isAgg119
  z53 := Tryd.sizeOf119
  v53 := Tryd.zeroValue119
  t171 := Tryd.underlying118
  a171 := Tryd.isAgg118
  z171 := Tryd.sizeOf118
  v171 := Tryd.zeroValue118
  t173 := Tryd.underlying122
  a173 := Tryd.isAgg122
  z173 := Tryd.sizeOf122
  v173 := Tryd.zeroValue122
  t212 := Tryd.underlying161
  a212 := Tryd.isAgg161
  z212 := Tryd.sizeOf161
  v212 := Tryd.zeroValue161
  t213 := Tryd.underlying162
  a213 := Tryd.isAgg162
  z213 := Tryd.sizeOf162
  t232 := Tryd.underlying174
  a232 := Tryd.isAgg174
  z232 := Tryd.sizeOf174
  v232 := Tryd.zeroValue174
  t233 := Tryd.underlying175
  a233 := Tryd.isAgg175
  z233 := Tryd.sizeOf175
  v233 := Tryd.zeroValue175
  g17 := by kernel_rfl
  g18 := by kernel_rfl
  g19 := by kernel_rfl }
open Go.RowKit Go.Sort Go.Lib in
/-- THE ROAD WITHOUT THE TABLE: 0 <= i < 100: two constants are read, nothing is laid: no premise on the world, and the world is as it was. (LAID: no walk: one application.) -/
theorem Tryd.internal_strconv_FormatInt_10_small (i : Nat) (hi : i < 100) (w : World) :
    Calls Tryd.prog 79 #[.int .i64 i, .int .i64 10] w fun e w' => e = .returned (.string ⟨(Lib.decDigits i).toArray⟩) ∧ w' = w := Any.internal_strconv_FormatInt_10_small Tryd.lays246 i hi w
def Tryd.laysM243_ren : Go.Shelf.Ren := ⟨fun | 243 => 121 | 246 => 79 | 283 => 99 | 284 => 100 | 285 => 101 | 286 => 102 | 129 => 117 | 317 => 116 | 318 => 118 | 319 => 119 | 320 => 120 | 337 => 127 | 338 => 128 | n => n, fun | 3 => 3 | 9 => 9 | 2 => 2 | 4 => 4 | 171 => 118 | 0 => 0 | 53 => 119 | 37 => 64 | 5 => 5 | 173 => 122 | 212 => 161 | 51 => 106 | 20 => 20 | 213 => 162 | 46 => 133 | 232 => 174 | 233 => 175 | n => n, fun | 17 => 4 | 18 => 7 | 19 => 8 | n => n⟩
theorem Tryd.laysM243 : Go.Proofs.LaysM.n243 Tryd.prog Tryd.laysM243_ren := {
  mixed := by kernel_rfl
  f129 := Tryd.func117.trans (congrArg some (by kernel_rfl))
  f243 := Tryd.func121.trans (congrArg some (by kernel_rfl))
  f246 := Tryd.func79.trans (congrArg some (by kernel_rfl))
  f283 := Tryd.func99.trans (congrArg some (by kernel_rfl))
  f284 := Tryd.func100.trans (congrArg some (by kernel_rfl))
  f285 := Tryd.func101.trans (congrArg some (by kernel_rfl))
  f286 := Tryd.func102.trans (congrArg some (by kernel_rfl))
  f317 := Tryd.func116.trans (congrArg some (by kernel_rfl))
  f318 := Tryd.func118.trans (congrArg some (by kernel_rfl))
  f319 := Tryd.func119.trans (congrArg some (by kernel_rfl))
  f320 := Tryd.func120.trans (congrArg some (by kernel_rfl))
  f337 := Tryd.func127.trans (congrArg some (by kernel_rfl))
  f338 := Tryd.func128.trans (congrArg some (by kernel_rfl))
  t0 := Tryd.underlying0
  a0 := Tryd.isAgg0
  z0 := Tryd.sizeOf0
  v0 := Tryd.zeroValue0
  t2 := Tryd.underlying2
  a2 := Tryd.isAgg2
  z2 := Tryd.sizeOf2
  v2 := Tryd.zeroValue2
  t3 := Tryd.underlying3
  a3 := Tryd.isAgg3
  z3 := Tryd.sizeOf3
  v3 := Tryd.zeroValue3
  t4 := Tryd.underlying4
  a4 := Tryd.isAgg4
  z4 := Tryd.sizeOf4
  v4 := Tryd.zeroValue4
  t5 := Tryd.underlying5
  a5 := Tryd.isAgg5
  z5 := Tryd.sizeOf5
  v5 := Tryd.zeroValue5
  t9 := Tryd.underlying9
  a9 := Tryd.isAgg9
  z9 := Tryd.sizeOf9
  v9 := Tryd.zeroValue9
  t20 := Tryd.underlying20
  a20 := Tryd.isAgg20
  z20 := Tryd.sizeOf20
  v20 := Tryd.zeroValue20
  t37 := Tryd.underlying64
  a37 := Tryd.isAgg64
  z37 := Tryd.sizeOf64
  v37 := Tryd.zeroValue64
  t46 := Tryd.underlying133
  a46 := Tryd.isAgg133
  z46 := Tryd.sizeOf133
  v46 := Tryd.zeroValue133
  t51 := Tryd.underlying106
  a51 := Tryd.isAgg106
  z51 := Tryd.sizeOf106
  v51 := Tryd.zeroValue106
  t53 := Tryd.underlying119
  a53 := Tryd.isAgg119
  z53 := Tryd.sizeOf119
  v53 := Tryd.zeroValue119
  t171 := Tryd.underlying118
  a171 := Tryd.isAgg118
  z171 := Tryd.sizeOf118
  v171 := Tryd.zeroValue118
  t173 := Tryd.underlying122
  a173 := Tryd.isAgg122
  z173 := Tryd.sizeOf122
  v173 := Tryd.zeroValue122
  t212 := Tryd.underlying161
  a212 := Tryd.isAgg161
  z212 := Tryd.sizeOf161
  v212 := Tryd.zeroValue161
  t213 := Tryd.underlying162
  a213 := Tryd.isAgg162
  z213 := Tryd.sizeOf162
  t232 := Tryd.underlying174
  a232 := Tryd.isAgg174
  z232 := Tryd.sizeOf174
  v232 := Tryd.zeroValue174
  t233 := Tryd.underlying175
  a233 := Tryd.isAgg175
  z233 := Tryd.sizeOf175
  v233 := Tryd.zeroValue175
  g17 := by kernel_rfl
  g18 := by kernel_rfl
  g19 := by kernel_rfl
  i0 := by kernel_rfl
  i2 := by kernel_rfl
  i3 := by kernel_rfl
  i4 := by kernel_rfl
  i5 := by kernel_rfl
  i9 := by kernel_rfl
  i20 := by kernel_rfl
  i37 := by kernel_rfl
  i46 := by kernel_rfl
  i51 := by kernel_rfl
  i53 := by kernel_rfl
  i171 := by kernel_rfl
  i173 := by kernel_rfl
  i212 := by kernel_rfl
  i232 := by kernel_rfl
  i233 := by kernel_rfl
  m17 := by kernel_rfl
  m18 := by kernel_rfl
  m19 := by kernel_rfl }
open Go.RowKit Go.Sort Go.Lib in
/-- internal/strconv.Itoa: "Itoa is equivalent to FormatInt(int64(i), 10).": i's decimal numeral, for every int. (LAID: no walk: one application.) -/
theorem Tryd.internal_strconv_Itoa (n : Int) (h0 : -9223372036854775808 ≤ n) (h1 : n ≤ 9223372036854775807) (w : World) (htab : Lib.TabIs Tryd.prog w "internal/strconv.uint64pow10" .u64 Lib.pow10Tab) :
    Calls Tryd.prog 121 #[.int .i64 n] w fun e w' => e = .returned (.string ⟨(Lib.itoa n).toArray⟩) ∧ ∃ k os, w' = grow (w.drewN k) os := Any.internal_strconv_Itoa Tryd.laysM243 n h0 h1 w htab
def Tryd.lays243_ren : Go.Shelf.Ren := ⟨fun | 243 => 121 | 246 => 79 | 283 => 99 | 284 => 100 | 285 => 101 | 286 => 102 | 129 => 117 | 317 => 116 | 318 => 118 | 319 => 119 | 320 => 120 | 337 => 127 | 338 => 128 | n => n, fun | 3 => 3 | 9 => 9 | 2 => 2 | 4 => 4 | 171 => 118 | 0 => 0 | 53 => 119 | 37 => 64 | 5 => 5 | 173 => 122 | 212 => 161 | 51 => 106 | 20 => 20 | 213 => 162 | 46 => 133 | 232 => 174 | 233 => 175 | n => n, fun | 17 => 4 | 18 => 7 | 19 => 8 | n => n⟩
theorem Tryd.lays243 : Go.Proofs.Lays.n243 Tryd.prog Tryd.lays243_ren := {
  mixed := by kernel_rfl
  f129 := Tryd.func117.trans (congrArg some (by kernel_rfl))
  f243 := Tryd.func121.trans (congrArg some (by kernel_rfl))
  f246 := Tryd.func79.trans (congrArg some (by kernel_rfl))
  f283 := Tryd.func99.trans (congrArg some (by kernel_rfl))
  f284 := Tryd.func100.trans (congrArg some (by kernel_rfl))
  f285 := Tryd.func101.trans (congrArg some (by kernel_rfl))
  f286 := Tryd.func102.trans (congrArg some (by kernel_rfl))
  f317 := Tryd.func116.trans (congrArg some (by kernel_rfl))
  f318 := Tryd.func118.trans (congrArg some (by kernel_rfl))
  f319 := Tryd.func119.trans (congrArg some (by kernel_rfl))
  f320 := Tryd.func120.trans (congrArg some (by kernel_rfl))
  f337 := Tryd.func127.trans (congrArg some (by kernel_rfl))
  f338 := Tryd.func128.trans (congrArg some (by kernel_rfl))
  t0 := Tryd.underlying0
  a0 := Tryd.isAgg0
  z0 := Tryd.sizeOf0
  v0 := Tryd.zeroValue0
  t2 := Tryd.underlying2
  a2 := Tryd.isAgg2
  z2 := Tryd.sizeOf2
  v2 := Tryd.zeroValue2
  t3 := Tryd.underlying3
  a3 := Tryd.isAgg3
  z3 := Tryd.sizeOf3
  v3 := Tryd.zeroValue3
  t4 := Tryd.underlying4
  a4 := Tryd.isAgg4
  z4 := Tryd.sizeOf4
  v4 := Tryd.zeroValue4
  t5 := Tryd.underlying5
  a5 := Tryd.isAgg5
  z5 := Tryd.sizeOf5
  v5 := Tryd.zeroValue5
  t9 := Tryd.underlying9
  a9 := Tryd.isAgg9
  z9 := Tryd.sizeOf9
  v9 := Tryd.zeroValue9
  t20 := Tryd.underlying20
  a20 := Tryd.isAgg20
  z20 := Tryd.sizeOf20
  v20 := Tryd.zeroValue20
  t37 := Tryd.underlying64
  a37 := Tryd.isAgg64
  z37 := Tryd.sizeOf64
  v37 := Tryd.zeroValue64
  t46 := Tryd.underlying133
  a46 := Tryd.isAgg133
  z46 := Tryd.sizeOf133
  v46 := Tryd.zeroValue133
  t51 := Tryd.underlying106
  a51 := Tryd.isAgg106
  z51 := Tryd.sizeOf106
  v51 := Tryd.zeroValue106
  t53 := Tryd.underlying119
  a53 := Tryd.isAgg119
  z53 := Tryd.sizeOf119
  v53 := Tryd.zeroValue119
  t171 := Tryd.underlying118
  a171 := Tryd.isAgg118
  z171 := Tryd.sizeOf118
  v171 := Tryd.zeroValue118
  t173 := Tryd.underlying122
  a173 := Tryd.isAgg122
  z173 := Tryd.sizeOf122
  v173 := Tryd.zeroValue122
  t212 := Tryd.underlying161
  a212 := Tryd.isAgg161
  z212 := Tryd.sizeOf161
  v212 := Tryd.zeroValue161
  t213 := Tryd.underlying162
  a213 := Tryd.isAgg162
  z213 := Tryd.sizeOf162
  t232 := Tryd.underlying174
  a232 := Tryd.isAgg174
  z232 := Tryd.sizeOf174
  v232 := Tryd.zeroValue174
  t233 := Tryd.underlying175
  a233 := Tryd.isAgg175
  z233 := Tryd.sizeOf175
  v233 := Tryd.zeroValue175
  g17 := by kernel_rfl
  g18 := by kernel_rfl
  g19 := by kernel_rfl }
open Go.RowKit Go.Sort Go.Lib in
/-- THE ROAD WITHOUT THE TABLE: 0 <= i < 100. (LAID: no walk: one application.) -/
theorem Tryd.internal_strconv_Itoa_small (i : Nat) (hi : i < 100) (w : World) :
    Calls Tryd.prog 121 #[.int .i64 i] w fun e w' => e = .returned (.string ⟨(Lib.decDigits i).toArray⟩) ∧ w' = w := Any.internal_strconv_Itoa_small Tryd.lays243 i hi w
def Tryd.laysM171_ren : Go.Shelf.Ren := ⟨fun | 171 => 103 | 243 => 121 | 246 => 79 | 283 => 99 | 284 => 100 | 285 => 101 | 286 => 102 | 129 => 117 | 317 => 116 | 318 => 118 | 319 => 119 | 320 => 120 | 337 => 127 | 338 => 128 | n => n, fun | 3 => 3 | 9 => 9 | 2 => 2 | 4 => 4 | 171 => 118 | 0 => 0 | 53 => 119 | 37 => 64 | 5 => 5 | 173 => 122 | 212 => 161 | 51 => 106 | 20 => 20 | 213 => 162 | 46 => 133 | 232 => 174 | 233 => 175 | n => n, fun | 17 => 4 | 18 => 7 | 19 => 8 | n => n⟩
theorem Tryd.laysM171 : Go.Proofs.LaysM.n171 Tryd.prog Tryd.laysM171_ren := {
  mixed := by kernel_rfl
  f129 := Tryd.func117.trans (congrArg some (by kernel_rfl))
  f171 := Tryd.func103.trans (congrArg some (by kernel_rfl))
  f243 := Tryd.func121.trans (congrArg some (by kernel_rfl))
  f246 := Tryd.func79.trans (congrArg some (by kernel_rfl))
  f283 := Tryd.func99.trans (congrArg some (by kernel_rfl))
  f284 := Tryd.func100.trans (congrArg some (by kernel_rfl))
  f285 := Tryd.func101.trans (congrArg some (by kernel_rfl))
  f286 := Tryd.func102.trans (congrArg some (by kernel_rfl))
  f317 := Tryd.func116.trans (congrArg some (by kernel_rfl))
  f318 := Tryd.func118.trans (congrArg some (by kernel_rfl))
  f319 := Tryd.func119.trans (congrArg some (by kernel_rfl))
  f320 := Tryd.func120.trans (congrArg some (by kernel_rfl))
  f337 := Tryd.func127.trans (congrArg some (by kernel_rfl))
  f338 := Tryd.func128.trans (congrArg some (by kernel_rfl))
  t0 := Tryd.underlying0
  a0 := Tryd.isAgg0
  z0 := Tryd.sizeOf0
  v0 := Tryd.zeroValue0
  t2 := Tryd.underlying2
  a2 := Tryd.isAgg2
  z2 := Tryd.sizeOf2
  v2 := Tryd.zeroValue2
  t3 := Tryd.underlying3
  a3 := Tryd.isAgg3
  z3 := Tryd.sizeOf3
  v3 := Tryd.zeroValue3
  t4 := Tryd.underlying4
  a4 := Tryd.isAgg4
  z4 := Tryd.sizeOf4
  v4 := Tryd.zeroValue4
  t5 := Tryd.underlying5
  a5 := Tryd.isAgg5
  z5 := Tryd.sizeOf5
  v5 := Tryd.zeroValue5
  t9 := Tryd.underlying9
  a9 := Tryd.isAgg9
  z9 := Tryd.sizeOf9
  v9 := Tryd.zeroValue9
  t20 := Tryd.underlying20
  a20 := Tryd.isAgg20
  z20 := Tryd.sizeOf20
  v20 := Tryd.zeroValue20
  t37 := Tryd.underlying64
  a37 := Tryd.isAgg64
  z37 := Tryd.sizeOf64
  v37 := Tryd.zeroValue64
  t46 := Tryd.underlying133
  a46 := Tryd.isAgg133
  z46 := Tryd.sizeOf133
  v46 := Tryd.zeroValue133
  t51 := Tryd.underlying106
  a51 := Tryd.isAgg106
  z51 := Tryd.sizeOf106
  v51 := Tryd.zeroValue106
  t53 := Tryd.underlying119
  a53 := Tryd.isAgg119
  z53 := Tryd.sizeOf119
  v53 := Tryd.zeroValue119
  t171 := Tryd.underlying118
  a171 := Tryd.isAgg118
  z171 := Tryd.sizeOf118
  v171 := Tryd.zeroValue118
  t173 := Tryd.underlying122
  a173 := Tryd.isAgg122
  z173 := Tryd.sizeOf122
  v173 := Tryd.zeroValue122
  t212 := Tryd.underlying161
  a212 := Tryd.isAgg161
  z212 := Tryd.sizeOf161
  v212 := Tryd.zeroValue161
  t213 := Tryd.underlying162
  a213 := Tryd.isAgg162
  z213 := Tryd.sizeOf162
  t232 := Tryd.underlying174
  a232 := Tryd.isAgg174
  z232 := Tryd.sizeOf174
  v232 := Tryd.zeroValue174
  t233 := Tryd.underlying175
  a233 := Tryd.isAgg175
  z233 := Tryd.sizeOf175
  v233 := Tryd.zeroValue175
  g17 := by kernel_rfl
  g18 := by kernel_rfl
  g19 := by kernel_rfl
  i0 := by kernel_rfl
  i2 := by kernel_rfl
  i3 := by kernel_rfl
  i4 := by kernel_rfl
  i5 := by kernel_rfl
  i9 := by kernel_rfl
  i20 := by kernel_rfl
  i37 := by kernel_rfl
  i46 := by kernel_rfl
  i51 := by kernel_rfl
  i53 := by kernel_rfl
  i171 := by kernel_rfl
  i173 := by kernel_rfl
  i212 := by kernel_rfl
  i232 := by kernel_rfl
  i233 := by kernel_rfl
  m17 := by kernel_rfl
  m18 := by kernel_rfl
  m19 := by kernel_rfl }
open Go.RowKit Go.Sort Go.Lib in
/-- strconv.Itoa: "Itoa is equivalent to FormatInt(int64(i), 10).": i's DECIMAL NUMERAL ('Lib.itoa': a '-' where i is negative, then the digits), FOR EVERY int. The world behind the call: the world before it, new blocks behind the heap (the library's 'var a [24]byte'), draws. (LAID: no walk: one application.) -/
theorem Tryd.strconv_Itoa (n : Int) (h0 : -9223372036854775808 ≤ n) (h1 : n ≤ 9223372036854775807) (w : World) (htab : Lib.TabIs Tryd.prog w "internal/strconv.uint64pow10" .u64 Lib.pow10Tab) :
    Calls Tryd.prog 103 #[.int .i64 n] w fun e w' => e = .returned (.string ⟨(Lib.itoa n).toArray⟩) ∧ ∃ k os, w' = grow (w.drewN k) os := Any.strconv_Itoa Tryd.laysM171 n h0 h1 w htab
def Tryd.lays171_ren : Go.Shelf.Ren := ⟨fun | 171 => 103 | 243 => 121 | 246 => 79 | 283 => 99 | 284 => 100 | 285 => 101 | 286 => 102 | 129 => 117 | 317 => 116 | 318 => 118 | 319 => 119 | 320 => 120 | 337 => 127 | 338 => 128 | n => n, fun | 3 => 3 | 9 => 9 | 2 => 2 | 4 => 4 | 171 => 118 | 0 => 0 | 53 => 119 | 37 => 64 | 5 => 5 | 173 => 122 | 212 => 161 | 51 => 106 | 20 => 20 | 213 => 162 | 46 => 133 | 232 => 174 | 233 => 175 | n => n, fun | 17 => 4 | 18 => 7 | 19 => 8 | n => n⟩
theorem Tryd.lays171 : Go.Proofs.Lays.n171 Tryd.prog Tryd.lays171_ren := {
  mixed := by kernel_rfl
  f129 := Tryd.func117.trans (congrArg some (by kernel_rfl))
  f171 := Tryd.func103.trans (congrArg some (by kernel_rfl))
  f243 := Tryd.func121.trans (congrArg some (by kernel_rfl))
  f246 := Tryd.func79.trans (congrArg some (by kernel_rfl))
  f283 := Tryd.func99.trans (congrArg some (by kernel_rfl))
  f284 := Tryd.func100.trans (congrArg some (by kernel_rfl))
  f285 := Tryd.func101.trans (congrArg some (by kernel_rfl))
  f286 := Tryd.func102.trans (congrArg some (by kernel_rfl))
  f317 := Tryd.func116.trans (congrArg some (by kernel_rfl))
  f318 := Tryd.func118.trans (congrArg some (by kernel_rfl))
  f319 := Tryd.func119.trans (congrArg some (by kernel_rfl))
  f320 := Tryd.func120.trans (congrArg some (by kernel_rfl))
  f337 := Tryd.func127.trans (congrArg some (by kernel_rfl))
  f338 := Tryd.func128.trans (congrArg some (by kernel_rfl))
  t0 := Tryd.underlying0
  a0 := Tryd.isAgg0
  z0 := Tryd.sizeOf0
  v0 := Tryd.zeroValue0
  t2 := Tryd.underlying2
  a2 := Tryd.isAgg2
  z2 := Tryd.sizeOf2
  v2 := Tryd.zeroValue2
  t3 := Tryd.underlying3
  a3 := Tryd.isAgg3
  z3 := Tryd.sizeOf3
  v3 := Tryd.zeroValue3
  t4 := Tryd.underlying4
  a4 := Tryd.isAgg4
  z4 := Tryd.sizeOf4
  v4 := Tryd.zeroValue4
  t5 := Tryd.underlying5
  a5 := Tryd.isAgg5
  z5 := Tryd.sizeOf5
  v5 := Tryd.zeroValue5
  t9 := Tryd.underlying9
  a9 := Tryd.isAgg9
  z9 := Tryd.sizeOf9
  v9 := Tryd.zeroValue9
  t20 := Tryd.underlying20
  a20 := Tryd.isAgg20
  z20 := Tryd.sizeOf20
  v20 := Tryd.zeroValue20
  t37 := Tryd.underlying64
  a37 := Tryd.isAgg64
  z37 := Tryd.sizeOf64
  v37 := Tryd.zeroValue64
  t46 := Tryd.underlying133
  a46 := Tryd.isAgg133
  z46 := Tryd.sizeOf133
  v46 := Tryd.zeroValue133
  t51 := Tryd.underlying106
  a51 := Tryd.isAgg106
  z51 := Tryd.sizeOf106
  v51 := Tryd.zeroValue106
  t53 := Tryd.underlying119
  a53 := Tryd.isAgg119
  z53 := Tryd.sizeOf119
  v53 := Tryd.zeroValue119
  t171 := Tryd.underlying118
  a171 := Tryd.isAgg118
  z171 := Tryd.sizeOf118
  v171 := Tryd.zeroValue118
  t173 := Tryd.underlying122
  a173 := Tryd.isAgg122
  z173 := Tryd.sizeOf122
  v173 := Tryd.zeroValue122
  t212 := Tryd.underlying161
  a212 := Tryd.isAgg161
  z212 := Tryd.sizeOf161
  v212 := Tryd.zeroValue161
  t213 := Tryd.underlying162
  a213 := Tryd.isAgg162
  z213 := Tryd.sizeOf162
  t232 := Tryd.underlying174
  a232 := Tryd.isAgg174
  z232 := Tryd.sizeOf174
  v232 := Tryd.zeroValue174
  t233 := Tryd.underlying175
  a233 := Tryd.isAgg175
  z233 := Tryd.sizeOf175
  v233 := Tryd.zeroValue175
  g17 := by kernel_rfl
  g18 := by kernel_rfl
  g19 := by kernel_rfl }
open Go.RowKit Go.Sort Go.Lib in
/-- THE ROAD WITHOUT THE TABLE: 0 <= i < 100: NO PREMISE ON THE WORLD, AND THE WORLD IS AS IT WAS: a row that keeps its argument in that range need list no table ('laid = []'). (LAID: no walk: one application.) -/
theorem Tryd.strconv_Itoa_small (i : Nat) (hi : i < 100) (w : World) :
    Calls Tryd.prog 103 #[.int .i64 i] w fun e w' => e = .returned (.string ⟨(Lib.decDigits i).toArray⟩) ∧ w' = w := Any.strconv_Itoa_small Tryd.lays171 i hi w
def Tryd.laysM173_ren : Go.Shelf.Ren := ⟨fun | 173 => 59 | 246 => 79 | 283 => 99 | 284 => 100 | 285 => 101 | 286 => 102 | 129 => 117 | 317 => 116 | 318 => 118 | 319 => 119 | 320 => 120 | 337 => 127 | 338 => 128 | n => n, fun | 2 => 2 | 3 => 3 | 9 => 9 | 4 => 4 | 171 => 118 | 0 => 0 | 53 => 119 | 37 => 64 | 5 => 5 | 173 => 122 | 212 => 161 | 51 => 106 | 20 => 20 | 213 => 162 | 46 => 133 | 232 => 174 | 233 => 175 | n => n, fun | 17 => 4 | 18 => 7 | 19 => 8 | n => n⟩
theorem Tryd.laysM173 : Go.Proofs.LaysM.n173 Tryd.prog Tryd.laysM173_ren := {
  mixed := by kernel_rfl
  f129 := Tryd.func117.trans (congrArg some (by kernel_rfl))
  f173 := Tryd.func59.trans (congrArg some (by kernel_rfl))
  f246 := Tryd.func79.trans (congrArg some (by kernel_rfl))
  f283 := Tryd.func99.trans (congrArg some (by kernel_rfl))
  f284 := Tryd.func100.trans (congrArg some (by kernel_rfl))
  f285 := Tryd.func101.trans (congrArg some (by kernel_rfl))
  f286 := Tryd.func102.trans (congrArg some (by kernel_rfl))
  f317 := Tryd.func116.trans (congrArg some (by kernel_rfl))
  f318 := Tryd.func118.trans (congrArg some (by kernel_rfl))
  f319 := Tryd.func119.trans (congrArg some (by kernel_rfl))
  f320 := Tryd.func120.trans (congrArg some (by kernel_rfl))
  f337 := Tryd.func127.trans (congrArg some (by kernel_rfl))
  f338 := Tryd.func128.trans (congrArg some (by kernel_rfl))
  t0 := Tryd.underlying0
  a0 := Tryd.isAgg0
  z0 := Tryd.sizeOf0
  v0 := Tryd.zeroValue0
  t2 := Tryd.underlying2
  a2 := Tryd.isAgg2
  z2 := Tryd.sizeOf2
  v2 := Tryd.zeroValue2
  t3 := Tryd.underlying3
  a3 := Tryd.isAgg3
  z3 := Tryd.sizeOf3
  v3 := Tryd.zeroValue3
  t4 := Tryd.underlying4
  a4 := Tryd.isAgg4
  z4 := Tryd.sizeOf4
  v4 := Tryd.zeroValue4
  t5 := Tryd.underlying5
  a5 := Tryd.isAgg5
  z5 := Tryd.sizeOf5
  v5 := Tryd.zeroValue5
  t9 := Tryd.underlying9
  a9 := Tryd.isAgg9
  z9 := Tryd.sizeOf9
  v9 := Tryd.zeroValue9
  t20 := Tryd.underlying20
  a20 := Tryd.isAgg20
  z20 := Tryd.sizeOf20
  v20 := Tryd.zeroValue20
  t37 := Tryd.underlying64
  a37 := Tryd.isAgg64
  z37 := Tryd.sizeOf64
  v37 := Tryd.zeroValue64
  t46 := Tryd.underlying133
  a46 := Tryd.isAgg133
  z46 := Tryd.sizeOf133
  v46 := Tryd.zeroValue133
  t51 := Tryd.underlying106
  a51 := Tryd.isAgg106
  z51 := Tryd.sizeOf106
  v51 := Tryd.zeroValue106
  t53 := Tryd.underlying119
  a53 := Tryd.isAgg119
  z53 := Tryd.sizeOf119
  v53 := Tryd.zeroValue119
  t171 := Tryd.underlying118
  a171 := Tryd.isAgg118
  z171 := Tryd.sizeOf118
  v171 := Tryd.zeroValue118
  t173 := Tryd.underlying122
  a173 := Tryd.isAgg122
  z173 := Tryd.sizeOf122
  v173 := Tryd.zeroValue122
  t212 := Tryd.underlying161
  a212 := Tryd.isAgg161
  z212 := Tryd.sizeOf161
  v212 := Tryd.zeroValue161
  t213 := Tryd.underlying162
  a213 := Tryd.isAgg162
  z213 := Tryd.sizeOf162
  t232 := Tryd.underlying174
  a232 := Tryd.isAgg174
  z232 := Tryd.sizeOf174
  v232 := Tryd.zeroValue174
  t233 := Tryd.underlying175
  a233 := Tryd.isAgg175
  z233 := Tryd.sizeOf175
  v233 := Tryd.zeroValue175
  g17 := by kernel_rfl
  g18 := by kernel_rfl
  g19 := by kernel_rfl
  i0 := by kernel_rfl
  i2 := by kernel_rfl
  i3 := by kernel_rfl
  i4 := by kernel_rfl
  i5 := by kernel_rfl
  i9 := by kernel_rfl
  i20 := by kernel_rfl
  i37 := by kernel_rfl
  i46 := by kernel_rfl
  i51 := by kernel_rfl
  i53 := by kernel_rfl
  i171 := by kernel_rfl
  i173 := by kernel_rfl
  i212 := by kernel_rfl
  i232 := by kernel_rfl
  i233 := by kernel_rfl
  m17 := by kernel_rfl
  m18 := by kernel_rfl
  m19 := by kernel_rfl }
open Go.RowKit Go.Sort Go.Lib in
/-- strconv.FormatInt: "FormatInt returns the string representation of i in the given base": AT BASE 10: i's decimal numeral, for every int64. (LAID: no walk: one application.) -/
theorem Tryd.strconv_FormatInt_10 (n : Int) (h0 : -9223372036854775808 ≤ n) (h1 : n ≤ 9223372036854775807) (w : World) (htab : Lib.TabIs Tryd.prog w "internal/strconv.uint64pow10" .u64 Lib.pow10Tab) :
    Calls Tryd.prog 59 #[.int .i64 n, .int .i64 10] w fun e w' => e = .returned (.string ⟨(Lib.itoa n).toArray⟩) ∧ ∃ k os, w' = grow (w.drewN k) os := Any.strconv_FormatInt_10 Tryd.laysM173 n h0 h1 w htab
def Tryd.lays173_ren : Go.Shelf.Ren := ⟨fun | 173 => 59 | 246 => 79 | 283 => 99 | 284 => 100 | 285 => 101 | 286 => 102 | 129 => 117 | 317 => 116 | 318 => 118 | 319 => 119 | 320 => 120 | 337 => 127 | 338 => 128 | n => n, fun | 2 => 2 | 3 => 3 | 9 => 9 | 4 => 4 | 171 => 118 | 0 => 0 | 53 => 119 | 37 => 64 | 5 => 5 | 173 => 122 | 212 => 161 | 51 => 106 | 20 => 20 | 213 => 162 | 46 => 133 | 232 => 174 | 233 => 175 | n => n, fun | 17 => 4 | 18 => 7 | 19 => 8 | n => n⟩
theorem Tryd.lays173 : Go.Proofs.Lays.n173 Tryd.prog Tryd.lays173_ren := {
  mixed := by kernel_rfl
  f129 := Tryd.func117.trans (congrArg some (by kernel_rfl))
  f173 := Tryd.func59.trans (congrArg some (by kernel_rfl))
  f246 := Tryd.func79.trans (congrArg some (by kernel_rfl))
  f283 := Tryd.func99.trans (congrArg some (by kernel_rfl))
  f284 := Tryd.func100.trans (congrArg some (by kernel_rfl))
  f285 := Tryd.func101.trans (congrArg some (by kernel_rfl))
  f286 := Tryd.func102.trans (congrArg some (by kernel_rfl))
  f317 := Tryd.func116.trans (congrArg some (by kernel_rfl))
  f318 := Tryd.func118.trans (congrArg some (by kernel_rfl))
  f319 := Tryd.func119.trans (congrArg some (by kernel_rfl))
  f320 := Tryd.func120.trans (congrArg some (by kernel_rfl))
  f337 := Tryd.func127.trans (congrArg some (by kernel_rfl))
  f338 := Tryd.func128.trans (congrArg some (by kernel_rfl))
  t0 := Tryd.underlying0
  a0 := Tryd.isAgg0
  z0 := Tryd.sizeOf0
  v0 := Tryd.zeroValue0
  t2 := Tryd.underlying2
  a2 := Tryd.isAgg2
  z2 := Tryd.sizeOf2
  v2 := Tryd.zeroValue2
  t3 := Tryd.underlying3
  a3 := Tryd.isAgg3
  z3 := Tryd.sizeOf3
  v3 := Tryd.zeroValue3
  t4 := Tryd.underlying4
  a4 := Tryd.isAgg4
  z4 := Tryd.sizeOf4
  v4 := Tryd.zeroValue4
  t5 := Tryd.underlying5
  a5 := Tryd.isAgg5
  z5 := Tryd.sizeOf5
  v5 := Tryd.zeroValue5
  t9 := Tryd.underlying9
  a9 := Tryd.isAgg9
  z9 := Tryd.sizeOf9
  v9 := Tryd.zeroValue9
  t20 := Tryd.underlying20
  a20 := Tryd.isAgg20
  z20 := Tryd.sizeOf20
  v20 := Tryd.zeroValue20
  t37 := Tryd.underlying64
  a37 := Tryd.isAgg64
  z37 := Tryd.sizeOf64
  v37 := Tryd.zeroValue64
  t46 := Tryd.underlying133
  a46 := Tryd.isAgg133
  z46 := Tryd.sizeOf133
  v46 := Tryd.zeroValue133
  t51 := Tryd.underlying106
  a51 := Tryd.isAgg106
  z51 := Tryd.sizeOf106
  v51 := Tryd.zeroValue106
  t53 := Tryd.underlying119
  a53 := Tryd.isAgg119
  z53 := Tryd.sizeOf119
  v53 := Tryd.zeroValue119
  t171 := Tryd.underlying118
  a171 := Tryd.isAgg118
  z171 := Tryd.sizeOf118
  v171 := Tryd.zeroValue118
  t173 := Tryd.underlying122
  a173 := Tryd.isAgg122
  z173 := Tryd.sizeOf122
  v173 := Tryd.zeroValue122
  t212 := Tryd.underlying161
  a212 := Tryd.isAgg161
  z212 := Tryd.sizeOf161
  v212 := Tryd.zeroValue161
  t213 := Tryd.underlying162
  a213 := Tryd.isAgg162
  z213 := Tryd.sizeOf162
  t232 := Tryd.underlying174
  a232 := Tryd.isAgg174
  z232 := Tryd.sizeOf174
  v232 := Tryd.zeroValue174
  t233 := Tryd.underlying175
  a233 := Tryd.isAgg175
  z233 := Tryd.sizeOf175
  v233 := Tryd.zeroValue175
  g17 := by kernel_rfl
  g18 := by kernel_rfl
  g19 := by kernel_rfl }
open Go.RowKit Go.Sort Go.Lib in
/-- THE ROAD WITHOUT THE TABLE: 0 <= i < 100. (LAID: no walk: one application.) -/
theorem Tryd.strconv_FormatInt_10_small (i : Nat) (hi : i < 100) (w : World) :
    Calls Tryd.prog 59 #[.int .i64 i, .int .i64 10] w fun e w' => e = .returned (.string ⟨(Lib.decDigits i).toArray⟩) ∧ w' = w := Any.strconv_FormatInt_10_small Tryd.lays173 i hi w
def Tryd.laysM181_ren : Go.Shelf.Ren := ⟨fun | 181 => 124 | n => n, fun | 130 => 156 | 3 => 3 | 0 => 0 | 93 => 115 | 37 => 64 | 91 => 113 | 5 => 5 | n => n, fun | n => n⟩
theorem Tryd.laysM181 : Go.Proofs.LaysM.n181 Tryd.prog Tryd.laysM181_ren := {
  mixed := by kernel_rfl
  f181 := Tryd.func124.trans (congrArg some (by kernel_rfl))
  t0 := Tryd.underlying0
  a0 := Tryd.isAgg0
  z0 := Tryd.sizeOf0
  v0 := Tryd.zeroValue0
  t3 := Tryd.underlying3
  a3 := Tryd.isAgg3
  z3 := Tryd.sizeOf3
  v3 := Tryd.zeroValue3
  t37 := Tryd.underlying64
  a37 := Tryd.isAgg64
  z37 := Tryd.sizeOf64
  v37 := Tryd.zeroValue64
  t93 := Tryd.underlying115
  a93 := Tryd.isAgg115
  z93 := Tryd.sizeOf115
  v93 := Tryd.zeroValue115
  t130 := Tryd.underlying156
  a130 := Tryd.isAgg156
  z130 := Tryd.sizeOf156
  v130 := Tryd.zeroValue156
  t5 := Tryd.underlying5
  a5 := Tryd.isAgg5
  z5 := Tryd.sizeOf5
  v5 := Tryd.zeroValue5
  t91 := Tryd.underlying113
  a91 := Tryd.isAgg113
  z91 := Tryd.sizeOf113
  v91 := Tryd.zeroValue113
  i0 := by kernel_rfl
  i3 := by kernel_rfl
  i5 := by kernel_rfl
  i37 := by kernel_rfl
  i91 := by kernel_rfl
  i93 := by kernel_rfl
  i130 := by kernel_rfl }
open Go.RowKit in
/-- (*bytes.Buffer).Len: "Len returns the number of bytes of the unread portion of the buffer; b.Len() == len(b.Bytes()).": the world is as it was but for the count of draws (the statement has two reads: its order is drawn). (LAID: no walk: one application.) -/
theorem Tryd.Buffer_Len (B b : Nat) (bs : List Value) (w : World) (h : Lib.IsBuffer 115 5 B b bs w) :
    Calls Tryd.prog 124 #[.pointer (some ⟨b, 0, none⟩)] w fun e w' => e = .returned (.int .i64 bs.length) ∧ ∃ n, w' = w.drewN n := Any.Buffer_Len Tryd.laysM181 B b bs w h
def Tryd.laysM251_ren : Go.Shelf.Ren := ⟨fun | 251 => 114 | n => n, fun | 130 => 156 | 3 => 3 | 4 => 4 | 0 => 0 | 93 => 115 | 37 => 64 | 91 => 113 | 5 => 5 | n => n, fun | n => n⟩
theorem Tryd.laysM251 : Go.Proofs.LaysM.n251 Tryd.prog Tryd.laysM251_ren := {
  mixed := by kernel_rfl
  f251 := Tryd.func114.trans (congrArg some (by kernel_rfl))
  t0 := Tryd.underlying0
  a0 := Tryd.isAgg0
  z0 := Tryd.sizeOf0
  v0 := Tryd.zeroValue0
  t3 := Tryd.underlying3
  a3 := Tryd.isAgg3
  z3 := Tryd.sizeOf3
  v3 := Tryd.zeroValue3
  t4 := Tryd.underlying4
  a4 := Tryd.isAgg4
  z4 := Tryd.sizeOf4
  v4 := Tryd.zeroValue4
  t37 := Tryd.underlying64
  a37 := Tryd.isAgg64
  z37 := Tryd.sizeOf64
  v37 := Tryd.zeroValue64
  t93 := Tryd.underlying115
  a93 := Tryd.isAgg115
  z93 := Tryd.sizeOf115
  v93 := Tryd.zeroValue115
  t130 := Tryd.underlying156
  a130 := Tryd.isAgg156
  z130 := Tryd.sizeOf156
  v130 := Tryd.zeroValue156
  t5 := Tryd.underlying5
  a5 := Tryd.isAgg5
  z5 := Tryd.sizeOf5
  v5 := Tryd.zeroValue5
  t91 := Tryd.underlying113
  a91 := Tryd.isAgg113
  z91 := Tryd.sizeOf113
  v91 := Tryd.zeroValue113
  i0 := by kernel_rfl
  i3 := by kernel_rfl
  i4 := by kernel_rfl
  i5 := by kernel_rfl
  i37 := by kernel_rfl
  i91 := by kernel_rfl
  i93 := by kernel_rfl
  i130 := by kernel_rfl }
open Go.RowKit in
/-- (*bytes.Buffer).tryGrowByReslice: "tryGrowByReslice is an inlineable version of grow for the fast-case where the internal buffer only needs to be resliced. It returns the index where bytes should be written and whether it succeeded.": THERE IS ROOM: 'buf' is resliced to l + n. (LAID: no walk: one application.) -/
theorem Tryd.Buffer_tryGrow_room (b : Nat) (ao : Option Addr) (l cap n : Nat) (w : World) (c0 : w.cell? ⟨b, 0, none⟩ = some (.slice ao l cap)) (f0 : w.frozen? ⟨b, 0, none⟩ = false) (hlc : l ≤ cap) (hcap : cap ≤ maxLen) (hn : n ≤ cap - l) :
    Calls Tryd.prog 114 #[.pointer (some ⟨b, 0, none⟩), .int .i64 n] w fun e w' => e = .returned (.tuple #[.int .i64 l, .bool true]) ∧ w' = w.setCell ⟨b, 0, none⟩ (.slice ao (l + n) cap) := Any.Buffer_tryGrow_room Tryd.laysM251 b ao l cap n w c0 f0 hlc hcap hn
open Go.RowKit in
/-- .. THERE IS NONE: nothing turns. (LAID: no walk: one application.) -/
theorem Tryd.Buffer_tryGrow_none (b : Nat) (ao : Option Addr) (l cap n : Nat) (w : World) (c0 : w.cell? ⟨b, 0, none⟩ = some (.slice ao l cap)) (hlc : l ≤ cap) (hcap : cap ≤ maxLen) (hn : cap - l < n) :
    Calls Tryd.prog 114 #[.pointer (some ⟨b, 0, none⟩), .int .i64 n] w fun e w' => e = .returned (.tuple #[.int .i64 0, .bool false]) ∧ w' = w := Any.Buffer_tryGrow_none Tryd.laysM251 b ao l cap n w c0 hlc hcap hn
def Tryd.laysM324_ren : Go.Shelf.Ren := ⟨fun | 324 => 129 | n => n, fun | 20 => 20 | 4 => 4 | 75 => 77 | 0 => 0 | 80 => 80 | 9 => 9 | n => n, fun | 14 => 6 | n => n⟩
theorem Tryd.laysM324 : Go.Proofs.LaysM.n324 Tryd.prog Tryd.laysM324_ren := {
  mixed := by kernel_rfl
  f324 := Tryd.func129.trans (congrArg some (by kernel_rfl))
  t0 := Tryd.underlying0
  a0 := Tryd.isAgg0
  z0 := Tryd.sizeOf0
  v0 := Tryd.zeroValue0
  t4 := Tryd.underlying4
  a4 := Tryd.isAgg4
  z4 := Tryd.sizeOf4
  v4 := Tryd.zeroValue4
  t20 := Tryd.underlying20
  a20 := Tryd.isAgg20
  z20 := Tryd.sizeOf20
  v20 := Tryd.zeroValue20
  t75 := Tryd.underlying77
  a75 := Tryd.isAgg77
  z75 := Tryd.sizeOf77
  v75 := Tryd.zeroValue77
  g14 := by kernel_rfl
  t9 := Tryd.underlying9
  a9 := Tryd.isAgg9
  z9 := Tryd.sizeOf9
  v9 := Tryd.zeroValue9
  t80 := Tryd.underlying80
  a80 := Tryd.isAgg80
  z80 := Tryd.sizeOf80
  v80 := Tryd.zeroValue80
  i0 := by kernel_rfl
  i4 := by kernel_rfl
  i9 := by kernel_rfl
  i20 := by kernel_rfl
  i75 := by kernel_rfl
  i80 := by kernel_rfl
  m14 := by kernel_rfl }
theorem Tryd.growSlice_catch_idle (w : World) :
    CallsD Tryd.prog 129 #[] .returning w fun e u' w' => e = .returned (.tuple #[]) ∧ u' = .returning ∧ w' = w := Any.growSlice_catch_idle Tryd.laysM324 w
def Tryd.laysM290_ren : Go.Shelf.Ren := ⟨fun | 290 => 126 | 324 => 129 | n => n, fun | 37 => 64 | 3 => 3 | 0 => 0 | 4 => 4 | 20 => 20 | 75 => 77 | 5 => 5 | 80 => 80 | 9 => 9 | n => n, fun | 14 => 6 | n => n⟩
theorem Tryd.laysM290 : Go.Proofs.LaysM.n290 Tryd.prog Tryd.laysM290_ren := {
  mixed := by kernel_rfl
  f290 := Tryd.func126.trans (congrArg some (by kernel_rfl))
  f324 := Tryd.func129.trans (congrArg some (by kernel_rfl))
  t0 := Tryd.underlying0
  a0 := Tryd.isAgg0
  z0 := Tryd.sizeOf0
  v0 := Tryd.zeroValue0
  t3 := Tryd.underlying3
  a3 := Tryd.isAgg3
  z3 := Tryd.sizeOf3
  v3 := Tryd.zeroValue3
  t4 := Tryd.underlying4
  a4 := Tryd.isAgg4
  z4 := Tryd.sizeOf4
  v4 := Tryd.zeroValue4
  t20 := Tryd.underlying20
  a20 := Tryd.isAgg20
  z20 := Tryd.sizeOf20
  v20 := Tryd.zeroValue20
  t37 := Tryd.underlying64
  a37 := Tryd.isAgg64
  z37 := Tryd.sizeOf64
  v37 := Tryd.zeroValue64
  t75 := Tryd.underlying77
  a75 := Tryd.isAgg77
  z75 := Tryd.sizeOf77
  v75 := Tryd.zeroValue77
  g14 := by kernel_rfl
  t5 := Tryd.underlying5
  a5 := Tryd.isAgg5
  z5 := Tryd.sizeOf5
  v5 := Tryd.zeroValue5
  t9 := Tryd.underlying9
  a9 := Tryd.isAgg9
  z9 := Tryd.sizeOf9
  v9 := Tryd.zeroValue9
  t80 := Tryd.underlying80
  a80 := Tryd.isAgg80
  z80 := Tryd.sizeOf80
  v80 := Tryd.zeroValue80
  i0 := by kernel_rfl
  i3 := by kernel_rfl
  i4 := by kernel_rfl
  i5 := by kernel_rfl
  i9 := by kernel_rfl
  i20 := by kernel_rfl
  i37 := by kernel_rfl
  i75 := by kernel_rfl
  i80 := by kernel_rfl
  m14 := by kernel_rfl }
open Go.RowKit in
/-- bytes.growSlice: "growSlice grows b by n, preserving the original content of b.": OF A SLICE THAT LIES AT THE HEAD OF A ROW: a new row, number 'w.heap.size': it begins with b's l cells; its capacity has room for n more; whatever lay below is as it was. (LAID: no walk: one application.) -/
theorem Tryd.bytes_growSlice_row (g l c n : Nat) (cur : Array Value) (w : World) (hg : w.heap[g]? = some (.cells cur 5 (0, 0))) (hcs : cur.size = c) (hlc : l ≤ c) (hn : 1 ≤ n) (hlim : l + n ≤ 140737488355328) (hc2 : c ≤ 140737488355328) (h1 : ∀ v ∈ cur.toList.take l, v.oneCell' = true) :
    Calls Tryd.prog 126 #[.slice (some ⟨g, 0, none⟩) l c, .int .i64 n] w fun e w' => ∃ cap2 cells, e = .returned (.slice (some ⟨w.heap.size, 0, none⟩) l cap2) ∧ w'.heap[w.heap.size]? = some (.cells cells 5 (0, 0)) ∧
      cells.size = cap2 ∧ cells.toList.take l = cur.toList.take l ∧ l + n ≤ cap2 ∧ cap2 ≤ maxLen ∧ Below w.heap.size w w' := Any.bytes_growSlice_row Tryd.laysM290 g l c n cur w hg hcs hlc hn hlim hc2 h1
open Go.RowKit in
/-- .. OF THE NIL SLICE: a new row with room for n. (LAID: no walk: one application.) -/
theorem Tryd.bytes_growSlice_nil (n : Nat) (w : World) (hn : 1 ≤ n) (hlim : n ≤ 140737488355328) :
    Calls Tryd.prog 126 #[.slice none 0 0, .int .i64 n] w fun e w' => ∃ cap2 cells, e = .returned (.slice (some ⟨w.heap.size, 0, none⟩) 0 cap2) ∧ w'.heap[w.heap.size]? = some (.cells cells 5 (0, 0)) ∧
      cells.size = cap2 ∧ n ≤ cap2 ∧ cap2 ≤ maxLen ∧ Below w.heap.size w w' := Any.bytes_growSlice_nil Tryd.laysM290 n w hn hlim
def Tryd.laysM252_ren : Go.Shelf.Ren := ⟨fun | 252 => 115 | 181 => 124 | 184 => 125 | 251 => 114 | 290 => 126 | 324 => 129 | n => n, fun | 130 => 156 | 3 => 3 | 4 => 4 | 0 => 0 | 93 => 115 | 131 => 157 | 37 => 64 | 75 => 77 | 91 => 113 | 20 => 20 | 5 => 5 | 80 => 80 | 9 => 9 | n => n, fun | 14 => 6 | n => n⟩
theorem Tryd.laysM252 : Go.Proofs.LaysM.n252 Tryd.prog Tryd.laysM252_ren := {
  mixed := by kernel_rfl
  f181 := Tryd.func124.trans (congrArg some (by kernel_rfl))
  f184 := Tryd.func125.trans (congrArg some (by kernel_rfl))
  f251 := Tryd.func114.trans (congrArg some (by kernel_rfl))
  f252 := Tryd.func115.trans (congrArg some (by kernel_rfl))
  f290 := Tryd.func126.trans (congrArg some (by kernel_rfl))
  f324 := Tryd.func129.trans (congrArg some (by kernel_rfl))
  t0 := Tryd.underlying0
  a0 := Tryd.isAgg0
  z0 := Tryd.sizeOf0
  v0 := Tryd.zeroValue0
  t3 := Tryd.underlying3
  a3 := Tryd.isAgg3
  z3 := Tryd.sizeOf3
  v3 := Tryd.zeroValue3
  t4 := Tryd.underlying4
  a4 := Tryd.isAgg4
  z4 := Tryd.sizeOf4
  v4 := Tryd.zeroValue4
  t20 := Tryd.underlying20
  a20 := Tryd.isAgg20
  z20 := Tryd.sizeOf20
  v20 := Tryd.zeroValue20
  t37 := Tryd.underlying64
  a37 := Tryd.isAgg64
  z37 := Tryd.sizeOf64
  v37 := Tryd.zeroValue64
  t75 := Tryd.underlying77
  a75 := Tryd.isAgg77
  z75 := Tryd.sizeOf77
  v75 := Tryd.zeroValue77
  t91 := Tryd.underlying113
  a91 := Tryd.isAgg113
  z91 := Tryd.sizeOf113
  v91 := Tryd.zeroValue113
  t93 := Tryd.underlying115
  a93 := Tryd.isAgg115
  z93 := Tryd.sizeOf115
  v93 := Tryd.zeroValue115
  t130 := Tryd.underlying156
  a130 := Tryd.isAgg156
  z130 := Tryd.sizeOf156
  v130 := Tryd.zeroValue156
  t131 := Tryd.underlying157
  a131 := Tryd.isAgg157
  z131 := Tryd.sizeOf157
  v131 := Tryd.zeroValue157
  g14 := by kernel_rfl
  t5 := Tryd.underlying5
  a5 := Tryd.isAgg5
  z5 := Tryd.sizeOf5
  v5 := Tryd.zeroValue5
  t9 := Tryd.underlying9
  a9 := Tryd.isAgg9
  z9 := Tryd.sizeOf9
  v9 := Tryd.zeroValue9
  t80 := Tryd.underlying80
  a80 := Tryd.isAgg80
  z80 := Tryd.sizeOf80
  v80 := Tryd.zeroValue80
  i0 := by kernel_rfl
  i3 := by kernel_rfl
  i4 := by kernel_rfl
  i5 := by kernel_rfl
  i9 := by kernel_rfl
  i20 := by kernel_rfl
  i37 := by kernel_rfl
  i75 := by kernel_rfl
  i80 := by kernel_rfl
  i91 := by kernel_rfl
  i93 := by kernel_rfl
  i130 := by kernel_rfl
  i131 := by kernel_rfl
  m14 := by kernel_rfl }
open Go.RowKit in
/-- grow, WHERE THE BUFFER HOLDS A ROW, NO BYTE IN IT (behind a Reset), AND THE ROW HAS NO ROOM: growSlice. (THE TEXT OF 'Buffer_grow_row' WITH 0 FOR l, BY PROGRAM: the walk parts on 'm == 0' and writes 0 for l throughout the goal: facts that still say l then do not strike: so l is laid in ahead of the walk.) (LAID: no walk: one application.) -/
theorem Tryd.Buffer_grow_row0 (B b g cap n : Nat) (lr : Int) (cur : Array Value) (bs : List Value) (w : World) (hB : B ≤ b) (hBw : B ≤ w.heap.size) (hbk : w.heap[b]? = some (.cells #[.slice (some ⟨g, 0, none⟩) 0 cap, .int .i64 0, .int .i8 lr] 115 (0, 0))) (hl : bs.length = 0) (hBg : B ≤ g) (hg : w.heap[g]? = some (.cells cur 5 (0, 0))) (hlc : 0 ≤ cap) (hcm : cap ≤ maxLen) (hcs : cur.size = cap) (htake : cur.toList.take 0 = bs) (hgb : g ≠ b) (h1 : ∀ v ∈ bs, v.oneCell' = true) (hn : 1 ≤ n) (hroom : cap - 0 < n) (hlim : 0 + n ≤ 140737488355328) :
    Calls Tryd.prog 115 #[.pointer (some ⟨b, 0, none⟩), .int .i64 n] w fun e w' => e = .returned (.int .i64 0) ∧ ∃ xs, xs.length = n ∧ Lib.IsBuffer 115 5 B b (bs ++ xs) w' ∧ Below B w w' := Any.Buffer_grow_row0 Tryd.laysM252 B b g cap n lr cur bs w hB hBw hbk hl hBg hg hlc hcm hcs htake hgb h1 hn hroom hlim
open Go.RowKit in
/-- grow, WHERE THE BUFFER HOLDS A ROW THAT HAS NO ROOM: growSlice. (LAID: no walk: one application.) -/
theorem Tryd.Buffer_grow_row (B b g l cap n : Nat) (lr : Int) (cur : Array Value) (bs : List Value) (w : World) (hB : B ≤ b) (hBw : B ≤ w.heap.size) (hbk : w.heap[b]? = some (.cells #[.slice (some ⟨g, 0, none⟩) l cap, .int .i64 0, .int .i8 lr] 115 (0, 0))) (hl : bs.length = l) (hBg : B ≤ g) (hg : w.heap[g]? = some (.cells cur 5 (0, 0))) (hlc : l ≤ cap) (hcm : cap ≤ maxLen) (hcs : cur.size = cap) (htake : cur.toList.take l = bs) (hgb : g ≠ b) (h1 : ∀ v ∈ bs, v.oneCell' = true) (hn : 1 ≤ n) (hroom : cap - l < n) (hlim : l + n ≤ 140737488355328) :
    Calls Tryd.prog 115 #[.pointer (some ⟨b, 0, none⟩), .int .i64 n] w fun e w' => e = .returned (.int .i64 l) ∧ ∃ xs, xs.length = n ∧ Lib.IsBuffer 115 5 B b (bs ++ xs) w' ∧ Below B w w' := Any.Buffer_grow_row Tryd.laysM252 B b g l cap n lr cur bs w hB hBw hbk hl hBg hg hlc hcm hcs htake hgb h1 hn hroom hlim
open Go.RowKit in
/-- grow, 'buf' nil, n AT MOST 64: 'b.buf = make([]byte, n, smallBufferSize)'. (LAID: no walk: one application.) -/
theorem Tryd.Buffer_grow_nil_small (B b n : Nat) (lr : Int) (w : World) (hB : B ≤ b) (hBw : B ≤ w.heap.size) (hbk : w.heap[b]? = some (.cells #[.slice none 0 0, .int .i64 0, .int .i8 lr] 115 (0, 0))) (hn : 1 ≤ n) (h64 : n ≤ 64) :
    Calls Tryd.prog 115 #[.pointer (some ⟨b, 0, none⟩), .int .i64 n] w fun e w' => e = .returned (.int .i64 0) ∧ ∃ xs, xs.length = n ∧ Lib.IsBuffer 115 5 B b xs w' ∧ Below B w w' := Any.Buffer_grow_nil_small Tryd.laysM252 B b n lr w hB hBw hbk hn h64
open Go.RowKit in
/-- grow, 'buf' nil, n ABOVE 64: growSlice of the nil slice. (LAID: no walk: one application.) -/
theorem Tryd.Buffer_grow_nil_big (B b n : Nat) (lr : Int) (w : World) (hB : B ≤ b) (hBw : B ≤ w.heap.size) (hbk : w.heap[b]? = some (.cells #[.slice none 0 0, .int .i64 0, .int .i8 lr] 115 (0, 0))) (h64 : 64 < n) (hlim : n ≤ 140737488355328) :
    Calls Tryd.prog 115 #[.pointer (some ⟨b, 0, none⟩), .int .i64 n] w fun e w' => e = .returned (.int .i64 0) ∧ ∃ xs, xs.length = n ∧ Lib.IsBuffer 115 5 B b xs w' ∧ Below B w w' := Any.Buffer_grow_nil_big Tryd.laysM252 B b n lr w hB hBw hbk h64 hlim
open Go.RowKit in
/-- tryGrowByReslice: EITHER there is room: the place to write at is the old length, and the buffer holds the old bytes and n more of whatever lay there; OR there is none: nothing turns, and 'Lib.NoRoom' is what grow asks. (LAID: no walk: one application.) -/
theorem Tryd.Buffer_tryGrow (B b n : Nat) (bs : List Value) (w : World) (h : Lib.IsBuffer 115 5 B b bs w) :
    Calls Tryd.prog 114 #[.pointer (some ⟨b, 0, none⟩), .int .i64 n] w fun e w' =>
      (e = .returned (.tuple #[.int .i64 bs.length, .bool true]) ∧ ∃ xs, xs.length = n ∧ Lib.IsBuffer 115 5 B b (bs ++ xs) w' ∧ Below B w w') ∨
      (e = .returned (.tuple #[.int .i64 0, .bool false]) ∧ w' = w ∧ Lib.NoRoom b n w) := Any.Buffer_tryGrow Tryd.laysM251 B b n bs w h
open Go.RowKit in
/-- (*bytes.Buffer).grow: "grow grows the buffer to guarantee space for n more bytes. It returns the index where bytes should be written.": WHERE THERE IS NO ROOM; UNDER Go's OWN LIMIT (the new length takes at most 2^47 bytes): the old length; the buffer holds the old bytes and n more of whatever. (LAID: no walk: one application.) -/
theorem Tryd.Buffer_grow (B b n : Nat) (bs : List Value) (w : World) (h : Lib.IsBuffer 115 5 B b bs w) (hnr : Lib.NoRoom b n w) (hBw : B ≤ w.heap.size) (h1 : ∀ v ∈ bs, v.oneCell' = true) (hlim : bs.length + n ≤ 140737488355328) :
    Calls Tryd.prog 115 #[.pointer (some ⟨b, 0, none⟩), .int .i64 n] w fun e w' => e = .returned (.int .i64 bs.length) ∧ ∃ xs, xs.length = n ∧ Lib.IsBuffer 115 5 B b (bs ++ xs) w' ∧ Below B w w' := Any.Buffer_grow Tryd.laysM252 B b n bs w h hnr hBw h1 hlim
def Tryd.laysM178_ren : Go.Shelf.Ren := ⟨fun | 178 => 96 | 251 => 114 | 252 => 115 | 181 => 124 | 184 => 125 | 290 => 126 | 324 => 129 | n => n, fun | 130 => 156 | 9 => 9 | 3 => 3 | 75 => 77 | 0 => 0 | 93 => 115 | 91 => 113 | 131 => 157 | 4 => 4 | 37 => 64 | 20 => 20 | 80 => 80 | 5 => 5 | n => n, fun | 14 => 6 | n => n⟩
theorem Tryd.laysM178 : Go.Proofs.LaysM.n178 Tryd.prog Tryd.laysM178_ren := {
  mixed := by kernel_rfl
  f178 := Tryd.func96.trans (congrArg some (by kernel_rfl))
  f181 := Tryd.func124.trans (congrArg some (by kernel_rfl))
  f184 := Tryd.func125.trans (congrArg some (by kernel_rfl))
  f251 := Tryd.func114.trans (congrArg some (by kernel_rfl))
  f252 := Tryd.func115.trans (congrArg some (by kernel_rfl))
  f290 := Tryd.func126.trans (congrArg some (by kernel_rfl))
  f324 := Tryd.func129.trans (congrArg some (by kernel_rfl))
  t0 := Tryd.underlying0
  a0 := Tryd.isAgg0
  z0 := Tryd.sizeOf0
  v0 := Tryd.zeroValue0
  t3 := Tryd.underlying3
  a3 := Tryd.isAgg3
  z3 := Tryd.sizeOf3
  v3 := Tryd.zeroValue3
  t4 := Tryd.underlying4
  a4 := Tryd.isAgg4
  z4 := Tryd.sizeOf4
  v4 := Tryd.zeroValue4
  t9 := Tryd.underlying9
  a9 := Tryd.isAgg9
  z9 := Tryd.sizeOf9
  v9 := Tryd.zeroValue9
  t20 := Tryd.underlying20
  a20 := Tryd.isAgg20
  z20 := Tryd.sizeOf20
  v20 := Tryd.zeroValue20
  t37 := Tryd.underlying64
  a37 := Tryd.isAgg64
  z37 := Tryd.sizeOf64
  v37 := Tryd.zeroValue64
  t75 := Tryd.underlying77
  a75 := Tryd.isAgg77
  z75 := Tryd.sizeOf77
  v75 := Tryd.zeroValue77
  t91 := Tryd.underlying113
  a91 := Tryd.isAgg113
  z91 := Tryd.sizeOf113
  v91 := Tryd.zeroValue113
  t93 := Tryd.underlying115
  a93 := Tryd.isAgg115
  z93 := Tryd.sizeOf115
  v93 := Tryd.zeroValue115
  t130 := Tryd.underlying156
  a130 := Tryd.isAgg156
  z130 := Tryd.sizeOf156
  v130 := Tryd.zeroValue156
  t131 := Tryd.underlying157
  a131 := Tryd.isAgg157
  z131 := Tryd.sizeOf157
  v131 := Tryd.zeroValue157
  g14 := by kernel_rfl
  t5 := Tryd.underlying5
  a5 := Tryd.isAgg5
  z5 := Tryd.sizeOf5
  v5 := Tryd.zeroValue5
  t80 := Tryd.underlying80
  a80 := Tryd.isAgg80
  z80 := Tryd.sizeOf80
  v80 := Tryd.zeroValue80
  i0 := by kernel_rfl
  i3 := by kernel_rfl
  i4 := by kernel_rfl
  i5 := by kernel_rfl
  i9 := by kernel_rfl
  i20 := by kernel_rfl
  i37 := by kernel_rfl
  i75 := by kernel_rfl
  i80 := by kernel_rfl
  i91 := by kernel_rfl
  i93 := by kernel_rfl
  i130 := by kernel_rfl
  i131 := by kernel_rfl
  m14 := by kernel_rfl }
open Go.RowKit in
/-- (*bytes.Buffer).WriteString: "WriteString appends the contents of s to the buffer, growing the buffer as needed. The return value n is the length of s; err is always nil." (LAID: no walk: one application.) -/
theorem Tryd.Buffer_WriteString (B b : Nat) (bs : List Value) (s : ByteArray) (w : World) (h : Lib.IsBuffer 115 5 B b bs w) (hBw : B ≤ w.heap.size) (h1 : ∀ v ∈ bs, v.oneCell' = true) (hlim : bs.length + s.size ≤ 140737488355328) :
    Calls Tryd.prog 96 #[.pointer (some ⟨b, 0, none⟩), .string s] w fun e w' => e = .returned (.tuple #[.int .i64 s.size, .nilIface]) ∧ Lib.IsBuffer 115 5 B b (bs ++ Lib.byteCells s.data.toList) w' ∧ Below B w w' := Any.Buffer_WriteString Tryd.laysM178 B b bs s w h hBw h1 hlim
def Tryd.laysM182_ren : Go.Shelf.Ren := ⟨fun | 182 => 98 | n => n, fun | 130 => 156 | 9 => 9 | 4 => 4 | 0 => 0 | 93 => 115 | 37 => 64 | 3 => 3 | 91 => 113 | 5 => 5 | n => n, fun | n => n⟩
theorem Tryd.laysM182 : Go.Proofs.LaysM.n182 Tryd.prog Tryd.laysM182_ren := {
  mixed := by kernel_rfl
  f182 := Tryd.func98.trans (congrArg some (by kernel_rfl))
  t0 := Tryd.underlying0
  a0 := Tryd.isAgg0
  z0 := Tryd.sizeOf0
  v0 := Tryd.zeroValue0
  t3 := Tryd.underlying3
  a3 := Tryd.isAgg3
  z3 := Tryd.sizeOf3
  v3 := Tryd.zeroValue3
  t4 := Tryd.underlying4
  a4 := Tryd.isAgg4
  z4 := Tryd.sizeOf4
  v4 := Tryd.zeroValue4
  t9 := Tryd.underlying9
  a9 := Tryd.isAgg9
  z9 := Tryd.sizeOf9
  v9 := Tryd.zeroValue9
  t37 := Tryd.underlying64
  a37 := Tryd.isAgg64
  z37 := Tryd.sizeOf64
  v37 := Tryd.zeroValue64
  t93 := Tryd.underlying115
  a93 := Tryd.isAgg115
  z93 := Tryd.sizeOf115
  v93 := Tryd.zeroValue115
  t130 := Tryd.underlying156
  a130 := Tryd.isAgg156
  z130 := Tryd.sizeOf156
  v130 := Tryd.zeroValue156
  t5 := Tryd.underlying5
  a5 := Tryd.isAgg5
  z5 := Tryd.sizeOf5
  v5 := Tryd.zeroValue5
  t91 := Tryd.underlying113
  a91 := Tryd.isAgg113
  z91 := Tryd.sizeOf113
  v91 := Tryd.zeroValue113
  i0 := by kernel_rfl
  i3 := by kernel_rfl
  i4 := by kernel_rfl
  i5 := by kernel_rfl
  i9 := by kernel_rfl
  i37 := by kernel_rfl
  i91 := by kernel_rfl
  i93 := by kernel_rfl
  i130 := by kernel_rfl }
open Go.RowKit in
/-- (*bytes.Buffer).String: "String returns the contents of the unread portion of the buffer as a string.": THE BYTES THAT WERE WRITTEN. The world is as it was but for the count of draws (the statement has two reads: its order is drawn). (LAID: no walk: one application.) -/
theorem Tryd.Buffer_String (B b : Nat) (l : List UInt8) (w : World) (h : Lib.IsBuffer 115 5 B b (Lib.byteCells l) w) :
    Calls Tryd.prog 98 #[.pointer (some ⟨b, 0, none⟩)] w fun e w' => e = .returned (.string ⟨l.toArray⟩) ∧ ∃ n, w' = w.drewN n := Any.Buffer_String Tryd.laysM182 B b l w h
open Go.RowKit in
/-- grow, WHERE THE BUFFER HOLDS A ROW, NO BYTE IN IT (behind a Reset), AND THE ROW HAS NO ROOM: growSlice. (THE TEXT OF 'Buffer_grow_row' WITH 0 FOR l, BY PROGRAM: the walk parts on 'm == 0' and writes 0 for l throughout the goal: facts that still say l then do not strike: so l is laid in ahead of the walk.) (LAID: no walk: one application.) -/
theorem Tryd.Buffer_grow_row0_kept (B b g cap n : Nat) (lr : Int) (cur : Array Value) (bs : List Value) (w : World) (hB : B ≤ b) (hBw : B ≤ w.heap.size) (hbk : w.heap[b]? = some (.cells #[.slice (some ⟨g, 0, none⟩) 0 cap, .int .i64 0, .int .i8 lr] 115 (0, 0))) (hl : bs.length = 0) (hBg : B ≤ g) (hg : w.heap[g]? = some (.cells cur 5 (0, 0))) (hlc : 0 ≤ cap) (hcm : cap ≤ maxLen) (hcs : cur.size = cap) (htake : cur.toList.take 0 = bs) (hgb : g ≠ b) (h1 : ∀ v ∈ bs, v.oneCell' = true) (hn : 1 ≤ n) (hroom : cap - 0 < n) (hlim : 0 + n ≤ 140737488355328) :
    Calls Tryd.prog 115 #[.pointer (some ⟨b, 0, none⟩), .int .i64 n] w fun e w' => e = .returned (.int .i64 0) ∧ ∃ xs, xs.length = n ∧ Lib.IsBuffer 115 5 B b (bs ++ xs) w' ∧ Below B w w' ∧ Lib.OthersKept 5 (some b) w w' := Any.Buffer_grow_row0_kept Tryd.laysM252 B b g cap n lr cur bs w hB hBw hbk hl hBg hg hlc hcm hcs htake hgb h1 hn hroom hlim
open Go.RowKit in
/-- grow, WHERE THE BUFFER HOLDS A ROW THAT HAS NO ROOM: growSlice. (LAID: no walk: one application.) -/
theorem Tryd.Buffer_grow_row_kept (B b g l cap n : Nat) (lr : Int) (cur : Array Value) (bs : List Value) (w : World) (hB : B ≤ b) (hBw : B ≤ w.heap.size) (hbk : w.heap[b]? = some (.cells #[.slice (some ⟨g, 0, none⟩) l cap, .int .i64 0, .int .i8 lr] 115 (0, 0))) (hl : bs.length = l) (hBg : B ≤ g) (hg : w.heap[g]? = some (.cells cur 5 (0, 0))) (hlc : l ≤ cap) (hcm : cap ≤ maxLen) (hcs : cur.size = cap) (htake : cur.toList.take l = bs) (hgb : g ≠ b) (h1 : ∀ v ∈ bs, v.oneCell' = true) (hn : 1 ≤ n) (hroom : cap - l < n) (hlim : l + n ≤ 140737488355328) :
    Calls Tryd.prog 115 #[.pointer (some ⟨b, 0, none⟩), .int .i64 n] w fun e w' => e = .returned (.int .i64 l) ∧ ∃ xs, xs.length = n ∧ Lib.IsBuffer 115 5 B b (bs ++ xs) w' ∧ Below B w w' ∧ Lib.OthersKept 5 (some b) w w' := Any.Buffer_grow_row_kept Tryd.laysM252 B b g l cap n lr cur bs w hB hBw hbk hl hBg hg hlc hcm hcs htake hgb h1 hn hroom hlim
open Go.RowKit in
/-- grow, 'buf' nil, n AT MOST 64: 'b.buf = make([]byte, n, smallBufferSize)'. (LAID: no walk: one application.) -/
theorem Tryd.Buffer_grow_nil_small_kept (B b n : Nat) (lr : Int) (w : World) (hB : B ≤ b) (hBw : B ≤ w.heap.size) (hbk : w.heap[b]? = some (.cells #[.slice none 0 0, .int .i64 0, .int .i8 lr] 115 (0, 0))) (hn : 1 ≤ n) (h64 : n ≤ 64) :
    Calls Tryd.prog 115 #[.pointer (some ⟨b, 0, none⟩), .int .i64 n] w fun e w' => e = .returned (.int .i64 0) ∧ ∃ xs, xs.length = n ∧ Lib.IsBuffer 115 5 B b xs w' ∧ Below B w w' ∧ Lib.OthersKept 5 (some b) w w' := Any.Buffer_grow_nil_small_kept Tryd.laysM252 B b n lr w hB hBw hbk hn h64
open Go.RowKit in
/-- grow, 'buf' nil, n ABOVE 64: growSlice of the nil slice. (LAID: no walk: one application.) -/
theorem Tryd.Buffer_grow_nil_big_kept (B b n : Nat) (lr : Int) (w : World) (hB : B ≤ b) (hBw : B ≤ w.heap.size) (hbk : w.heap[b]? = some (.cells #[.slice none 0 0, .int .i64 0, .int .i8 lr] 115 (0, 0))) (h64 : 64 < n) (hlim : n ≤ 140737488355328) :
    Calls Tryd.prog 115 #[.pointer (some ⟨b, 0, none⟩), .int .i64 n] w fun e w' => e = .returned (.int .i64 0) ∧ ∃ xs, xs.length = n ∧ Lib.IsBuffer 115 5 B b xs w' ∧ Below B w w' ∧ Lib.OthersKept 5 (some b) w w' := Any.Buffer_grow_nil_big_kept Tryd.laysM252 B b n lr w hB hBw hbk h64 hlim
open Go.RowKit in
/-- tryGrowByReslice: EITHER there is room: the place to write at is the old length, and the buffer holds the old bytes and n more of whatever lay there; OR there is none: nothing turns, and 'Lib.NoRoom' is what grow asks. (LAID: no walk: one application.) -/
theorem Tryd.Buffer_tryGrow_kept (B b n : Nat) (bs : List Value) (w : World) (h : Lib.IsBuffer 115 5 B b bs w) :
    Calls Tryd.prog 114 #[.pointer (some ⟨b, 0, none⟩), .int .i64 n] w fun e w' =>
      (e = .returned (.tuple #[.int .i64 bs.length, .bool true]) ∧ ∃ xs, xs.length = n ∧ Lib.IsBuffer 115 5 B b (bs ++ xs) w' ∧ Below B w w' ∧ Lib.OthersKept 5 (some b) w w') ∨
      (e = .returned (.tuple #[.int .i64 0, .bool false]) ∧ w' = w ∧ Lib.NoRoom b n w) := Any.Buffer_tryGrow_kept Tryd.laysM251 B b n bs w h
open Go.RowKit in
/-- (*bytes.Buffer).grow: "grow grows the buffer to guarantee space for n more bytes. It returns the index where bytes should be written.": WHERE THERE IS NO ROOM; UNDER Go's OWN LIMIT (the new length takes at most 2^47 bytes): the old length; the buffer holds the old bytes and n more of whatever. (LAID: no walk: one application.) -/
theorem Tryd.Buffer_grow_kept (B b n : Nat) (bs : List Value) (w : World) (h : Lib.IsBuffer 115 5 B b bs w) (hnr : Lib.NoRoom b n w) (hBw : B ≤ w.heap.size) (h1 : ∀ v ∈ bs, v.oneCell' = true) (hlim : bs.length + n ≤ 140737488355328) :
    Calls Tryd.prog 115 #[.pointer (some ⟨b, 0, none⟩), .int .i64 n] w fun e w' => e = .returned (.int .i64 bs.length) ∧ ∃ xs, xs.length = n ∧ Lib.IsBuffer 115 5 B b (bs ++ xs) w' ∧ Below B w w' ∧ Lib.OthersKept 5 (some b) w w' := Any.Buffer_grow_kept Tryd.laysM252 B b n bs w h hnr hBw h1 hlim
open Go.RowKit in
/-- (*bytes.Buffer).WriteString: "WriteString appends the contents of s to the buffer, growing the buffer as needed. The return value n is the length of s; err is always nil." (LAID: no walk: one application.) -/
theorem Tryd.Buffer_WriteString_kept (B b : Nat) (bs : List Value) (s : ByteArray) (w : World) (h : Lib.IsBuffer 115 5 B b bs w) (hBw : B ≤ w.heap.size) (h1 : ∀ v ∈ bs, v.oneCell' = true) (hlim : bs.length + s.size ≤ 140737488355328) :
    Calls Tryd.prog 96 #[.pointer (some ⟨b, 0, none⟩), .string s] w fun e w' => e = .returned (.tuple #[.int .i64 s.size, .nilIface]) ∧ Lib.IsBuffer 115 5 B b (bs ++ Lib.byteCells s.data.toList) w' ∧ Below B w w' ∧ Lib.OthersKept 5 (some b) w w' := Any.Buffer_WriteString_kept Tryd.laysM178 B b bs s w h hBw h1 hlim
def Tryd.laysM184_ren : Go.Shelf.Ren := ⟨fun | 184 => 125 | n => n, fun | 130 => 156 | 0 => 0 | 93 => 115 | 37 => 64 | 3 => 3 | 91 => 113 | 5 => 5 | n => n, fun | n => n⟩
theorem Tryd.laysM184 : Go.Proofs.LaysM.n184 Tryd.prog Tryd.laysM184_ren := {
  mixed := by kernel_rfl
  f184 := Tryd.func125.trans (congrArg some (by kernel_rfl))
  t0 := Tryd.underlying0
  a0 := Tryd.isAgg0
  z0 := Tryd.sizeOf0
  v0 := Tryd.zeroValue0
  t3 := Tryd.underlying3
  a3 := Tryd.isAgg3
  z3 := Tryd.sizeOf3
  v3 := Tryd.zeroValue3
  t37 := Tryd.underlying64
  a37 := Tryd.isAgg64
  z37 := Tryd.sizeOf64
  v37 := Tryd.zeroValue64
  t91 := Tryd.underlying113
  a91 := Tryd.isAgg113
  z91 := Tryd.sizeOf113
  v91 := Tryd.zeroValue113
  t93 := Tryd.underlying115
  a93 := Tryd.isAgg115
  z93 := Tryd.sizeOf115
  v93 := Tryd.zeroValue115
  t130 := Tryd.underlying156
  a130 := Tryd.isAgg156
  z130 := Tryd.sizeOf156
  v130 := Tryd.zeroValue156
  t5 := Tryd.underlying5
  a5 := Tryd.isAgg5
  z5 := Tryd.sizeOf5
  v5 := Tryd.zeroValue5
  i0 := by kernel_rfl
  i3 := by kernel_rfl
  i5 := by kernel_rfl
  i37 := by kernel_rfl
  i91 := by kernel_rfl
  i93 := by kernel_rfl
  i130 := by kernel_rfl }
open Go.RowKit in
/-- (*bytes.Buffer).Reset: "Reset resets the buffer to be empty, but it retains the underlying storage for use by future writes." (LAID: no walk: one application.) -/
theorem Tryd.Buffer_Reset_kept (B b : Nat) (bs : List Value) (w : World) (h : Lib.IsBuffer 115 5 B b bs w) :
    Calls Tryd.prog 125 #[.pointer (some ⟨b, 0, none⟩)] w fun e w' => e = .returned (.tuple #[]) ∧ Lib.IsBuffer 115 5 B b [] w' ∧ Below B w w' ∧ Lib.OthersKept 5 (some b) w w' := Any.Buffer_Reset_kept Tryd.laysM184 B b bs w h
def Tryd.lays222_ren : Go.Shelf.Ren := ⟨fun | 222 => 112 | n => n, fun | 9 => 9 | 5 => 5 | 3 => 3 | 4 => 4 | n => n, fun | n => n⟩
theorem Tryd.lays222 : Go.Proofs.Lays.n222 Tryd.prog Tryd.lays222_ren := {
  mixed := by kernel_rfl
  f222 := Tryd.func112.trans (congrArg some (by kernel_rfl))
  t3 := Tryd.underlying3
  a3 := Tryd.isAgg3
  z3 := Tryd.sizeOf3
  v3 := Tryd.zeroValue3
  t4 := Tryd.underlying4
  a4 := Tryd.isAgg4
  z4 := Tryd.sizeOf4
  v4 := Tryd.zeroValue4
  t5 := Tryd.underlying5
  a5 := Tryd.isAgg5
  z5 := Tryd.sizeOf5
  v5 := Tryd.zeroValue5
  t9 := Tryd.underlying9
  a9 := Tryd.isAgg9
  z9 := Tryd.sizeOf9
  v9 := Tryd.zeroValue9 }
open Go.RowKit Go.Lib in
/-- internal/bytealg.LastIndexByteString: 'for i := len(s) - 1; i >= 0; i-- { if s[i] == c { return i } }; return -1'. (LAID: no walk: one application.) -/
theorem Tryd.bytealg_LastIndexByteString_nm (s : ByteArray) (c : Int) (hs : s.size < 4611686018427387904) (w : World) :
    Calls Tryd.prog 112 #[.string s, .int .u8 c] w fun e w' => e = .returned (.int .i64 (Lib.lastIndexByte s c)) ∧ w' = w := Any.bytealg_LastIndexByteString_nm Tryd.lays222 s c hs w
def Tryd.lays148_ren : Go.Shelf.Ren := ⟨fun | 148 => 95 | 222 => 112 | 223 => 113 | 269 => 123 | n => n, fun | 9 => 9 | 3 => 3 | 4 => 4 | 5 => 5 | 146 => 170 | 51 => 106 | 46 => 133 | n => n, fun | n => n⟩
theorem Tryd.lays148 : Go.Proofs.Lays.n148 Tryd.prog Tryd.lays148_ren := {
  mixed := by kernel_rfl
  f148 := Tryd.func95.trans (congrArg some (by kernel_rfl))
  f222 := Tryd.func112.trans (congrArg some (by kernel_rfl))
  f223 := Tryd.func113.trans (congrArg some (by kernel_rfl))
  f269 := Tryd.func123.trans (congrArg some (by kernel_rfl))
  t3 := Tryd.underlying3
  a3 := Tryd.isAgg3
  z3 := Tryd.sizeOf3
  v3 := Tryd.zeroValue3
  t4 := Tryd.underlying4
  a4 := Tryd.isAgg4
  z4 := Tryd.sizeOf4
  v4 := Tryd.zeroValue4
  t5 := Tryd.underlying5
  a5 := Tryd.isAgg5
  z5 := Tryd.sizeOf5
  v5 := Tryd.zeroValue5
  t9 := Tryd.underlying9
  a9 := Tryd.isAgg9
  z9 := Tryd.sizeOf9
  v9 := Tryd.zeroValue9
  t46 := Tryd.underlying133
  a46 := Tryd.isAgg133
  z46 := Tryd.sizeOf133
  v46 := Tryd.zeroValue133
  t51 := Tryd.underlying106
  a51 := Tryd.isAgg106
  z51 := Tryd.sizeOf106
  v51 := Tryd.zeroValue106
  t146 := Tryd.underlying170
  a146 := Tryd.isAgg170
  z146 := Tryd.sizeOf170
  v146 := Tryd.zeroValue170 }
open Go.RowKit Go.Lib in
/-- strings.LastIndex AT A substr OF ONE BYTE (as in 'strings.LastIndex(path, "/")'): the last place of that byte, or -1. (LAID: no walk: one application.) -/
theorem Tryd.strings_LastIndex_one (s sub : ByteArray) (h1 : sub.size = 1) (hs : s.size < 4611686018427387904) (w : World) :
    Calls Tryd.prog 95 #[.string s, .string sub] w fun e w' => e = .returned (.int .i64 (Lib.lastIndexByte s ((sub[0]'(by omega)).toNat : Int))) ∧ w' = w := Any.strings_LastIndex_one Tryd.lays148 s sub h1 hs w
open Go.RowKit Go.Lib in
/-- .. AT THE EMPTY substr: len(s). (LAID: no walk: one application.) -/
theorem Tryd.strings_LastIndex_empty (s sub : ByteArray) (h0 : sub.size = 0) (w : World) :
    Calls Tryd.prog 95 #[.string s, .string sub] w fun e w' => e = .returned (.int .i64 s.size) ∧ w' = w := Any.strings_LastIndex_empty Tryd.lays148 s sub h0 w
open Go.RowKit Go.Lib in
/-- .. AT A substr LONGER THAN s (and of two bytes or more): -1. (LAID: no walk: one application.) -/
theorem Tryd.strings_LastIndex_longer (s sub : ByteArray) (h2 : 2 ≤ sub.size) (hl : s.size < sub.size) (w : World) :
    Calls Tryd.prog 95 #[.string s, .string sub] w fun e w' => e = .returned (.int .i64 (-1)) ∧ w' = w := Any.strings_LastIndex_longer Tryd.lays148 s sub h2 hl w
open Go.RowKit Go.Lib in
/-- .. AT A substr AS LONG AS s (and of two bytes or more): 0 where the two are one, else -1. (LAID: no walk: one application.) -/
theorem Tryd.strings_LastIndex_whole (s sub : ByteArray) (h2 : 2 ≤ sub.size) (hl : sub.size = s.size) (w : World) :
    Calls Tryd.prog 95 #[.string s, .string sub] w fun e w' => e = .returned (.int .i64 (if sub = s then 0 else -1)) ∧ w' = w := Any.strings_LastIndex_whole Tryd.lays148 s sub h2 hl w
open Go.RowKit in
theorem Tryd.Buffer_WriteString_k (B b : Nat) (bs : List Value) (s : ByteArray) (w : World) (h : Lib.IsBuffer 115 5 B b bs w) (hBw : B ≤ w.heap.size) (h1 : ∀ v ∈ bs, v.oneCell' = true) (hlim : bs.length + s.size ≤ 140737488355328) :
    Calls Tryd.prog 96 #[.pointer (some ⟨b, 0, none⟩), .string s] w fun e w' => e = .returned (.tuple #[.int .i64 s.size, .nilIface]) ∧ Lib.IsBuffer 115 5 B b (bs ++ Lib.byteCells s.data.toList) w' ∧ Below B w w' ∧ Lib.OthersKept 5 (some b) w w' := Any.Buffer_WriteString_k Tryd.laysM178 B b bs s w h hBw h1 hlim
open Go.RowKit in
theorem Tryd.Buffer_Reset_k (B b : Nat) (bs : List Value) (w : World) (h : Lib.IsBuffer 115 5 B b bs w) :
    Calls Tryd.prog 125 #[.pointer (some ⟨b, 0, none⟩)] w fun e w' => e = .returned (.tuple #[]) ∧ Lib.IsBuffer 115 5 B b [] w' ∧ Below B w w' ∧ Lib.OthersKept 5 (some b) w w' := Any.Buffer_Reset_k Tryd.laysM184 B b bs w h
def Tryd.lays199_ren : Go.Shelf.Ren := ⟨fun | 199 => 70 | 261 => 90 | 311 => 107 | 312 => 108 | n => n, fun | 21 => 21 | 4 => 4 | 51 => 106 | 141 => 108 | 0 => 0 | 196 => 143 | 193 => 140 | 3 => 3 | 198 => 146 | 49 => 144 | 194 => 141 | 201 => 149 | 226 => 164 | 46 => 133 | 227 => 165 | n => n, fun | 6 => 0 | n => n⟩
theorem Tryd.lays199 : Go.Proofs.Lays.n199 Tryd.prog Tryd.lays199_ren := {
  mixed := by kernel_rfl
  f199 := Tryd.func70.trans (congrArg some (by kernel_rfl))
  f261 := Tryd.func90.trans (congrArg some (by kernel_rfl))
  f311 := Tryd.func107.trans (congrArg some (by kernel_rfl))
  f312 := Tryd.func108.trans (congrArg some (by kernel_rfl))
  t0 := Tryd.underlying0
  a0 := Tryd.isAgg0
  z0 := Tryd.sizeOf0
  v0 := Tryd.zeroValue0
  t3 := Tryd.underlying3
  a3 := Tryd.isAgg3
  z3 := Tryd.sizeOf3
  v3 := Tryd.zeroValue3
  t4 := Tryd.underlying4
  a4 := Tryd.isAgg4
  z4 := Tryd.sizeOf4
  v4 := Tryd.zeroValue4
  t21 := Tryd.underlying21
  a21 := Tryd.isAgg21
  z21 := Tryd.sizeOf21
  v21 := Tryd.zeroValue21
  t46 := Tryd.underlying133
  a46 := Tryd.isAgg133
  z46 := Tryd.sizeOf133
  v46 := Tryd.zeroValue133
  t49 := Tryd.underlying144
  a49 := Tryd.isAgg144
  z49 := Tryd.sizeOf144
  v49 := Tryd.zeroValue144
  t51 := Tryd.underlying106
  a51 := Tryd.isAgg106
  z51 := Tryd.sizeOf106
  v51 := Tryd.zeroValue106
  t141 := Tryd.underlying108
  a141 := Tryd.isAgg108
  z141 := Tryd.sizeOf108
  v141 := Tryd.zeroValue108
  t193 := Tryd.underlying140
  a193 := Tryd.isAgg140
  z193 := Tryd.sizeOf140
  v193 := Tryd.zeroValue140
  t194 := Tryd.underlying141
  a194 := Tryd.isAgg141
  z194 := Tryd.sizeOf141
  v194 := Tryd.zeroValue141
  t196 := Tryd.underlying143
  a196 := Tryd.isAgg143
  z196 := Tryd.sizeOf143
  v196 := Tryd.zeroValue143
  t198 := Tryd.underlying146
  a198 := Tryd.isAgg146
  z198 := Tryd.sizeOf146
  v198 := Tryd.zeroValue146
  t201 := Tryd.underlying149
  a201 := Tryd.isAgg149
  z201 := Tryd.sizeOf149
  v201 := Tryd.zeroValue149
  t226 := Tryd.underlying164
  a226 := Tryd.isAgg164
  z226 := Tryd.sizeOf164
  v226 := Tryd.zeroValue164
  t227 := Tryd.underlying165
  a227 := Tryd.isAgg165
  z227 := Tryd.sizeOf165
  v227 := Tryd.zeroValue165
  g6 := by kernel_rfl }
open Go.RowKit Go.Lib in
theorem Tryd.unicode_IsSpace (r : Int) (w : World) (h0 : 0 ≤ r) (h : r ≤ 255) :
    Calls Tryd.prog 70 #[.int .i32 r] w fun e w' => e = .returned (.bool (Lib.isSpaceL r)) ∧ w' = w := Any.unicode_IsSpace Tryd.lays199 r w h0 h
def Tryd.lays204_ren : Go.Shelf.Ren := ⟨fun | 204 => 56 | 262 => 71 | 313 => 91 | 274 => 109 | 275 => 110 | n => n, fun | 21 => 21 | 4 => 4 | 3 => 3 | 162 => 110 | 203 => 72 | 160 => 151 | 46 => 133 | 0 => 0 | 208 => 169 | 51 => 106 | 206 => 167 | n => n, fun | 13 => 1 | n => n⟩
theorem Tryd.lays204 : Go.Proofs.Lays.n204 Tryd.prog Tryd.lays204_ren := {
  mixed := by kernel_rfl
  f204 := Tryd.func56.trans (congrArg some (by kernel_rfl))
  f262 := Tryd.func71.trans (congrArg some (by kernel_rfl))
  f274 := Tryd.func109.trans (congrArg some (by kernel_rfl))
  f275 := Tryd.func110.trans (congrArg some (by kernel_rfl))
  f313 := Tryd.func91.trans (congrArg some (by kernel_rfl))
  t0 := Tryd.underlying0
  a0 := Tryd.isAgg0
  z0 := Tryd.sizeOf0
  v0 := Tryd.zeroValue0
  t3 := Tryd.underlying3
  a3 := Tryd.isAgg3
  z3 := Tryd.sizeOf3
  v3 := Tryd.zeroValue3
  t4 := Tryd.underlying4
  a4 := Tryd.isAgg4
  z4 := Tryd.sizeOf4
  v4 := Tryd.zeroValue4
  t21 := Tryd.underlying21
  a21 := Tryd.isAgg21
  z21 := Tryd.sizeOf21
  v21 := Tryd.zeroValue21
  t46 := Tryd.underlying133
  a46 := Tryd.isAgg133
  z46 := Tryd.sizeOf133
  v46 := Tryd.zeroValue133
  t51 := Tryd.underlying106
  a51 := Tryd.isAgg106
  z51 := Tryd.sizeOf106
  v51 := Tryd.zeroValue106
  t160 := Tryd.underlying151
  a160 := Tryd.isAgg151
  z160 := Tryd.sizeOf151
  v160 := Tryd.zeroValue151
  t162 := Tryd.underlying110
  a162 := Tryd.isAgg110
  z162 := Tryd.sizeOf110
  v162 := Tryd.zeroValue110
  t203 := Tryd.underlying72
  a203 := Tryd.isAgg72
  z203 := Tryd.sizeOf72
  v203 := Tryd.zeroValue72
  t206 := Tryd.underlying167
  a206 := Tryd.isAgg167
  z206 := Tryd.sizeOf167
  v206 := Tryd.zeroValue167
  t208 := Tryd.underlying169
  a208 := Tryd.isAgg169
  z208 := Tryd.sizeOf169
  v208 := Tryd.zeroValue169
  g13 := by kernel_rfl }
open Go.RowKit Go.Lib in
theorem Tryd.unicode_ToLower (r : Int) (w : World) (h : r ≤ 127) :
    Calls Tryd.prog 56 #[.int .i32 r] w fun e w' => e = .returned (.int .i32 (Lib.toLowerR r)) ∧ w' = w := Any.unicode_ToLower Tryd.lays204 r w h
def Tryd.lays260_ren : Go.Shelf.Ren := ⟨fun | 260 => 86 | n => n, fun | 9 => 9 | 21 => 21 | 3 => 3 | 4 => 4 | 5 => 5 | 119 => 132 | 0 => 0 | 46 => 133 | 139 => 136 | 138 => 135 | n => n, fun | 3 => 2 | 4 => 3 | n => n⟩
theorem Tryd.lays260 : Go.Proofs.Lays.n260 Tryd.prog Tryd.lays260_ren := {
  mixed := by kernel_rfl
  f260 := Tryd.func86.trans (congrArg some (by kernel_rfl))
  t0 := Tryd.underlying0
  a0 := Tryd.isAgg0
  z0 := Tryd.sizeOf0
  v0 := Tryd.zeroValue0
  t3 := Tryd.underlying3
  a3 := Tryd.isAgg3
  z3 := Tryd.sizeOf3
  v3 := Tryd.zeroValue3
  t4 := Tryd.underlying4
  a4 := Tryd.isAgg4
  z4 := Tryd.sizeOf4
  v4 := Tryd.zeroValue4
  t5 := Tryd.underlying5
  a5 := Tryd.isAgg5
  z5 := Tryd.sizeOf5
  v5 := Tryd.zeroValue5
  t9 := Tryd.underlying9
  a9 := Tryd.isAgg9
  z9 := Tryd.sizeOf9
  v9 := Tryd.zeroValue9
  t21 := Tryd.underlying21
  a21 := Tryd.isAgg21
  z21 := Tryd.sizeOf21
  v21 := Tryd.zeroValue21
  t46 := Tryd.underlying133
  a46 := Tryd.isAgg133
  z46 := Tryd.sizeOf133
  v46 := Tryd.zeroValue133
  t119 := Tryd.underlying132
  a119 := Tryd.isAgg132
  z119 := Tryd.sizeOf132
  t138 := Tryd.underlying135
  a138 := Tryd.isAgg135
  z138 := Tryd.sizeOf135
  v138 := Tryd.zeroValue135
  t139 := Tryd.underlying136
  a139 := Tryd.isAgg136
  z139 := Tryd.sizeOf136
  v139 := Tryd.zeroValue136
  g3 := by kernel_rfl
  g4 := by kernel_rfl }
open Go.RowKit Go.Lib in
theorem Tryd.utf8_decodeRuneInStringSlow (s : ByteArray) (w : World) (hT : Lib.Utf8Tabs 2 3 w) :
    Calls Tryd.prog 86 #[.string s] w fun e w' => e = .returned (.tuple #[.int .i32 (Lib.decodeGo s).1, .int .i64 (Lib.decodeGo s).2]) ∧ Below w.heap.size w w' := Any.utf8_decodeRuneInStringSlow Tryd.lays260 s w hT
def Tryd.lays197_ren : Go.Shelf.Ren := ⟨fun | 197 => 64 | 260 => 86 | n => n, fun | 9 => 9 | 21 => 21 | 3 => 3 | 4 => 4 | 5 => 5 | 105 => 70 | 119 => 132 | 0 => 0 | 46 => 133 | 139 => 136 | 138 => 135 | n => n, fun | 3 => 2 | 4 => 3 | n => n⟩
theorem Tryd.lays197 : Go.Proofs.Lays.n197 Tryd.prog Tryd.lays197_ren := {
  mixed := by kernel_rfl
  f197 := Tryd.func64.trans (congrArg some (by kernel_rfl))
  f260 := Tryd.func86.trans (congrArg some (by kernel_rfl))
  t0 := Tryd.underlying0
  a0 := Tryd.isAgg0
  z0 := Tryd.sizeOf0
  v0 := Tryd.zeroValue0
  t3 := Tryd.underlying3
  a3 := Tryd.isAgg3
  z3 := Tryd.sizeOf3
  v3 := Tryd.zeroValue3
  t4 := Tryd.underlying4
  a4 := Tryd.isAgg4
  z4 := Tryd.sizeOf4
  v4 := Tryd.zeroValue4
  t5 := Tryd.underlying5
  a5 := Tryd.isAgg5
  z5 := Tryd.sizeOf5
  v5 := Tryd.zeroValue5
  t9 := Tryd.underlying9
  a9 := Tryd.isAgg9
  z9 := Tryd.sizeOf9
  v9 := Tryd.zeroValue9
  t21 := Tryd.underlying21
  a21 := Tryd.isAgg21
  z21 := Tryd.sizeOf21
  v21 := Tryd.zeroValue21
  t46 := Tryd.underlying133
  a46 := Tryd.isAgg133
  z46 := Tryd.sizeOf133
  v46 := Tryd.zeroValue133
  t105 := Tryd.underlying70
  a105 := Tryd.isAgg70
  z105 := Tryd.sizeOf70
  v105 := Tryd.zeroValue70
  t119 := Tryd.underlying132
  a119 := Tryd.isAgg132
  z119 := Tryd.sizeOf132
  t138 := Tryd.underlying135
  a138 := Tryd.isAgg135
  z138 := Tryd.sizeOf135
  v138 := Tryd.zeroValue135
  t139 := Tryd.underlying136
  a139 := Tryd.isAgg136
  z139 := Tryd.sizeOf136
  v139 := Tryd.zeroValue136
  g3 := by kernel_rfl
  g4 := by kernel_rfl }
open Go.RowKit Go.Lib in
/-- **unicode/utf8.DecodeRuneInString AT EVERY STRING.** (LAID: no walk: one application.) -/
theorem Tryd.utf8_DecodeRuneInString (s : ByteArray) (w : World) (hT : Lib.Utf8Tabs 2 3 w) :
    Calls Tryd.prog 64 #[.string s] w fun e w' => e = .returned (.tuple #[.int .i32 (Lib.decodeGo s).1, .int .i64 (Lib.decodeGo s).2]) ∧ Below w.heap.size w w' := Any.utf8_DecodeRuneInString Tryd.lays197 s w hT
end Go.Proofs
