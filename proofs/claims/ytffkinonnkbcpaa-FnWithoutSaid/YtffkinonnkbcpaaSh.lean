/-
The library's contracts at this program, laid in plain words.
-/
import Derived.Shelf.Small.Bits
import Derived.Shelf.Strconv.Itoa0
import Derived.Shelf.Sort.Plain
import Derived.Shelf.Slices.In.SortNone
import Derived.Shelf.Slices.In.SortNone2
import Derived.Test.YtffkinonnkbcpaaProg
namespace Go.Proofs
open Go.Shelf
def Try.lays128_ren : Go.Shelf.Ren := ⟨fun | 128 => 57 | n => n, fun | 51 => 93 | 3 => 3 | 4 => 4 | 46 => 76 | 5 => 5 | 9 => 9 | n => n, fun | n => n⟩
theorem Try.lays128 : Go.Proofs.Lays.n128 Try.prog Try.lays128_ren := {
  mixed := by kernel_rfl
  f128 := Try.func57.trans (congrArg some (by kernel_rfl))
  t3 := Try.underlying3
  a3 := Try.isAgg3
  z3 := Try.sizeOf3
  v3 := Try.zeroValue3
  t4 := Try.underlying4
  a4 := Try.isAgg4
  z4 := Try.sizeOf4
  v4 := Try.zeroValue4
  t5 := Try.underlying5
  a5 := Try.isAgg5
  z5 := Try.sizeOf5
  v5 := Try.zeroValue5
  t9 := Try.underlying9
  a9 := Try.isAgg9
  z9 := Try.sizeOf9
  v9 := Try.zeroValue9
  t46 := Try.underlying76
  a46 := Try.isAgg76
  z46 := Try.sizeOf76
  v46 := Try.zeroValue76
  t51 := Try.underlying93
  a51 := Try.isAgg93
  z51 := Try.sizeOf93
  v51 := Try.zeroValue93 }
theorem Try.bits_Len32 (x : Int) (w : World) (h0 : 0 ≤ x) (h1 : x ≤ 4294967295) :
    Calls Try.prog 57 #[.int .u32 x] w fun e w' => e = .returned (.int .i64 (Lib.bitLen x.toNat)) ∧ w' = w := Any.bits_Len32 Try.lays128 x w h0 h1
def Try.lays125_ren : Go.Shelf.Ren := ⟨fun | 125 => 44 | 128 => 57 | 129 => 58 | n => n, fun | 46 => 76 | 3 => 3 | 51 => 93 | 53 => 95 | 4 => 4 | 5 => 5 | 9 => 9 | n => n, fun | n => n⟩
theorem Try.lays125 : Go.Proofs.Lays.n125 Try.prog Try.lays125_ren := {
  mixed := by kernel_rfl
  f125 := Try.func44.trans (congrArg some (by kernel_rfl))
  f128 := Try.func57.trans (congrArg some (by kernel_rfl))
  f129 := Try.func58.trans (congrArg some (by kernel_rfl))
  t3 := Try.underlying3
  a3 := Try.isAgg3
  z3 := Try.sizeOf3
  v3 := Try.zeroValue3
  t4 := Try.underlying4
  a4 := Try.isAgg4
  z4 := Try.sizeOf4
  v4 := Try.zeroValue4
  t5 := Try.underlying5
  a5 := Try.isAgg5
  z5 := Try.sizeOf5
  v5 := Try.zeroValue5
  t9 := Try.underlying9
  a9 := Try.isAgg9
  z9 := Try.sizeOf9
  v9 := Try.zeroValue9
  t46 := Try.underlying76
  a46 := Try.isAgg76
  z46 := Try.sizeOf76
  v46 := Try.zeroValue76
  t51 := Try.underlying93
  a51 := Try.isAgg93
  z51 := Try.sizeOf93
  v51 := Try.zeroValue93
  t53 := Try.underlying95
  a53 := Try.isAgg95
  z53 := Try.sizeOf95
  v53 := Try.zeroValue95 }
theorem Try.bits_Len (x : Int) (w : World) (h0 : 0 ≤ x) (h1 : x ≤ 18446744073709551615) :
    Calls Try.prog 44 #[.int .u64 x] w fun e w' => e = .returned (.int .i64 (Lib.bitLen x.toNat)) ∧ w' = w := Any.bits_Len Try.lays125 x w h0 h1
def Try.lays129_ren : Go.Shelf.Ren := ⟨fun | 129 => 58 | n => n, fun | 53 => 95 | 3 => 3 | 4 => 4 | 46 => 76 | 5 => 5 | 9 => 9 | n => n, fun | n => n⟩
theorem Try.lays129 : Go.Proofs.Lays.n129 Try.prog Try.lays129_ren := {
  mixed := by kernel_rfl
  f129 := Try.func58.trans (congrArg some (by kernel_rfl))
  t3 := Try.underlying3
  a3 := Try.isAgg3
  z3 := Try.sizeOf3
  v3 := Try.zeroValue3
  t4 := Try.underlying4
  a4 := Try.isAgg4
  z4 := Try.sizeOf4
  v4 := Try.zeroValue4
  t5 := Try.underlying5
  a5 := Try.isAgg5
  z5 := Try.sizeOf5
  v5 := Try.zeroValue5
  t9 := Try.underlying9
  a9 := Try.isAgg9
  z9 := Try.sizeOf9
  v9 := Try.zeroValue9
  t46 := Try.underlying76
  a46 := Try.isAgg76
  z46 := Try.sizeOf76
  v46 := Try.zeroValue76
  t53 := Try.underlying95
  a53 := Try.isAgg95
  z53 := Try.sizeOf95
  v53 := Try.zeroValue95 }
theorem Try.bits_Len64 (x : Int) (w : World) (h0 : 0 ≤ x) (h1 : x ≤ 18446744073709551615) :
    Calls Try.prog 58 #[.int .u64 x] w fun e w' => e = .returned (.int .i64 (Lib.bitLen x.toNat)) ∧ w' = w := Any.bits_Len64 Try.lays129 x w h0 h1
def Try.lays190_ren : Go.Shelf.Ren := ⟨fun | 190 => 36 | 125 => 44 | 258 => 43 | 128 => 57 | 129 => 58 | 302 => 48 | 303 => 49 | 304 => 50 | 305 => 51 | 306 => 52 | 307 => 53 | 308 => 54 | 309 => 55 | 310 => 56 | 333 => 63 | 329 => 64 | 330 => 65 | 334 => 66 | 335 => 67 | 336 => 68 | 344 => 76 | n => n, fun | 31 => 28 | 9 => 9 | 3 => 3 | 46 => 76 | 0 => 0 | 51 => 93 | 53 => 95 | 4 => 4 | 183 => 85 | 182 => 84 | 131 => 90 | 5 => 5 | 218 => 96 | 222 => 100 | 228 => 111 | 229 => 112 | n => n, fun | n => n⟩
theorem Try.lays190 : Go.Proofs.Lays.n190 Try.prog Try.lays190_ren := {
  mixed := by kernel_rfl
  f125 := Try.func44.trans (congrArg some (by kernel_rfl))
  f128 := Try.func57.trans (congrArg some (by kernel_rfl))
  f129 := Try.func58.trans (congrArg some (by kernel_rfl))
  f190 := Try.func36.trans (congrArg some (by kernel_rfl))
  f258 := Try.func43.trans (congrArg some (by kernel_rfl))
  f302 := Try.func48.trans (congrArg some (by kernel_rfl))
  f303 := Try.func49.trans (congrArg some (by kernel_rfl))
  f304 := Try.func50.trans (congrArg some (by kernel_rfl))
  f305 := Try.func51.trans (congrArg some (by kernel_rfl))
  f306 := Try.func52.trans (congrArg some (by kernel_rfl))
  f307 := Try.func53.trans (congrArg some (by kernel_rfl))
  f308 := Try.func54.trans (congrArg some (by kernel_rfl))
  f309 := Try.func55.trans (congrArg some (by kernel_rfl))
  f310 := Try.func56.trans (congrArg some (by kernel_rfl))
  f329 := Try.func64.trans (congrArg some (by kernel_rfl))
  f330 := Try.func65.trans (congrArg some (by kernel_rfl))
  f333 := Try.func63.trans (congrArg some (by kernel_rfl))
  f334 := Try.func66.trans (congrArg some (by kernel_rfl))
  f335 := Try.func67.trans (congrArg some (by kernel_rfl))
  f336 := Try.func68.trans (congrArg some (by kernel_rfl))
  f344 := Try.func76.trans (congrArg some (by kernel_rfl))
  t0 := Try.underlying0
  a0 := Try.isAgg0
  z0 := Try.sizeOf0
  v0 := Try.zeroValue0
  t3 := Try.underlying3
  a3 := Try.isAgg3
  z3 := Try.sizeOf3
  v3 := Try.zeroValue3
  t4 := Try.underlying4
  a4 := Try.isAgg4
  z4 := Try.sizeOf4
  v4 := Try.zeroValue4
  t5 := Try.underlying5
  a5 := Try.isAgg5
  z5 := Try.sizeOf5
  v5 := Try.zeroValue5
  t9 := Try.underlying9
  a9 := Try.isAgg9
  z9 := Try.sizeOf9
  v9 := Try.zeroValue9
  t31 := Try.underlying28
  a31 := Try.isAgg28
  z31 := Try.sizeOf28
  v31 := Try.zeroValue28
  t46 := Try.underlying76
  a46 := Try.isAgg76
  z46 := Try.sizeOf76
  v46 := Try.zeroValue76
  t51 := Try.underlying93
  a51 := Try.isAgg93
  z51 := Try.sizeOf93
  v51 := Try.zeroValue93
  t53 := Try.underlying95
  a53 := Try.isAgg95
  z53 := Try.sizeOf95
  v53 := Try.zeroValue95
  t131 := Try.underlying90
  a131 := Try.isAgg90
  z131 := Try.sizeOf90
  v131 := Try.zeroValue90
  t182 := Try.underlying84
  a182 := Try.isAgg84
  z182 := Try.sizeOf84
  v182 := Try.zeroValue84
  t183 := Try.underlying85
  a183 := Try.isAgg85
  z183 := Try.sizeOf85
  v183 := Try.zeroValue85
  t218 := Try.underlying96
  a218 := Try.isAgg96
  z218 := Try.sizeOf96
  v218 := Try.zeroValue96
  t222 := Try.underlying100
  a222 := Try.isAgg100
  z222 := Try.sizeOf100
  v222 := Try.zeroValue100
  t228 := Try.underlying111
  a228 := Try.isAgg111
  z228 := Try.sizeOf111
  v228 := Try.zeroValue111
  t229 := Try.underlying112
  a229 := Try.isAgg112
  z229 := Try.sizeOf112
  v229 := Try.zeroValue112 }
open Go.Sort Go.RowKit in
theorem Try.slices_Sort_string (blk off cap : Nat) (ss : List (List UInt8)) (w : World) (hH : Holds encStr w blk off ss.toArray) (hblk : blk < w.heap.size) (hsz : ss.length < 4611686018427387904) :
    Calls Try.prog 36 #[.slice (some ⟨blk, off, none⟩) ss.length cap] w fun e w' =>
      e = .returned (.tuple #[]) ∧ ∃ n os, w' = grow (putRow encStr (Sort.ahead w n) blk off (ss.mergeSort fun x y => decide (x ≤ y)).toArray) os := Any.slices_Sort_string Try.lays190 blk off cap ss w hH hblk hsz
def Try.lays192_ren : Go.Shelf.Ren := ⟨fun | 192 => 25 | 190 => 36 | 125 => 44 | 258 => 43 | 128 => 57 | 129 => 58 | 302 => 48 | 303 => 49 | 304 => 50 | 305 => 51 | 306 => 52 | 307 => 53 | 308 => 54 | 309 => 55 | 310 => 56 | 333 => 63 | 329 => 64 | 330 => 65 | 334 => 66 | 335 => 67 | 336 => 68 | 344 => 76 | n => n, fun | 31 => 28 | 0 => 0 | 9 => 9 | 3 => 3 | 46 => 76 | 51 => 93 | 53 => 95 | 4 => 4 | 183 => 85 | 182 => 84 | 131 => 90 | 5 => 5 | 218 => 96 | 222 => 100 | 228 => 111 | 229 => 112 | n => n, fun | n => n⟩
theorem Try.lays192 : Go.Proofs.Lays.n192 Try.prog Try.lays192_ren := {
  mixed := by kernel_rfl
  f125 := Try.func44.trans (congrArg some (by kernel_rfl))
  f128 := Try.func57.trans (congrArg some (by kernel_rfl))
  f129 := Try.func58.trans (congrArg some (by kernel_rfl))
  f190 := Try.func36.trans (congrArg some (by kernel_rfl))
  f192 := Try.func25.trans (congrArg some (by kernel_rfl))
  f258 := Try.func43.trans (congrArg some (by kernel_rfl))
  f302 := Try.func48.trans (congrArg some (by kernel_rfl))
  f303 := Try.func49.trans (congrArg some (by kernel_rfl))
  f304 := Try.func50.trans (congrArg some (by kernel_rfl))
  f305 := Try.func51.trans (congrArg some (by kernel_rfl))
  f306 := Try.func52.trans (congrArg some (by kernel_rfl))
  f307 := Try.func53.trans (congrArg some (by kernel_rfl))
  f308 := Try.func54.trans (congrArg some (by kernel_rfl))
  f309 := Try.func55.trans (congrArg some (by kernel_rfl))
  f310 := Try.func56.trans (congrArg some (by kernel_rfl))
  f329 := Try.func64.trans (congrArg some (by kernel_rfl))
  f330 := Try.func65.trans (congrArg some (by kernel_rfl))
  f333 := Try.func63.trans (congrArg some (by kernel_rfl))
  f334 := Try.func66.trans (congrArg some (by kernel_rfl))
  f335 := Try.func67.trans (congrArg some (by kernel_rfl))
  f336 := Try.func68.trans (congrArg some (by kernel_rfl))
  f344 := Try.func76.trans (congrArg some (by kernel_rfl))
  t0 := Try.underlying0
  a0 := Try.isAgg0
  z0 := Try.sizeOf0
  v0 := Try.zeroValue0
  t3 := Try.underlying3
  a3 := Try.isAgg3
  z3 := Try.sizeOf3
  v3 := Try.zeroValue3
  t4 := Try.underlying4
  a4 := Try.isAgg4
  z4 := Try.sizeOf4
  v4 := Try.zeroValue4
  t5 := Try.underlying5
  a5 := Try.isAgg5
  z5 := Try.sizeOf5
  v5 := Try.zeroValue5
  t9 := Try.underlying9
  a9 := Try.isAgg9
  z9 := Try.sizeOf9
  v9 := Try.zeroValue9
  t31 := Try.underlying28
  a31 := Try.isAgg28
  z31 := Try.sizeOf28
  v31 := Try.zeroValue28
  t46 := Try.underlying76
  a46 := Try.isAgg76
  z46 := Try.sizeOf76
  v46 := Try.zeroValue76
  t51 := Try.underlying93
  a51 := Try.isAgg93
  z51 := Try.sizeOf93
  v51 := Try.zeroValue93
  t53 := Try.underlying95
  a53 := Try.isAgg95
  z53 := Try.sizeOf95
  v53 := Try.zeroValue95
  t131 := Try.underlying90
  a131 := Try.isAgg90
  z131 := Try.sizeOf90
  v131 := Try.zeroValue90
  t182 := Try.underlying84
  a182 := Try.isAgg84
  z182 := Try.sizeOf84
  v182 := Try.zeroValue84
  t183 := Try.underlying85
  a183 := Try.isAgg85
  z183 := Try.sizeOf85
  v183 := Try.zeroValue85
  t218 := Try.underlying96
  a218 := Try.isAgg96
  z218 := Try.sizeOf96
  v218 := Try.zeroValue96
  t222 := Try.underlying100
  a222 := Try.isAgg100
  z222 := Try.sizeOf100
  v222 := Try.zeroValue100
  t228 := Try.underlying111
  a228 := Try.isAgg111
  z228 := Try.sizeOf111
  v228 := Try.zeroValue111
  t229 := Try.underlying112
  a229 := Try.isAgg112
  z229 := Try.sizeOf112
  v229 := Try.zeroValue112 }
open Go.Sort Go.RowKit in
theorem Try.sort_Strings (blk off cap : Nat) (ss : List (List UInt8)) (w : World) (hH : Holds encStr w blk off ss.toArray) (hblk : blk < w.heap.size) (hsz : ss.length < 4611686018427387904) :
    Calls Try.prog 25 #[.slice (some ⟨blk, off, none⟩) ss.length cap] w fun e w' =>
      e = .returned (.tuple #[]) ∧ ∃ n os, w' = grow (putRow encStr (Sort.ahead w n) blk off (ss.mergeSort fun x y => decide (x ≤ y)).toArray) os := Any.sort_Strings Try.lays192 blk off cap ss w hH hblk hsz
open Go.RowKit Go.Sort in
theorem Try.slices_Sort_string_none (p : Option Addr) (cap : Nat) (w : World) :
    Calls Try.prog 36 #[.slice p 0 cap] w fun e w' => e = .returned (.tuple #[]) ∧ w' = w := Any.slices_Sort_string_none Try.lays190 p cap w
open Go.RowKit Go.Sort in
theorem Try.sort_Strings_none (p : Option Addr) (cap : Nat) (w : World) :
    Calls Try.prog 25 #[.slice p 0 cap] w fun e w' => e = .returned (.tuple #[]) ∧ w' = w := Any.sort_Strings_none Try.lays192 p cap w
end Go.Proofs
