/-
The library's contracts at this program, laid in plain words.
-/
import Derived.Shelf.Small.Bits
import Derived.Shelf.Strconv.Itoa0
import Derived.Shelf.Sort.Plain
import Derived.Shelf.Slices.In.SortNone
import Derived.Shelf.Slices.In.SortNone2
import Derived.Test.YtlefdkemgfjieaaProg
namespace Go.Proofs
open Go.Shelf
def Try.lays128_ren : Go.Shelf.Ren := ⟨fun | 128 => 104 | n => n, fun | 51 => 120 | 3 => 3 | 4 => 4 | 46 => 104 | 5 => 5 | 9 => 9 | n => n, fun | n => n⟩
theorem Try.lays128 : Go.Proofs.Lays.n128 Try.prog Try.lays128_ren := {
  mixed := by kernel_rfl
  f128 := Try.func104.trans (congrArg some (by kernel_rfl))
  t3 := Try.underlying3
  a3 := Try.isAgg3
  z3 := Try.sizeOf3
  v3 := Try.zeroValue3
  t4 := Try.underlying4
  a4 := Try.isAgg4
  z4 := Try.sizeOf4
  v4 := Try.zeroValue4
  t5 := Try.underlying5
  a5 := Try.isAgg5
  z5 := Try.sizeOf5
  v5 := Try.zeroValue5
  t9 := Try.underlying9
  a9 := Try.isAgg9
  z9 := Try.sizeOf9
  v9 := Try.zeroValue9
  t46 := Try.underlying104
  a46 := Try.isAgg104
  z46 := Try.sizeOf104
  v46 := Try.zeroValue104
  t51 := Try.underlying120
  a51 := Try.isAgg120
  z51 := Try.sizeOf120
  v51 := Try.zeroValue120 }
theorem Try.bits_Len32 (x : Int) (w : World) (h0 : 0 ≤ x) (h1 : x ≤ 4294967295) :
    Calls Try.prog 104 #[.int .u32 x] w fun e w' => e = .returned (.int .i64 (Lib.bitLen x.toNat)) ∧ w' = w := Any.bits_Len32 Try.lays128 x w h0 h1
def Try.lays125_ren : Go.Shelf.Ren := ⟨fun | 125 => 91 | 128 => 104 | 129 => 105 | n => n, fun | 46 => 104 | 3 => 3 | 51 => 120 | 53 => 122 | 4 => 4 | 5 => 5 | 9 => 9 | n => n, fun | n => n⟩
theorem Try.lays125 : Go.Proofs.Lays.n125 Try.prog Try.lays125_ren := {
  mixed := by kernel_rfl
  f125 := Try.func91.trans (congrArg some (by kernel_rfl))
  f128 := Try.func104.trans (congrArg some (by kernel_rfl))
  f129 := Try.func105.trans (congrArg some (by kernel_rfl))
  t3 := Try.underlying3
  a3 := Try.isAgg3
  z3 := Try.sizeOf3
  v3 := Try.zeroValue3
  t4 := Try.underlying4
  a4 := Try.isAgg4
  z4 := Try.sizeOf4
  v4 := Try.zeroValue4
  t5 := Try.underlying5
  a5 := Try.isAgg5
  z5 := Try.sizeOf5
  v5 := Try.zeroValue5
  t9 := Try.underlying9
  a9 := Try.isAgg9
  z9 := Try.sizeOf9
  v9 := Try.zeroValue9
  t46 := Try.underlying104
  a46 := Try.isAgg104
  z46 := Try.sizeOf104
  v46 := Try.zeroValue104
  t51 := Try.underlying120
  a51 := Try.isAgg120
  z51 := Try.sizeOf120
  v51 := Try.zeroValue120
  t53 := Try.underlying122
  a53 := Try.isAgg122
  z53 := Try.sizeOf122
  v53 := Try.zeroValue122 }
theorem Try.bits_Len (x : Int) (w : World) (h0 : 0 ≤ x) (h1 : x ≤ 18446744073709551615) :
    Calls Try.prog 91 #[.int .u64 x] w fun e w' => e = .returned (.int .i64 (Lib.bitLen x.toNat)) ∧ w' = w := Any.bits_Len Try.lays125 x w h0 h1
def Try.lays129_ren : Go.Shelf.Ren := ⟨fun | 129 => 105 | n => n, fun | 53 => 122 | 3 => 3 | 4 => 4 | 46 => 104 | 5 => 5 | 9 => 9 | n => n, fun | n => n⟩
theorem Try.lays129 : Go.Proofs.Lays.n129 Try.prog Try.lays129_ren := {
  mixed := by kernel_rfl
  f129 := Try.func105.trans (congrArg some (by kernel_rfl))
  t3 := Try.underlying3
  a3 := Try.isAgg3
  z3 := Try.sizeOf3
  v3 := Try.zeroValue3
  t4 := Try.underlying4
  a4 := Try.isAgg4
  z4 := Try.sizeOf4
  v4 := Try.zeroValue4
  t5 := Try.underlying5
  a5 := Try.isAgg5
  z5 := Try.sizeOf5
  v5 := Try.zeroValue5
  t9 := Try.underlying9
  a9 := Try.isAgg9
  z9 := Try.sizeOf9
  v9 := Try.zeroValue9
  t46 := Try.underlying104
  a46 := Try.isAgg104
  z46 := Try.sizeOf104
  v46 := Try.zeroValue104
  t53 := Try.underlying122
  a53 := Try.isAgg122
  z53 := Try.sizeOf122
  v53 := Try.zeroValue122 }
theorem Try.bits_Len64 (x : Int) (w : World) (h0 : 0 ≤ x) (h1 : x ≤ 18446744073709551615) :
    Calls Try.prog 105 #[.int .u64 x] w fun e w' => e = .returned (.int .i64 (Lib.bitLen x.toNat)) ∧ w' = w := Any.bits_Len64 Try.lays129 x w h0 h1
def Try.lays190_ren : Go.Shelf.Ren := ⟨fun | 190 => 83 | 125 => 91 | 258 => 90 | 128 => 104 | 129 => 105 | 302 => 95 | 303 => 96 | 304 => 97 | 305 => 98 | 306 => 99 | 307 => 100 | 308 => 101 | 309 => 102 | 310 => 103 | 333 => 111 | 329 => 112 | 330 => 113 | 334 => 114 | 335 => 115 | 336 => 116 | 344 => 124 | n => n, fun | 31 => 23 | 9 => 9 | 3 => 3 | 46 => 104 | 0 => 0 | 51 => 120 | 53 => 122 | 4 => 4 | 183 => 113 | 182 => 112 | 131 => 32 | 5 => 5 | 218 => 124 | 222 => 128 | 228 => 139 | 229 => 140 | n => n, fun | n => n⟩
theorem Try.lays190 : Go.Proofs.Lays.n190 Try.prog Try.lays190_ren := {
  mixed := by kernel_rfl
  f125 := Try.func91.trans (congrArg some (by kernel_rfl))
  f128 := Try.func104.trans (congrArg some (by kernel_rfl))
  f129 := Try.func105.trans (congrArg some (by kernel_rfl))
  f190 := Try.func83.trans (congrArg some (by kernel_rfl))
  f258 := Try.func90.trans (congrArg some (by kernel_rfl))
  f302 := Try.func95.trans (congrArg some (by kernel_rfl))
  f303 := Try.func96.trans (congrArg some (by kernel_rfl))
  f304 := Try.func97.trans (congrArg some (by kernel_rfl))
  f305 := Try.func98.trans (congrArg some (by kernel_rfl))
  f306 := Try.func99.trans (congrArg some (by kernel_rfl))
  f307 := Try.func100.trans (congrArg some (by kernel_rfl))
  f308 := Try.func101.trans (congrArg some (by kernel_rfl))
  f309 := Try.func102.trans (congrArg some (by kernel_rfl))
  f310 := Try.func103.trans (congrArg some (by kernel_rfl))
  f329 := Try.func112.trans (congrArg some (by kernel_rfl))
  f330 := Try.func113.trans (congrArg some (by kernel_rfl))
  f333 := Try.func111.trans (congrArg some (by kernel_rfl))
  f334 := Try.func114.trans (congrArg some (by kernel_rfl))
  f335 := Try.func115.trans (congrArg some (by kernel_rfl))
  f336 := Try.func116.trans (congrArg some (by kernel_rfl))
  f344 := Try.func124.trans (congrArg some (by kernel_rfl))
  t0 := Try.underlying0
  a0 := Try.isAgg0
  z0 := Try.sizeOf0
  v0 := Try.zeroValue0
  t3 := Try.underlying3
  a3 := Try.isAgg3
  z3 := Try.sizeOf3
  v3 := Try.zeroValue3
  t4 := Try.underlying4
  a4 := Try.isAgg4
  z4 := Try.sizeOf4
  v4 := Try.zeroValue4
  t5 := Try.underlying5
  a5 := Try.isAgg5
  z5 := Try.sizeOf5
  v5 := Try.zeroValue5
  t9 := Try.underlying9
  a9 := Try.isAgg9
  z9 := Try.sizeOf9
  v9 := Try.zeroValue9
  t31 := Try.underlying23
  a31 := Try.isAgg23
  z31 := Try.sizeOf23
  v31 := Try.zeroValue23
  t46 := Try.underlying104
  a46 := Try.isAgg104
  z46 := Try.sizeOf104
  v46 := Try.zeroValue104
  t51 := Try.underlying120
  a51 := Try.isAgg120
  z51 := Try.sizeOf120
  v51 := Try.zeroValue120
  t53 := Try.underlying122
  a53 := Try.isAgg122
  z53 := Try.sizeOf122
  v53 := Try.zeroValue122
  t131 := Try.underlying32
  a131 := Try.isAgg32
  z131 := Try.sizeOf32
  v131 := Try.zeroValue32
  t182 := Try.underlying112
  a182 := Try.isAgg112
  z182 := Try.sizeOf112
  v182 := Try.zeroValue112
  t183 := Try.underlying113
  a183 := Try.isAgg113
  z183 := Try.sizeOf113
  v183 := Try.zeroValue113
  t218 := Try.underlying124
  a218 := Try.isAgg124
  z218 := Try.sizeOf124
  v218 := Try.zeroValue124
  t222 := Try.underlying128
  a222 := Try.isAgg128
  z222 := Try.sizeOf128
  v222 := Try.zeroValue128
  t228 := Try.underlying139
  a228 := Try.isAgg139
  z228 := Try.sizeOf139
  v228 := Try.zeroValue139
  t229 := Try.underlying140
  a229 := Try.isAgg140
  z229 := Try.sizeOf140
  v229 := Try.zeroValue140 }
open Go.Sort Go.RowKit in
theorem Try.slices_Sort_string (blk off cap : Nat) (ss : List (List UInt8)) (w : World) (hH : Holds encStr w blk off ss.toArray) (hblk : blk < w.heap.size) (hsz : ss.length < 4611686018427387904) :
    Calls Try.prog 83 #[.slice (some ⟨blk, off, none⟩) ss.length cap] w fun e w' =>
      e = .returned (.tuple #[]) ∧ ∃ n os, w' = grow (putRow encStr (Sort.ahead w n) blk off (ss.mergeSort fun x y => decide (x ≤ y)).toArray) os := Any.slices_Sort_string Try.lays190 blk off cap ss w hH hblk hsz
def Try.lays192_ren : Go.Shelf.Ren := ⟨fun | 192 => 64 | 190 => 83 | 125 => 91 | 258 => 90 | 128 => 104 | 129 => 105 | 302 => 95 | 303 => 96 | 304 => 97 | 305 => 98 | 306 => 99 | 307 => 100 | 308 => 101 | 309 => 102 | 310 => 103 | 333 => 111 | 329 => 112 | 330 => 113 | 334 => 114 | 335 => 115 | 336 => 116 | 344 => 124 | n => n, fun | 31 => 23 | 0 => 0 | 9 => 9 | 3 => 3 | 46 => 104 | 51 => 120 | 53 => 122 | 4 => 4 | 183 => 113 | 182 => 112 | 131 => 32 | 5 => 5 | 218 => 124 | 222 => 128 | 228 => 139 | 229 => 140 | n => n, fun | n => n⟩
theorem Try.lays192 : Go.Proofs.Lays.n192 Try.prog Try.lays192_ren := {
  mixed := by kernel_rfl
  f125 := Try.func91.trans (congrArg some (by kernel_rfl))
  f128 := Try.func104.trans (congrArg some (by kernel_rfl))
  f129 := Try.func105.trans (congrArg some (by kernel_rfl))
  f190 := Try.func83.trans (congrArg some (by kernel_rfl))
  f192 := Try.func64.trans (congrArg some (by kernel_rfl))
  f258 := Try.func90.trans (congrArg some (by kernel_rfl))
  f302 := Try.func95.trans (congrArg some (by kernel_rfl))
  f303 := Try.func96.trans (congrArg some (by kernel_rfl))
  f304 := Try.func97.trans (congrArg some (by kernel_rfl))
  f305 := Try.func98.trans (congrArg some (by kernel_rfl))
  f306 := Try.func99.trans (congrArg some (by kernel_rfl))
  f307 := Try.func100.trans (congrArg some (by kernel_rfl))
  f308 := Try.func101.trans (congrArg some (by kernel_rfl))
  f309 := Try.func102.trans (congrArg some (by kernel_rfl))
  f310 := Try.func103.trans (congrArg some (by kernel_rfl))
  f329 := Try.func112.trans (congrArg some (by kernel_rfl))
  f330 := Try.func113.trans (congrArg some (by kernel_rfl))
  f333 := Try.func111.trans (congrArg some (by kernel_rfl))
  f334 := Try.func114.trans (congrArg some (by kernel_rfl))
  f335 := Try.func115.trans (congrArg some (by kernel_rfl))
  f336 := Try.func116.trans (congrArg some (by kernel_rfl))
  f344 := Try.func124.trans (congrArg some (by kernel_rfl))
  t0 := Try.underlying0
  a0 := Try.isAgg0
  z0 := Try.sizeOf0
  v0 := Try.zeroValue0
  t3 := Try.underlying3
  a3 := Try.isAgg3
  z3 := Try.sizeOf3
  v3 := Try.zeroValue3
  t4 := Try.underlying4
  a4 := Try.isAgg4
  z4 := Try.sizeOf4
  v4 := Try.zeroValue4
  t5 := Try.underlying5
  a5 := Try.isAgg5
  z5 := Try.sizeOf5
  v5 := Try.zeroValue5
  t9 := Try.underlying9
  a9 := Try.isAgg9
  z9 := Try.sizeOf9
  v9 := Try.zeroValue9
  t31 := Try.underlying23
  a31 := Try.isAgg23
  z31 := Try.sizeOf23
  v31 := Try.zeroValue23
  t46 := Try.underlying104
  a46 := Try.isAgg104
  z46 := Try.sizeOf104
  v46 := Try.zeroValue104
  t51 := Try.underlying120
  a51 := Try.isAgg120
  z51 := Try.sizeOf120
  v51 := Try.zeroValue120
  t53 := Try.underlying122
  a53 := Try.isAgg122
  z53 := Try.sizeOf122
  v53 := Try.zeroValue122
  t131 := Try.underlying32
  a131 := Try.isAgg32
  z131 := Try.sizeOf32
  v131 := Try.zeroValue32
  t182 := Try.underlying112
  a182 := Try.isAgg112
  z182 := Try.sizeOf112
  v182 := Try.zeroValue112
  t183 := Try.underlying113
  a183 := Try.isAgg113
  z183 := Try.sizeOf113
  v183 := Try.zeroValue113
  t218 := Try.underlying124
  a218 := Try.isAgg124
  z218 := Try.sizeOf124
  v218 := Try.zeroValue124
  t222 := Try.underlying128
  a222 := Try.isAgg128
  z222 := Try.sizeOf128
  v222 := Try.zeroValue128
  t228 := Try.underlying139
  a228 := Try.isAgg139
  z228 := Try.sizeOf139
  v228 := Try.zeroValue139
  t229 := Try.underlying140
  a229 := Try.isAgg140
  z229 := Try.sizeOf140
  v229 := Try.zeroValue140 }
open Go.Sort Go.RowKit in
theorem Try.sort_Strings (blk off cap : Nat) (ss : List (List UInt8)) (w : World) (hH : Holds encStr w blk off ss.toArray) (hblk : blk < w.heap.size) (hsz : ss.length < 4611686018427387904) :
    Calls Try.prog 64 #[.slice (some ⟨blk, off, none⟩) ss.length cap] w fun e w' =>
      e = .returned (.tuple #[]) ∧ ∃ n os, w' = grow (putRow encStr (Sort.ahead w n) blk off (ss.mergeSort fun x y => decide (x ≤ y)).toArray) os := Any.sort_Strings Try.lays192 blk off cap ss w hH hblk hsz
open Go.RowKit Go.Sort in
theorem Try.slices_Sort_string_none (p : Option Addr) (cap : Nat) (w : World) :
    Calls Try.prog 83 #[.slice p 0 cap] w fun e w' => e = .returned (.tuple #[]) ∧ w' = w := Any.slices_Sort_string_none Try.lays190 p cap w
open Go.RowKit Go.Sort in
theorem Try.sort_Strings_none (p : Option Addr) (cap : Nat) (w : World) :
    Calls Try.prog 64 #[.slice p 0 cap] w fun e w' => e = .returned (.tuple #[]) ∧ w' = w := Any.sort_Strings_none Try.lays192 p cap w
end Go.Proofs
