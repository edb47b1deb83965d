/- The shelf's contract of sort.Strings and what it calls, laid at this seat's translation in plain words (by the kit's lay-plain). -/
import Derived.Shelf.Small.Bits
import Derived.Shelf.Strconv.Itoa0
import Derived.Shelf.Sort.Plain
import Derived.Shelf.Slices.In.SortNone
import Derived.Shelf.Slices.In.SortNone2
import Derived.Test.YtdcfbgpcpjjjaaaGreatProg
namespace Go.Proofs
open Go.Shelf
def Tryz.lays128_ren : Go.Shelf.Ren := ⟨fun | 128 => 51 | n => n, fun | 51 => 181 | 3 => 3 | 4 => 4 | 46 => 77 | 5 => 5 | 9 => 9 | n => n, fun | n => n⟩
theorem Tryz.lays128 : Go.Proofs.Lays.n128 Tryz.prog Tryz.lays128_ren := {
  mixed := by kernel_rfl
  f128 := Tryz.func51.trans (congrArg some (by kernel_rfl))
  t3 := Tryz.underlying3
  a3 := Tryz.isAgg3
  z3 := Tryz.sizeOf3
  v3 := Tryz.zeroValue3
  t4 := Tryz.underlying4
  a4 := Tryz.isAgg4
  z4 := Tryz.sizeOf4
  v4 := Tryz.zeroValue4
  t5 := Tryz.underlying5
  a5 := Tryz.isAgg5
  z5 := Tryz.sizeOf5
  v5 := Tryz.zeroValue5
  t9 := Tryz.underlying9
  a9 := Tryz.isAgg9
  z9 := Tryz.sizeOf9
  v9 := Tryz.zeroValue9
  t46 := Tryz.underlying77
  a46 := Tryz.isAgg77
  z46 := Tryz.sizeOf77
  v46 := Tryz.zeroValue77
  t51 := Tryz.underlying181
  a51 := Tryz.isAgg181
  z51 := Tryz.sizeOf181
  v51 := Tryz.zeroValue181 }
theorem Tryz.bits_Len32 (x : Int) (w : World) (h0 : 0 ≤ x) (h1 : x ≤ 4294967295) :
    Calls Tryz.prog 51 #[.int .u32 x] w fun e w' => e = .returned (.int .i64 (Lib.bitLen x.toNat)) ∧ w' = w := Any.bits_Len32 Tryz.lays128 x w h0 h1
def Tryz.lays125_ren : Go.Shelf.Ren := ⟨fun | 125 => 41 | 128 => 51 | 129 => 52 | n => n, fun | 46 => 77 | 3 => 3 | 51 => 181 | 53 => 85 | 4 => 4 | 5 => 5 | 9 => 9 | n => n, fun | n => n⟩
theorem Tryz.lays125 : Go.Proofs.Lays.n125 Tryz.prog Tryz.lays125_ren := {
  mixed := by kernel_rfl
  f125 := Tryz.func41.trans (congrArg some (by kernel_rfl))
  f128 := Tryz.func51.trans (congrArg some (by kernel_rfl))
  f129 := Tryz.func52.trans (congrArg some (by kernel_rfl))
  t3 := Tryz.underlying3
  a3 := Tryz.isAgg3
  z3 := Tryz.sizeOf3
  v3 := Tryz.zeroValue3
  t4 := Tryz.underlying4
  a4 := Tryz.isAgg4
  z4 := Tryz.sizeOf4
  v4 := Tryz.zeroValue4
  t5 := Tryz.underlying5
  a5 := Tryz.isAgg5
  z5 := Tryz.sizeOf5
  v5 := Tryz.zeroValue5
  t9 := Tryz.underlying9
  a9 := Tryz.isAgg9
  z9 := Tryz.sizeOf9
  v9 := Tryz.zeroValue9
  t46 := Tryz.underlying77
  a46 := Tryz.isAgg77
  z46 := Tryz.sizeOf77
  v46 := Tryz.zeroValue77
  t51 := Tryz.underlying181
  a51 := Tryz.isAgg181
  z51 := Tryz.sizeOf181
  v51 := Tryz.zeroValue181
  t53 := Tryz.underlying85
  a53 := Tryz.isAgg85
  z53 := Tryz.sizeOf85
  v53 := Tryz.zeroValue85 }
theorem Tryz.bits_Len (x : Int) (w : World) (h0 : 0 ≤ x) (h1 : x ≤ 18446744073709551615) :
    Calls Tryz.prog 41 #[.int .u64 x] w fun e w' => e = .returned (.int .i64 (Lib.bitLen x.toNat)) ∧ w' = w := Any.bits_Len Tryz.lays125 x w h0 h1
def Tryz.lays129_ren : Go.Shelf.Ren := ⟨fun | 129 => 52 | n => n, fun | 53 => 85 | 3 => 3 | 4 => 4 | 46 => 77 | 5 => 5 | 9 => 9 | n => n, fun | n => n⟩
theorem Tryz.lays129 : Go.Proofs.Lays.n129 Tryz.prog Tryz.lays129_ren := {
  mixed := by kernel_rfl
  f129 := Tryz.func52.trans (congrArg some (by kernel_rfl))
  t3 := Tryz.underlying3
  a3 := Tryz.isAgg3
  z3 := Tryz.sizeOf3
  v3 := Tryz.zeroValue3
  t4 := Tryz.underlying4
  a4 := Tryz.isAgg4
  z4 := Tryz.sizeOf4
  v4 := Tryz.zeroValue4
  t5 := Tryz.underlying5
  a5 := Tryz.isAgg5
  z5 := Tryz.sizeOf5
  v5 := Tryz.zeroValue5
  t9 := Tryz.underlying9
  a9 := Tryz.isAgg9
  z9 := Tryz.sizeOf9
  v9 := Tryz.zeroValue9
  t46 := Tryz.underlying77
  a46 := Tryz.isAgg77
  z46 := Tryz.sizeOf77
  v46 := Tryz.zeroValue77
  t53 := Tryz.underlying85
  a53 := Tryz.isAgg85
  z53 := Tryz.sizeOf85
  v53 := Tryz.zeroValue85 }
theorem Tryz.bits_Len64 (x : Int) (w : World) (h0 : 0 ≤ x) (h1 : x ≤ 18446744073709551615) :
    Calls Tryz.prog 52 #[.int .u64 x] w fun e w' => e = .returned (.int .i64 (Lib.bitLen x.toNat)) ∧ w' = w := Any.bits_Len64 Tryz.lays129 x w h0 h1
def Tryz.lays190_ren : Go.Shelf.Ren := ⟨fun | 190 => 39 | 125 => 41 | 258 => 40 | 128 => 51 | 129 => 52 | 302 => 42 | 303 => 43 | 304 => 44 | 305 => 45 | 306 => 46 | 307 => 47 | 308 => 48 | 309 => 49 | 310 => 50 | 333 => 53 | 329 => 54 | 330 => 55 | 334 => 56 | 335 => 57 | 336 => 58 | 344 => 59 | n => n, fun | 31 => 87 | 9 => 9 | 3 => 3 | 46 => 77 | 0 => 0 | 51 => 181 | 53 => 85 | 4 => 4 | 183 => 173 | 182 => 172 | 131 => 178 | 5 => 5 | 218 => 183 | 222 => 187 | 228 => 189 | 229 => 37 | n => n, fun | n => n⟩
theorem Tryz.lays190 : Go.Proofs.Lays.n190 Tryz.prog Tryz.lays190_ren := {
  mixed := by kernel_rfl
  f125 := Tryz.func41.trans (congrArg some (by kernel_rfl))
  f128 := Tryz.func51.trans (congrArg some (by kernel_rfl))
  f129 := Tryz.func52.trans (congrArg some (by kernel_rfl))
  f190 := Tryz.func39.trans (congrArg some (by kernel_rfl))
  f258 := Tryz.func40.trans (congrArg some (by kernel_rfl))
  f302 := Tryz.func42.trans (congrArg some (by kernel_rfl))
  f303 := Tryz.func43.trans (congrArg some (by kernel_rfl))
  f304 := Tryz.func44.trans (congrArg some (by kernel_rfl))
  f305 := Tryz.func45.trans (congrArg some (by kernel_rfl))
  f306 := Tryz.func46.trans (congrArg some (by kernel_rfl))
  f307 := Tryz.func47.trans (congrArg some (by kernel_rfl))
  f308 := Tryz.func48.trans (congrArg some (by kernel_rfl))
  f309 := Tryz.func49.trans (congrArg some (by kernel_rfl))
  f310 := Tryz.func50.trans (congrArg some (by kernel_rfl))
  f329 := Tryz.func54.trans (congrArg some (by kernel_rfl))
  f330 := Tryz.func55.trans (congrArg some (by kernel_rfl))
  f333 := Tryz.func53.trans (congrArg some (by kernel_rfl))
  f334 := Tryz.func56.trans (congrArg some (by kernel_rfl))
  f335 := Tryz.func57.trans (congrArg some (by kernel_rfl))
  f336 := Tryz.func58.trans (congrArg some (by kernel_rfl))
  f344 := Tryz.func59.trans (congrArg some (by kernel_rfl))
  t0 := Tryz.underlying0
  a0 := Tryz.isAgg0
  z0 := Tryz.sizeOf0
  v0 := Tryz.zeroValue0
  t3 := Tryz.underlying3
  a3 := Tryz.isAgg3
  z3 := Tryz.sizeOf3
  v3 := Tryz.zeroValue3
  t4 := Tryz.underlying4
  a4 := Tryz.isAgg4
  z4 := Tryz.sizeOf4
  v4 := Tryz.zeroValue4
  t5 := Tryz.underlying5
  a5 := Tryz.isAgg5
  z5 := Tryz.sizeOf5
  v5 := Tryz.zeroValue5
  t9 := Tryz.underlying9
  a9 := Tryz.isAgg9
  z9 := Tryz.sizeOf9
  v9 := Tryz.zeroValue9
  t31 := Tryz.underlying87
  a31 := Tryz.isAgg87
  z31 := Tryz.sizeOf87
  v31 := Tryz.zeroValue87
  t46 := Tryz.underlying77
  a46 := Tryz.isAgg77
  z46 := Tryz.sizeOf77
  v46 := Tryz.zeroValue77
  t51 := Tryz.underlying181
  a51 := Tryz.isAgg181
  z51 := Tryz.sizeOf181
  v51 := Tryz.zeroValue181
  t53 := Tryz.underlying85
  a53 := Tryz.isAgg85
  z53 := Tryz.sizeOf85
  v53 := Tryz.zeroValue85
  t131 := Tryz.underlying178
  a131 := Tryz.isAgg178
  z131 := Tryz.sizeOf178
  v131 := Tryz.zeroValue178
  t182 := Tryz.underlying172
  a182 := Tryz.isAgg172
  z182 := Tryz.sizeOf172
  v182 := Tryz.zeroValue172
  t183 := Tryz.underlying173
  a183 := Tryz.isAgg173
  z183 := Tryz.sizeOf173
  v183 := Tryz.zeroValue173
  t218 := Tryz.underlying183
  a218 := Tryz.isAgg183
  z218 := Tryz.sizeOf183
  v218 := Tryz.zeroValue183
  t222 := Tryz.underlying187
  a222 := Tryz.isAgg187
  z222 := Tryz.sizeOf187
  v222 := Tryz.zeroValue187
  t228 := Tryz.underlying189
  a228 := Tryz.isAgg189
  z228 := Tryz.sizeOf189
  v228 := Tryz.zeroValue189
  t229 := Tryz.underlying37
  a229 := Tryz.isAgg37
  z229 := Tryz.sizeOf37
  v229 := Tryz.zeroValue37 }
open Go.Sort Go.RowKit in
theorem Tryz.slices_Sort_string (blk off cap : Nat) (ss : List (List UInt8)) (w : World) (hH : Holds encStr w blk off ss.toArray) (hblk : blk < w.heap.size) (hsz : ss.length < 4611686018427387904) :
    Calls Tryz.prog 39 #[.slice (some ⟨blk, off, none⟩) ss.length cap] w fun e w' =>
      e = .returned (.tuple #[]) ∧ ∃ n os, w' = grow (putRow encStr (Sort.ahead w n) blk off (ss.mergeSort fun x y => decide (x ≤ y)).toArray) os := Any.slices_Sort_string Tryz.lays190 blk off cap ss w hH hblk hsz
def Tryz.lays192_ren : Go.Shelf.Ren := ⟨fun | 192 => 38 | 190 => 39 | 125 => 41 | 258 => 40 | 128 => 51 | 129 => 52 | 302 => 42 | 303 => 43 | 304 => 44 | 305 => 45 | 306 => 46 | 307 => 47 | 308 => 48 | 309 => 49 | 310 => 50 | 333 => 53 | 329 => 54 | 330 => 55 | 334 => 56 | 335 => 57 | 336 => 58 | 344 => 59 | n => n, fun | 31 => 87 | 0 => 0 | 9 => 9 | 3 => 3 | 46 => 77 | 51 => 181 | 53 => 85 | 4 => 4 | 183 => 173 | 182 => 172 | 131 => 178 | 5 => 5 | 218 => 183 | 222 => 187 | 228 => 189 | 229 => 37 | n => n, fun | n => n⟩
theorem Tryz.lays192 : Go.Proofs.Lays.n192 Tryz.prog Tryz.lays192_ren := {
  mixed := by kernel_rfl
  f125 := Tryz.func41.trans (congrArg some (by kernel_rfl))
  f128 := Tryz.func51.trans (congrArg some (by kernel_rfl))
  f129 := Tryz.func52.trans (congrArg some (by kernel_rfl))
  f190 := Tryz.func39.trans (congrArg some (by kernel_rfl))
  f192 := Tryz.func38.trans (congrArg some (by kernel_rfl))
  f258 := Tryz.func40.trans (congrArg some (by kernel_rfl))
  f302 := Tryz.func42.trans (congrArg some (by kernel_rfl))
  f303 := Tryz.func43.trans (congrArg some (by kernel_rfl))
  f304 := Tryz.func44.trans (congrArg some (by kernel_rfl))
  f305 := Tryz.func45.trans (congrArg some (by kernel_rfl))
  f306 := Tryz.func46.trans (congrArg some (by kernel_rfl))
  f307 := Tryz.func47.trans (congrArg some (by kernel_rfl))
  f308 := Tryz.func48.trans (congrArg some (by kernel_rfl))
  f309 := Tryz.func49.trans (congrArg some (by kernel_rfl))
  f310 := Tryz.func50.trans (congrArg some (by kernel_rfl))
  f329 := Tryz.func54.trans (congrArg some (by kernel_rfl))
  f330 := Tryz.func55.trans (congrArg some (by kernel_rfl))
  f333 := Tryz.func53.trans (congrArg some (by kernel_rfl))
  f334 := Tryz.func56.trans (congrArg some (by kernel_rfl))
  f335 := Tryz.func57.trans (congrArg some (by kernel_rfl))
  f336 := Tryz.func58.trans (congrArg some (by kernel_rfl))
  f344 := Tryz.func59.trans (congrArg some (by kernel_rfl))
  t0 := Tryz.underlying0
  a0 := Tryz.isAgg0
  z0 := Tryz.sizeOf0
  v0 := Tryz.zeroValue0
  t3 := Tryz.underlying3
  a3 := Tryz.isAgg3
  z3 := Tryz.sizeOf3
  v3 := Tryz.zeroValue3
  t4 := Tryz.underlying4
  a4 := Tryz.isAgg4
  z4 := Tryz.sizeOf4
  v4 := Tryz.zeroValue4
  t5 := Tryz.underlying5
  a5 := Tryz.isAgg5
  z5 := Tryz.sizeOf5
  v5 := Tryz.zeroValue5
  t9 := Tryz.underlying9
  a9 := Tryz.isAgg9
  z9 := Tryz.sizeOf9
  v9 := Tryz.zeroValue9
  t31 := Tryz.underlying87
  a31 := Tryz.isAgg87
  z31 := Tryz.sizeOf87
  v31 := Tryz.zeroValue87
  t46 := Tryz.underlying77
  a46 := Tryz.isAgg77
  z46 := Tryz.sizeOf77
  v46 := Tryz.zeroValue77
  t51 := Tryz.underlying181
  a51 := Tryz.isAgg181
  z51 := Tryz.sizeOf181
  v51 := Tryz.zeroValue181
  t53 := Tryz.underlying85
  a53 := Tryz.isAgg85
  z53 := Tryz.sizeOf85
  v53 := Tryz.zeroValue85
  t131 := Tryz.underlying178
  a131 := Tryz.isAgg178
  z131 := Tryz.sizeOf178
  v131 := Tryz.zeroValue178
  t182 := Tryz.underlying172
  a182 := Tryz.isAgg172
  z182 := Tryz.sizeOf172
  v182 := Tryz.zeroValue172
  t183 := Tryz.underlying173
  a183 := Tryz.isAgg173
  z183 := Tryz.sizeOf173
  v183 := Tryz.zeroValue173
  t218 := Tryz.underlying183
  a218 := Tryz.isAgg183
  z218 := Tryz.sizeOf183
  v218 := Tryz.zeroValue183
  t222 := Tryz.underlying187
  a222 := Tryz.isAgg187
  z222 := Tryz.sizeOf187
  v222 := Tryz.zeroValue187
  t228 := Tryz.underlying189
  a228 := Tryz.isAgg189
  z228 := Tryz.sizeOf189
  v228 := Tryz.zeroValue189
  t229 := Tryz.underlying37
  a229 := Tryz.isAgg37
  z229 := Tryz.sizeOf37
  v229 := Tryz.zeroValue37 }
open Go.Sort Go.RowKit in
theorem Tryz.sort_Strings (blk off cap : Nat) (ss : List (List UInt8)) (w : World) (hH : Holds encStr w blk off ss.toArray) (hblk : blk < w.heap.size) (hsz : ss.length < 4611686018427387904) :
    Calls Tryz.prog 38 #[.slice (some ⟨blk, off, none⟩) ss.length cap] w fun e w' =>
      e = .returned (.tuple #[]) ∧ ∃ n os, w' = grow (putRow encStr (Sort.ahead w n) blk off (ss.mergeSort fun x y => decide (x ≤ y)).toArray) os := Any.sort_Strings Tryz.lays192 blk off cap ss w hH hblk hsz
open Go.RowKit Go.Sort in
theorem Tryz.slices_Sort_string_none (p : Option Addr) (cap : Nat) (w : World) :
    Calls Tryz.prog 39 #[.slice p 0 cap] w fun e w' => e = .returned (.tuple #[]) ∧ w' = w := Any.slices_Sort_string_none Tryz.lays190 p cap w
open Go.RowKit Go.Sort in
theorem Tryz.sort_Strings_none (p : Option Addr) (cap : Nat) (w : World) :
    Calls Tryz.prog 38 #[.slice p 0 cap] w fun e w' => e = .returned (.tuple #[]) ∧ w' = w := Any.sort_Strings_none Tryz.lays192 p cap w
end Go.Proofs
