import Derived.Shelf.Small.Bits
import Derived.Shelf.Strconv.Itoa0
import Derived.Shelf.Sort.Plain
import Derived.Shelf.Slices.In.SortNone
import Derived.Test.Qxb6631797aProg
namespace Go.Proofs
open Go.Shelf
def Try.lays128_ren : Go.Shelf.Ren := ⟨fun | 128 => 26 | n => n, fun | 51 => 52 | 3 => 3 | 4 => 4 | 46 => 41 | 5 => 5 | 9 => 9 | n => n, fun | n => n⟩
theorem Try.lays128 : Go.Proofs.Lays.n128 Try.prog Try.lays128_ren := {
  mixed := by kernel_rfl
  f128 := Try.func26.trans (congrArg some (by kernel_rfl))
  t3 := Try.underlying3
  a3 := Try.isAgg3
  z3 := Try.sizeOf3
  v3 := Try.zeroValue3
  t4 := Try.underlying4
  a4 := Try.isAgg4
  z4 := Try.sizeOf4
  v4 := Try.zeroValue4
  t5 := Try.underlying5
  a5 := Try.isAgg5
  z5 := Try.sizeOf5
  v5 := Try.zeroValue5
  t9 := Try.underlying9
  a9 := Try.isAgg9
  z9 := Try.sizeOf9
  v9 := Try.zeroValue9
  t46 := Try.underlying41
  a46 := Try.isAgg41
  z46 := Try.sizeOf41
  v46 := Try.zeroValue41
  t51 := Try.underlying52
  a51 := Try.isAgg52
  z51 := Try.sizeOf52
  v51 := Try.zeroValue52 }

theorem Try.bits_Len32 (x : Int) (w : World) (h0 : 0 ≤ x) (h1 : x ≤ 4294967295) :
    Calls Try.prog 26 #[.int .u32 x] w fun e w' => e = .returned (.int .i64 (Lib.bitLen x.toNat)) ∧ w' = w := Any.bits_Len32 Try.lays128 x w h0 h1
def Try.lays125_ren : Go.Shelf.Ren := ⟨fun | 125 => 16 | 128 => 26 | 129 => 27 | n => n, fun | 46 => 41 | 3 => 3 | 51 => 52 | 53 => 54 | 4 => 4 | 5 => 5 | 9 => 9 | n => n, fun | n => n⟩
theorem Try.lays125 : Go.Proofs.Lays.n125 Try.prog Try.lays125_ren := {
  mixed := by kernel_rfl
  f125 := Try.func16.trans (congrArg some (by kernel_rfl))
  f128 := Try.func26.trans (congrArg some (by kernel_rfl))
  f129 := Try.func27.trans (congrArg some (by kernel_rfl))
  t3 := Try.underlying3
  a3 := Try.isAgg3
  z3 := Try.sizeOf3
  v3 := Try.zeroValue3
  t4 := Try.underlying4
  a4 := Try.isAgg4
  z4 := Try.sizeOf4
  v4 := Try.zeroValue4
  t5 := Try.underlying5
  a5 := Try.isAgg5
  z5 := Try.sizeOf5
  v5 := Try.zeroValue5
  t9 := Try.underlying9
  a9 := Try.isAgg9
  z9 := Try.sizeOf9
  v9 := Try.zeroValue9
  t46 := Try.underlying41
  a46 := Try.isAgg41
  z46 := Try.sizeOf41
  v46 := Try.zeroValue41
  t51 := Try.underlying52
  a51 := Try.isAgg52
  z51 := Try.sizeOf52
  v51 := Try.zeroValue52
  t53 := Try.underlying54
  a53 := Try.isAgg54
  z53 := Try.sizeOf54
  v53 := Try.zeroValue54 }

theorem Try.bits_Len (x : Int) (w : World) (h0 : 0 ≤ x) (h1 : x ≤ 18446744073709551615) :
    Calls Try.prog 16 #[.int .u64 x] w fun e w' => e = .returned (.int .i64 (Lib.bitLen x.toNat)) ∧ w' = w := Any.bits_Len Try.lays125 x w h0 h1
def Try.lays129_ren : Go.Shelf.Ren := ⟨fun | 129 => 27 | n => n, fun | 53 => 54 | 3 => 3 | 4 => 4 | 46 => 41 | 5 => 5 | 9 => 9 | n => n, fun | n => n⟩
theorem Try.lays129 : Go.Proofs.Lays.n129 Try.prog Try.lays129_ren := {
  mixed := by kernel_rfl
  f129 := Try.func27.trans (congrArg some (by kernel_rfl))
  t3 := Try.underlying3
  a3 := Try.isAgg3
  z3 := Try.sizeOf3
  v3 := Try.zeroValue3
  t4 := Try.underlying4
  a4 := Try.isAgg4
  z4 := Try.sizeOf4
  v4 := Try.zeroValue4
  t5 := Try.underlying5
  a5 := Try.isAgg5
  z5 := Try.sizeOf5
  v5 := Try.zeroValue5
  t9 := Try.underlying9
  a9 := Try.isAgg9
  z9 := Try.sizeOf9
  v9 := Try.zeroValue9
  t46 := Try.underlying41
  a46 := Try.isAgg41
  z46 := Try.sizeOf41
  v46 := Try.zeroValue41
  t53 := Try.underlying54
  a53 := Try.isAgg54
  z53 := Try.sizeOf54
  v53 := Try.zeroValue54 }

theorem Try.bits_Len64 (x : Int) (w : World) (h0 : 0 ≤ x) (h1 : x ≤ 18446744073709551615) :
    Calls Try.prog 27 #[.int .u64 x] w fun e w' => e = .returned (.int .i64 (Lib.bitLen x.toNat)) ∧ w' = w := Any.bits_Len64 Try.lays129 x w h0 h1
def Try.lays190_ren : Go.Shelf.Ren := ⟨fun | 190 => 14 | 125 => 16 | 258 => 15 | 128 => 26 | 129 => 27 | 302 => 17 | 303 => 18 | 304 => 19 | 305 => 20 | 306 => 21 | 307 => 22 | 308 => 23 | 309 => 24 | 310 => 25 | 333 => 28 | 329 => 29 | 330 => 30 | 334 => 31 | 335 => 32 | 336 => 33 | 344 => 34 | n => n, fun | 31 => 25 | 9 => 9 | 3 => 3 | 46 => 41 | 0 => 0 | 51 => 52 | 53 => 54 | 4 => 4 | 183 => 44 | 182 => 43 | 131 => 49 | 5 => 5 | 218 => 55 | 222 => 59 | 228 => 62 | 229 => 63 | n => n, fun | n => n⟩
theorem Try.lays190 : Go.Proofs.Lays.n190 Try.prog Try.lays190_ren := {
  mixed := by kernel_rfl
  f125 := Try.func16.trans (congrArg some (by kernel_rfl))
  f128 := Try.func26.trans (congrArg some (by kernel_rfl))
  f129 := Try.func27.trans (congrArg some (by kernel_rfl))
  f190 := Try.func14.trans (congrArg some (by kernel_rfl))
  f258 := Try.func15.trans (congrArg some (by kernel_rfl))
  f302 := Try.func17.trans (congrArg some (by kernel_rfl))
  f303 := Try.func18.trans (congrArg some (by kernel_rfl))
  f304 := Try.func19.trans (congrArg some (by kernel_rfl))
  f305 := Try.func20.trans (congrArg some (by kernel_rfl))
  f306 := Try.func21.trans (congrArg some (by kernel_rfl))
  f307 := Try.func22.trans (congrArg some (by kernel_rfl))
  f308 := Try.func23.trans (congrArg some (by kernel_rfl))
  f309 := Try.func24.trans (congrArg some (by kernel_rfl))
  f310 := Try.func25.trans (congrArg some (by kernel_rfl))
  f329 := Try.func29.trans (congrArg some (by kernel_rfl))
  f330 := Try.func30.trans (congrArg some (by kernel_rfl))
  f333 := Try.func28.trans (congrArg some (by kernel_rfl))
  f334 := Try.func31.trans (congrArg some (by kernel_rfl))
  f335 := Try.func32.trans (congrArg some (by kernel_rfl))
  f336 := Try.func33.trans (congrArg some (by kernel_rfl))
  f344 := Try.func34.trans (congrArg some (by kernel_rfl))
  t0 := Try.underlying0
  a0 := Try.isAgg0
  z0 := Try.sizeOf0
  v0 := Try.zeroValue0
  t3 := Try.underlying3
  a3 := Try.isAgg3
  z3 := Try.sizeOf3
  v3 := Try.zeroValue3
  t4 := Try.underlying4
  a4 := Try.isAgg4
  z4 := Try.sizeOf4
  v4 := Try.zeroValue4
  t5 := Try.underlying5
  a5 := Try.isAgg5
  z5 := Try.sizeOf5
  v5 := Try.zeroValue5
  t9 := Try.underlying9
  a9 := Try.isAgg9
  z9 := Try.sizeOf9
  v9 := Try.zeroValue9
  t31 := Try.underlying25
  a31 := Try.isAgg25
  z31 := Try.sizeOf25
  v31 := Try.zeroValue25
  t46 := Try.underlying41
  a46 := Try.isAgg41
  z46 := Try.sizeOf41
  v46 := Try.zeroValue41
  t51 := Try.underlying52
  a51 := Try.isAgg52
  z51 := Try.sizeOf52
  v51 := Try.zeroValue52
  t53 := Try.underlying54
  a53 := Try.isAgg54
  z53 := Try.sizeOf54
  v53 := Try.zeroValue54
  t131 := Try.underlying49
  a131 := Try.isAgg49
  z131 := Try.sizeOf49
  v131 := Try.zeroValue49
  t182 := Try.underlying43
  a182 := Try.isAgg43
  z182 := Try.sizeOf43
  v182 := Try.zeroValue43
  t183 := Try.underlying44
  a183 := Try.isAgg44
  z183 := Try.sizeOf44
  v183 := Try.zeroValue44
  t218 := Try.underlying55
  a218 := Try.isAgg55
  z218 := Try.sizeOf55
  v218 := Try.zeroValue55
  t222 := Try.underlying59
  a222 := Try.isAgg59
  z222 := Try.sizeOf59
  v222 := Try.zeroValue59
  t228 := Try.underlying62
  a228 := Try.isAgg62
  z228 := Try.sizeOf62
  v228 := Try.zeroValue62
  t229 := Try.underlying63
  a229 := Try.isAgg63
  z229 := Try.sizeOf63
  v229 := Try.zeroValue63 }
open Go.Sort Go.RowKit in
theorem Try.slices_Sort_string (blk off cap : Nat) (ss : List (List UInt8)) (w : World) (hH : Holds encStr w blk off ss.toArray) (hblk : blk < w.heap.size) (hsz : ss.length < 4611686018427387904) :
    Calls Try.prog 14 #[.slice (some ⟨blk, off, none⟩) ss.length cap] w fun e w' =>
      e = .returned (.tuple #[]) ∧ ∃ n os, w' = grow (putRow encStr (Sort.ahead w n) blk off (ss.mergeSort fun x y => decide (x ≤ y)).toArray) os := Any.slices_Sort_string Try.lays190 blk off cap ss w hH hblk hsz
open Go.RowKit Go.Sort in

theorem Try.slices_Sort_string_none (p : Option Addr) (cap : Nat) (w : World) :
    Calls Try.prog 14 #[.slice p 0 cap] w fun e w' => e = .returned (.tuple #[]) ∧ w' = w := Any.slices_Sort_string_none Try.lays190 p cap w
end Go.Proofs
