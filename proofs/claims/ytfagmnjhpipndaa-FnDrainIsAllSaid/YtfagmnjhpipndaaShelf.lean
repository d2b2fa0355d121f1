/-
  DERIVED: THE SHELF's CONTRACTS AT THIS DUMP, IN PLAIN WORDS (tools/lay-plain.mjs out of 'TryShelf.lean', which tools/lay-shelf.mjs wrote): THE SAME DECLARATIONS UNDER THE SAME NAMES: 'import', 'namespace', 'open', 'def', 'theorem' AND NOTHING ELSE: no command of the shelf's: FOR A HAND-IN. Each laying: the table of numbers ('.._ren') and one theorem, a field a fact of the dump's own or the kernel's comparison; each contract: ONE APPLICATION.
-/
import Derived.Ground.Names8Prog
import Derived.Shelf.Spec.SlicesGrow
import Derived.Shelf.SlGeneric
import Derived.Shelf.Small.Bits
import Derived.Shelf.Strconv.Itoa0
import Derived.Shelf.Sort.Plain
import Derived.Ground.Names2Prog
import Derived.Shelf.Slices.SearchI
import Derived.Shelf.Slices.In.SortNone
import Derived.Test.YtfagmnjhpipndaaProg
namespace Go.Proofs
open Go.Shelf
def Try.lays128_ren : Go.Shelf.Ren := ⟨fun | 128 => 84 | n => n, fun | 51 => 99 | 3 => 3 | 4 => 4 | 46 => 89 | 5 => 5 | 9 => 9 | n => n, fun | n => n⟩
theorem Try.lays128 : Go.Proofs.Lays.n128 Try.prog Try.lays128_ren := {
  mixed := by kernel_rfl
  f128 := Try.func84.trans (congrArg some (by kernel_rfl))
  t3 := Try.underlying3
  a3 := Try.isAgg3
  z3 := Try.sizeOf3
  v3 := Try.zeroValue3
  t4 := Try.underlying4
  a4 := Try.isAgg4
  z4 := Try.sizeOf4
  v4 := Try.zeroValue4
  t5 := Try.underlying5
  a5 := Try.isAgg5
  z5 := Try.sizeOf5
  v5 := Try.zeroValue5
  t9 := Try.underlying9
  a9 := Try.isAgg9
  z9 := Try.sizeOf9
  v9 := Try.zeroValue9
  t46 := Try.underlying89
  a46 := Try.isAgg89
  z46 := Try.sizeOf89
  v46 := Try.zeroValue89
  t51 := Try.underlying99
  a51 := Try.isAgg99
  z51 := Try.sizeOf99
  v51 := Try.zeroValue99 }
/-- bits.Len32: "Len32 returns the minimum number of bits required to represent x; the result is 0 for x == 0.": IT RETURNS 'Lib.bitLen x'; the world is as it was. ('h0', 'h1': x is a uint32.) (LAID: no walk: one application.) -/
theorem Try.bits_Len32 (x : Int) (w : World) (h0 : 0 ≤ x) (h1 : x ≤ 4294967295) :
    Calls Try.prog 84 #[.int .u32 x] w fun e w' => e = .returned (.int .i64 (Lib.bitLen x.toNat)) ∧ w' = w := Any.bits_Len32 Try.lays128 x w h0 h1
def Try.lays125_ren : Go.Shelf.Ren := ⟨fun | 125 => 74 | 128 => 84 | 129 => 85 | n => n, fun | 46 => 89 | 3 => 3 | 51 => 99 | 53 => 101 | 4 => 4 | 5 => 5 | 9 => 9 | n => n, fun | n => n⟩
theorem Try.lays125 : Go.Proofs.Lays.n125 Try.prog Try.lays125_ren := {
  mixed := by kernel_rfl
  f125 := Try.func74.trans (congrArg some (by kernel_rfl))
  f128 := Try.func84.trans (congrArg some (by kernel_rfl))
  f129 := Try.func85.trans (congrArg some (by kernel_rfl))
  t3 := Try.underlying3
  a3 := Try.isAgg3
  z3 := Try.sizeOf3
  v3 := Try.zeroValue3
  t4 := Try.underlying4
  a4 := Try.isAgg4
  z4 := Try.sizeOf4
  v4 := Try.zeroValue4
  t5 := Try.underlying5
  a5 := Try.isAgg5
  z5 := Try.sizeOf5
  v5 := Try.zeroValue5
  t9 := Try.underlying9
  a9 := Try.isAgg9
  z9 := Try.sizeOf9
  v9 := Try.zeroValue9
  t46 := Try.underlying89
  a46 := Try.isAgg89
  z46 := Try.sizeOf89
  v46 := Try.zeroValue89
  t51 := Try.underlying99
  a51 := Try.isAgg99
  z51 := Try.sizeOf99
  v51 := Try.zeroValue99
  t53 := Try.underlying101
  a53 := Try.isAgg101
  z53 := Try.sizeOf101
  v53 := Try.zeroValue101 }
/-- bits.Len: "Len returns the minimum number of bits required to represent x; the result is 0 for x == 0.": IT RETURNS 'Lib.bitLen x'; the world is as it was. (A uint has 64 bits in the model.) ITS CALLEE bits.Len64 IS MET BY ITS OWN CONTRACT OFF THE SHELF (lay that first). (LAID: no walk: one application.) -/
theorem Try.bits_Len (x : Int) (w : World) (h0 : 0 ≤ x) (h1 : x ≤ 18446744073709551615) :
    Calls Try.prog 74 #[.int .u64 x] w fun e w' => e = .returned (.int .i64 (Lib.bitLen x.toNat)) ∧ w' = w := Any.bits_Len Try.lays125 x w h0 h1
def Try.lays129_ren : Go.Shelf.Ren := ⟨fun | 129 => 85 | n => n, fun | 53 => 101 | 3 => 3 | 4 => 4 | 46 => 89 | 5 => 5 | 9 => 9 | n => n, fun | n => n⟩
theorem Try.lays129 : Go.Proofs.Lays.n129 Try.prog Try.lays129_ren := {
  mixed := by kernel_rfl
  f129 := Try.func85.trans (congrArg some (by kernel_rfl))
  t3 := Try.underlying3
  a3 := Try.isAgg3
  z3 := Try.sizeOf3
  v3 := Try.zeroValue3
  t4 := Try.underlying4
  a4 := Try.isAgg4
  z4 := Try.sizeOf4
  v4 := Try.zeroValue4
  t5 := Try.underlying5
  a5 := Try.isAgg5
  z5 := Try.sizeOf5
  v5 := Try.zeroValue5
  t9 := Try.underlying9
  a9 := Try.isAgg9
  z9 := Try.sizeOf9
  v9 := Try.zeroValue9
  t46 := Try.underlying89
  a46 := Try.isAgg89
  z46 := Try.sizeOf89
  v46 := Try.zeroValue89
  t53 := Try.underlying101
  a53 := Try.isAgg101
  z53 := Try.sizeOf101
  v53 := Try.zeroValue101 }
/-- bits.Len64: "Len64 returns the minimum number of bits required to represent x; the result is 0 for x == 0.": IT RETURNS 'Lib.bitLen x'; the world is as it was. ('h0', 'h1': x is a uint64.) (LAID: no walk: one application.) -/
theorem Try.bits_Len64 (x : Int) (w : World) (h0 : 0 ≤ x) (h1 : x ≤ 18446744073709551615) :
    Calls Try.prog 85 #[.int .u64 x] w fun e w' => e = .returned (.int .i64 (Lib.bitLen x.toNat)) ∧ w' = w := Any.bits_Len64 Try.lays129 x w h0 h1
def Try.lays189_ren : Go.Shelf.Ren := ⟨fun | 189 => 60 | 125 => 74 | 257 => 73 | 128 => 84 | 129 => 85 | 294 => 75 | 295 => 76 | 296 => 77 | 297 => 78 | 298 => 79 | 299 => 80 | 216 => 81 | 300 => 82 | 301 => 83 | 328 => 86 | 329 => 87 | 330 => 88 | 331 => 89 | 332 => 90 | 215 => 91 | 343 => 92 | n => n, fun | 28 => 25 | 3 => 3 | 46 => 89 | 0 => 0 | 51 => 99 | 53 => 101 | 4 => 4 | 183 => 92 | 182 => 91 | 131 => 96 | 5 => 5 | 9 => 9 | 218 => 102 | 222 => 106 | 228 => 108 | 229 => 109 | n => n, fun | n => n⟩
theorem Try.lays189 : Go.Proofs.Lays.n189 Try.prog Try.lays189_ren := {
  mixed := by kernel_rfl
  f125 := Try.func74.trans (congrArg some (by kernel_rfl))
  f128 := Try.func84.trans (congrArg some (by kernel_rfl))
  f129 := Try.func85.trans (congrArg some (by kernel_rfl))
  f189 := Try.func60.trans (congrArg some (by kernel_rfl))
  f215 := Try.func91.trans (congrArg some (by kernel_rfl))
  f216 := Try.func81.trans (congrArg some (by kernel_rfl))
  f257 := Try.func73.trans (congrArg some (by kernel_rfl))
  f294 := Try.func75.trans (congrArg some (by kernel_rfl))
  f295 := Try.func76.trans (congrArg some (by kernel_rfl))
  f296 := Try.func77.trans (congrArg some (by kernel_rfl))
  f297 := Try.func78.trans (congrArg some (by kernel_rfl))
  f298 := Try.func79.trans (congrArg some (by kernel_rfl))
  f299 := Try.func80.trans (congrArg some (by kernel_rfl))
  f300 := Try.func82.trans (congrArg some (by kernel_rfl))
  f301 := Try.func83.trans (congrArg some (by kernel_rfl))
  f328 := Try.func86.trans (congrArg some (by kernel_rfl))
  f329 := Try.func87.trans (congrArg some (by kernel_rfl))
  f330 := Try.func88.trans (congrArg some (by kernel_rfl))
  f331 := Try.func89.trans (congrArg some (by kernel_rfl))
  f332 := Try.func90.trans (congrArg some (by kernel_rfl))
  f343 := Try.func92.trans (congrArg some (by kernel_rfl))
  t0 := Try.underlying0
  a0 := Try.isAgg0
  z0 := Try.sizeOf0
  v0 := Try.zeroValue0
  t3 := Try.underlying3
  a3 := Try.isAgg3
  z3 := Try.sizeOf3
  v3 := Try.zeroValue3
  t4 := Try.underlying4
  a4 := Try.isAgg4
  z4 := Try.sizeOf4
  v4 := Try.zeroValue4
  t5 := Try.underlying5
  a5 := Try.isAgg5
  z5 := Try.sizeOf5
  v5 := Try.zeroValue5
  t9 := Try.underlying9
  a9 := Try.isAgg9
  z9 := Try.sizeOf9
  v9 := Try.zeroValue9
  t28 := Try.underlying25
  a28 := Try.isAgg25
  z28 := Try.sizeOf25
  v28 := Try.zeroValue25
  t46 := Try.underlying89
  a46 := Try.isAgg89
  z46 := Try.sizeOf89
  v46 := Try.zeroValue89
  t51 := Try.underlying99
  a51 := Try.isAgg99
  z51 := Try.sizeOf99
  v51 := Try.zeroValue99
  t53 := Try.underlying101
  a53 := Try.isAgg101
  z53 := Try.sizeOf101
  v53 := Try.zeroValue101
  t131 := Try.underlying96
  a131 := Try.isAgg96
  z131 := Try.sizeOf96
  v131 := Try.zeroValue96
  t182 := Try.underlying91
  a182 := Try.isAgg91
  z182 := Try.sizeOf91
  v182 := Try.zeroValue91
  t183 := Try.underlying92
  a183 := Try.isAgg92
  z183 := Try.sizeOf92
  v183 := Try.zeroValue92
  t218 := Try.underlying102
  a218 := Try.isAgg102
  z218 := Try.sizeOf102
  v218 := Try.zeroValue102
  t222 := Try.underlying106
  a222 := Try.isAgg106
  z222 := Try.sizeOf106
  v222 := Try.zeroValue106
  t228 := Try.underlying108
  a228 := Try.isAgg108
  z228 := Try.sizeOf108
  v228 := Try.zeroValue108
  t229 := Try.underlying109
  a229 := Try.isAgg109
  z229 := Try.sizeOf109
  v229 := Try.zeroValue109 }
open Go.Sort Go.RowKit in
theorem Try.slices_Sort_int (blk off cap : Nat) (zs : List Int) (w : World) (hH : Holds (Value.int .i64) w blk off zs.toArray) (hblk : blk < w.heap.size) (hsz : zs.length < 4611686018427387904) :
    Calls Try.prog 60 #[.slice (some ⟨blk, off, none⟩) zs.length cap] w fun e w' =>
      e = .returned (.tuple #[]) ∧ ∃ n os, w' = grow (putRow (Value.int .i64) (Sort.ahead w n) blk off (zs.mergeSort fun x y => decide (x ≤ y)).toArray) os := Any.slices_Sort_int Try.lays189 blk off cap zs w hH hblk hsz
def Try.laysNm237_ren : Go.Shelf.Ren := ⟨fun | 37 => 91 | n => n, fun | 3 => 3 | 4 => 4 | n => n, fun | n => n⟩
theorem Try.laysNm237 : Go.Proofs.Lays2.n37 Try.prog Try.laysNm237_ren := {
  mixed := by kernel_rfl
  f37 := Try.func91.trans (congrArg some (by kernel_rfl))
  t3 := Try.underlying3
  a3 := Try.isAgg3
  z3 := Try.sizeOf3
  v3 := Try.zeroValue3
  t4 := Try.underlying4
  a4 := Try.isAgg4
  z4 := Try.sizeOf4
  v4 := Try.zeroValue4 }
open Go.RowKit Go.Lib in
/-- cmp.isNaN[int]: 'x != x': false. (LAID: no walk: one application.) -/
theorem Try.cmp_isNaN_int2 (x : Int) (w : World) :
    Calls Try.prog 91 #[.int .i64 x] w fun e w' => e = .returned (.bool false) ∧ w' = w := Any.cmp_isNaN_int2 Try.laysNm237 x w
def Try.laysNm231_ren : Go.Shelf.Ren := ⟨fun | 31 => 81 | 37 => 91 | n => n, fun | 3 => 3 | 4 => 4 | n => n, fun | n => n⟩
theorem Try.laysNm231 : Go.Proofs.Lays2.n31 Try.prog Try.laysNm231_ren := {
  mixed := by kernel_rfl
  f31 := Try.func81.trans (congrArg some (by kernel_rfl))
  f37 := Try.func91.trans (congrArg some (by kernel_rfl))
  t3 := Try.underlying3
  a3 := Try.isAgg3
  z3 := Try.sizeOf3
  v3 := Try.zeroValue3
  t4 := Try.underlying4
  a4 := Try.isAgg4
  z4 := Try.sizeOf4
  v4 := Try.zeroValue4 }
open Go.RowKit Go.Lib in
/-- cmp.Less[int]: "Less reports whether x is less than y.": 'x < y'; the world is as it was. (LAID: no walk: one application.) -/
theorem Try.cmp_Less_int2 (x y : Int) (w : World) :
    Calls Try.prog 81 #[.int .i64 x, .int .i64 y] w fun e w' => e = .returned (.bool (decide (x < y))) ∧ w' = w := Any.cmp_Less_int2 Try.laysNm231 x y w
open Go.RowKit Go.Sort in
/-- .. and plain. (LAID: no walk: one application.) -/
theorem Try.slices_Sort_int_none (p : Option Addr) (cap : Nat) (w : World) :
    Calls Try.prog 60 #[.slice p 0 cap] w fun e w' => e = .returned (.tuple #[]) ∧ w' = w := Any.slices_Sort_int_none Try.lays189 p cap w
def Try.growL_ren : Go.Shelf.Ren := ⟨fun | 4 => 70 | n => n, fun | 22 => 25 | 25 => 3 | 3 => 3 | 4 => 4 | 9 => 9 | 20 => 20 | 0 => 0 | n => n, fun | n => n⟩
theorem Try.growL : Go.Proofs.Lays8.n4 Try.prog Try.growL_ren := {
  mixed := by kernel_rfl
  f4 := ⟨Try.f70.name, by decide, Try.func70.trans (congrArg some (by kernel_rfl))⟩
  t0 := Try.underlying0
  a0 := Try.isAgg0
  z0 := Try.sizeOf0
  v0 := Try.zeroValue0
  t3 := Try.underlying3
  a3 := Try.isAgg3
  z3 := Try.sizeOf3
  v3 := Try.zeroValue3
  t4 := Try.underlying4
  a4 := Try.isAgg4
  z4 := Try.sizeOf4
  v4 := Try.zeroValue4
  t9 := Try.underlying9
  a9 := Try.isAgg9
  z9 := Try.sizeOf9
  v9 := Try.zeroValue9
  t20 := Try.underlying20
  a20 := Try.isAgg20
  z20 := Try.sizeOf20
  v20 := Try.zeroValue20
  t22 := Try.underlying25
  a22 := Try.isAgg25
  z22 := Try.sizeOf25
  v22 := Try.zeroValue25 }
end Go.Proofs
