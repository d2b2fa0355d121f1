/-
  DERIVED: THE SHELF's CONTRACTS AT THIS DUMP, IN PLAIN WORDS (tools/lay-plain.mjs out of 'TryShelf.lean', which tools/lay-shelf.mjs wrote): THE SAME DECLARATIONS UNDER THE SAME NAMES: 'import', 'namespace', 'open', 'def', 'theorem' AND NOTHING ELSE: no command of the shelf's: FOR A HAND-IN. Each laying: the table of numbers ('.._ren') and one theorem, a field a fact of the dump's own or the kernel's comparison; each contract: ONE APPLICATION.
-/
import Derived.Shelf.SlGeneric
import Derived.Shelf.Small.Bits
import Derived.Shelf.Strconv.Itoa0
import Derived.Ground.SlsfProg
import Derived.Shelf.SlSortCmp.Insertion
import Derived.Shelf.SlSortCmp.SiftDown1
import Derived.Shelf.SlSortCmp.HeapSort1
import Derived.Shelf.SlSortCmp.Insertion1
import Derived.Shelf.SlSortCmp.Median1
import Derived.Shelf.SlSortCmp.Pivot1
import Derived.Shelf.SlSortCmp.ReverseRange1
import Derived.Shelf.SlSortCmp.PartialInsertion1
import Derived.Shelf.SlSortCmp.PartitionEqual1
import Derived.Shelf.SlSortCmp.Partition1
import Derived.Shelf.SlSortCmp.Pdq1
import Derived.Shelf.SlSortCmp.Whole1
import Derived.Shelf.SlSortCmp.NoneTotal
import Derived.Test.YtpnlindmcomikaaProg
namespace Go.Proofs
open Go.Shelf
def Try.lays128_ren : Go.Shelf.Ren := ⟨fun | 128 => 50 | n => n, fun | 51 => 75 | 3 => 3 | 4 => 4 | 46 => 64 | 5 => 5 | 9 => 9 | n => n, fun | n => n⟩
theorem Try.lays128 : Go.Proofs.Lays.n128 Try.prog Try.lays128_ren := {
  mixed := by kernel_rfl
  f128 := Try.func50.trans (congrArg some (by kernel_rfl))
  t3 := Try.underlying3
  a3 := Try.isAgg3
  z3 := Try.sizeOf3
  v3 := Try.zeroValue3
  t4 := Try.underlying4
  a4 := Try.isAgg4
  z4 := Try.sizeOf4
  v4 := Try.zeroValue4
  t5 := Try.underlying5
  a5 := Try.isAgg5
  z5 := Try.sizeOf5
  v5 := Try.zeroValue5
  t9 := Try.underlying9
  a9 := Try.isAgg9
  z9 := Try.sizeOf9
  v9 := Try.zeroValue9
  t46 := Try.underlying64
  a46 := Try.isAgg64
  z46 := Try.sizeOf64
  v46 := Try.zeroValue64
  t51 := Try.underlying75
  a51 := Try.isAgg75
  z51 := Try.sizeOf75
  v51 := Try.zeroValue75 }
/-- bits.Len32: "Len32 returns the minimum number of bits required to represent x; the result is 0 for x == 0.": IT RETURNS 'Lib.bitLen x'; the world is as it was. ('h0', 'h1': x is a uint32.) (LAID: no walk: one application.) -/
theorem Try.bits_Len32 (x : Int) (w : World) (h0 : 0 ≤ x) (h1 : x ≤ 4294967295) :
    Calls Try.prog 50 #[.int .u32 x] w fun e w' => e = .returned (.int .i64 (Lib.bitLen x.toNat)) ∧ w' = w := Any.bits_Len32 Try.lays128 x w h0 h1
def Try.lays125_ren : Go.Shelf.Ren := ⟨fun | 125 => 40 | 128 => 50 | 129 => 51 | n => n, fun | 46 => 64 | 3 => 3 | 51 => 75 | 53 => 77 | 4 => 4 | 5 => 5 | 9 => 9 | n => n, fun | n => n⟩
theorem Try.lays125 : Go.Proofs.Lays.n125 Try.prog Try.lays125_ren := {
  mixed := by kernel_rfl
  f125 := Try.func40.trans (congrArg some (by kernel_rfl))
  f128 := Try.func50.trans (congrArg some (by kernel_rfl))
  f129 := Try.func51.trans (congrArg some (by kernel_rfl))
  t3 := Try.underlying3
  a3 := Try.isAgg3
  z3 := Try.sizeOf3
  v3 := Try.zeroValue3
  t4 := Try.underlying4
  a4 := Try.isAgg4
  z4 := Try.sizeOf4
  v4 := Try.zeroValue4
  t5 := Try.underlying5
  a5 := Try.isAgg5
  z5 := Try.sizeOf5
  v5 := Try.zeroValue5
  t9 := Try.underlying9
  a9 := Try.isAgg9
  z9 := Try.sizeOf9
  v9 := Try.zeroValue9
  t46 := Try.underlying64
  a46 := Try.isAgg64
  z46 := Try.sizeOf64
  v46 := Try.zeroValue64
  t51 := Try.underlying75
  a51 := Try.isAgg75
  z51 := Try.sizeOf75
  v51 := Try.zeroValue75
  t53 := Try.underlying77
  a53 := Try.isAgg77
  z53 := Try.sizeOf77
  v53 := Try.zeroValue77 }
/-- bits.Len: "Len returns the minimum number of bits required to represent x; the result is 0 for x == 0.": IT RETURNS 'Lib.bitLen x'; the world is as it was. (A uint has 64 bits in the model.) ITS CALLEE bits.Len64 IS MET BY ITS OWN CONTRACT OFF THE SHELF (lay that first). (LAID: no walk: one application.) -/
theorem Try.bits_Len (x : Int) (w : World) (h0 : 0 ≤ x) (h1 : x ≤ 18446744073709551615) :
    Calls Try.prog 40 #[.int .u64 x] w fun e w' => e = .returned (.int .i64 (Lib.bitLen x.toNat)) ∧ w' = w := Any.bits_Len Try.lays125 x w h0 h1
def Try.lays129_ren : Go.Shelf.Ren := ⟨fun | 129 => 51 | n => n, fun | 53 => 77 | 3 => 3 | 4 => 4 | 46 => 64 | 5 => 5 | 9 => 9 | n => n, fun | n => n⟩
theorem Try.lays129 : Go.Proofs.Lays.n129 Try.prog Try.lays129_ren := {
  mixed := by kernel_rfl
  f129 := Try.func51.trans (congrArg some (by kernel_rfl))
  t3 := Try.underlying3
  a3 := Try.isAgg3
  z3 := Try.sizeOf3
  v3 := Try.zeroValue3
  t4 := Try.underlying4
  a4 := Try.isAgg4
  z4 := Try.sizeOf4
  v4 := Try.zeroValue4
  t5 := Try.underlying5
  a5 := Try.isAgg5
  z5 := Try.sizeOf5
  v5 := Try.zeroValue5
  t9 := Try.underlying9
  a9 := Try.isAgg9
  z9 := Try.sizeOf9
  v9 := Try.zeroValue9
  t46 := Try.underlying64
  a46 := Try.isAgg64
  z46 := Try.sizeOf64
  v46 := Try.zeroValue64
  t53 := Try.underlying77
  a53 := Try.isAgg77
  z53 := Try.sizeOf77
  v53 := Try.zeroValue77 }
/-- bits.Len64: "Len64 returns the minimum number of bits required to represent x; the result is 0 for x == 0.": IT RETURNS 'Lib.bitLen x'; the world is as it was. ('h0', 'h1': x is a uint64.) (LAID: no walk: one application.) -/
theorem Try.bits_Len64 (x : Int) (w : World) (h0 : 0 ≤ x) (h1 : x ≤ 18446744073709551615) :
    Calls Try.prog 51 #[.int .u64 x] w fun e w' => e = .returned (.int .i64 (Lib.bitLen x.toNat)) ∧ w' = w := Any.bits_Len64 Try.lays129 x w h0 h1
def Try.laysSlF20_f42_ren : Go.Shelf.Ren := ⟨fun | 20 => 42 | n => n, fun | 24 => 3 | 22 => 23 | 3 => 3 | 25 => 46 | 4 => 4 | 0 => 0 | n => n, fun | n => n⟩
theorem Try.laysSlF20_f42 : Go.Proofs.SlLaysF.n20 Try.prog Try.laysSlF20_f42_ren := {
  mixed := by kernel_rfl
  f20 := ⟨Try.f42.name, by decide, Try.func42.trans (congrArg some (by kernel_rfl))⟩
  t0 := Try.underlying0
  a0 := Try.isAgg0
  z0 := Try.sizeOf0
  v0 := Try.zeroValue0
  t3 := Try.underlying3
  a3 := Try.isAgg3
  z3 := Try.sizeOf3
  v3 := Try.zeroValue3
  t4 := Try.underlying4
  a4 := Try.isAgg4
  z4 := Try.sizeOf4
  v4 := Try.zeroValue4
  t22 := Try.underlying23
  a22 := Try.isAgg23
  z22 := Try.sizeOf23
  v22 := Try.zeroValue23
  a24 := Try.isAgg3
  z24 := Try.sizeOf3
  t25 := Try.underlying46
  a25 := Try.isAgg46
  z25 := Try.sizeOf46
  v25 := Try.zeroValue46 }
open Go.RowKit Go.Lib Go.Sort in
theorem Try.insertionSortCmpFunc_one {α : Type} [Inhabited α] (enc : α → Value) (hO : OneCell enc) (cf : α → α → Int) (g : Nat) (cb : Array Value) (blk off cap a b : Nat) (d : Array α) (w : World) (eg : ∀ args w, (callFunc g args).run Try.prog w = .ok (.enter g args) w) (hcmp : CmpReads Try.prog g cb enc cf blk off d.size w) (hH : Holds enc w blk off d) (hab : a ≤ b) (hb : b ≤ d.size) (hsz : d.size < 4611686018427387904) :
    Calls Try.prog 42 #[.slice (some ⟨blk, off, none⟩) d.size cap, .int .i64 a, .int .i64 b, .func (.func g) #[] cb] w fun e w' =>
      e = .returned (.tuple #[]) ∧ ∃ n, w' = (putRow enc w blk off (Sort.insertionSort (ltOf cf) d a b)).drewN n := Any.insertionSortCmpFunc_one Try.laysSlF20_f42 enc hO cf g cb blk off cap a b d w eg hcmp hH hab hb hsz
def Try.laysSlF46_f53_ren : Go.Shelf.Ren := ⟨fun | 46 => 53 | n => n, fun | 24 => 3 | 22 => 23 | 3 => 3 | 25 => 46 | 4 => 4 | 0 => 0 | n => n, fun | n => n⟩
theorem Try.laysSlF46_f53 : Go.Proofs.SlLaysF.n46 Try.prog Try.laysSlF46_f53_ren := {
  mixed := by kernel_rfl
  f46 := ⟨Try.f53.name, by decide, Try.func53.trans (congrArg some (by kernel_rfl))⟩
  t0 := Try.underlying0
  a0 := Try.isAgg0
  z0 := Try.sizeOf0
  v0 := Try.zeroValue0
  t3 := Try.underlying3
  a3 := Try.isAgg3
  z3 := Try.sizeOf3
  v3 := Try.zeroValue3
  t4 := Try.underlying4
  a4 := Try.isAgg4
  z4 := Try.sizeOf4
  v4 := Try.zeroValue4
  t22 := Try.underlying23
  a22 := Try.isAgg23
  z22 := Try.sizeOf23
  v22 := Try.zeroValue23
  a24 := Try.isAgg3
  z24 := Try.sizeOf3
  t25 := Try.underlying46
  a25 := Try.isAgg46
  z25 := Try.sizeOf46
  v25 := Try.zeroValue46 }
open Go.RowKit Go.Lib Go.Sort in
/-- slices.siftDownCmpFunc at elements of one cell: from a world of the sort's to a world of the sort's. (LAID AT THE INSTANCE 'slices.siftDownCmpFunc[int]': no walk: one application.) -/
theorem Try.siftDownCmpFunc {α : Type} [Inhabited α] (enc : α → Value) (cf : α → α → Int) (g : Nat) (cb : Array Value) (blk off cap lo hi first : Nat) (d0 d : Array α) (w0 w : World) (eg : ∀ args w, (callFunc g args).run Try.prog w = .ok (.enter g args) w) (hcmp : CmpLays1 Try.prog g cb enc cf blk off d0.size w0) (R : Row1 enc w0 blk off d0) (hs : d0.size = d.size) (S : SW enc w0 blk off d w) (hlo : lo ≤ hi) (hb : first + hi ≤ d.size) (hsz : d.size < 4611686018427387904) :
    Calls Try.prog 53 #[.slice (some ⟨blk, off, none⟩) d.size cap, .int .i64 lo, .int .i64 hi, .int .i64 first, .func (.func g) #[] cb] w fun e w' =>
      e = .returned (.tuple #[]) ∧ SW enc w0 blk off (siftDown (ltOf cf) hi first lo d) w' := Any.siftDownCmpFunc Try.laysSlF46_f53 enc cf g cb blk off cap lo hi first d0 d w0 w eg hcmp R hs S hlo hb hsz
def Try.laysSlF21_f43_ren : Go.Shelf.Ren := ⟨fun | 21 => 43 | 46 => 53 | n => n, fun | 24 => 3 | 22 => 23 | 3 => 3 | 25 => 46 | 4 => 4 | 0 => 0 | n => n, fun | n => n⟩
theorem Try.laysSlF21_f43 : Go.Proofs.SlLaysF.n21 Try.prog Try.laysSlF21_f43_ren := {
  mixed := by kernel_rfl
  f21 := ⟨Try.f43.name, by decide, Try.func43.trans (congrArg some (by kernel_rfl))⟩
  f46 := ⟨Try.f53.name, by decide, Try.func53.trans (congrArg some (by kernel_rfl))⟩
  t0 := Try.underlying0
  a0 := Try.isAgg0
  z0 := Try.sizeOf0
  v0 := Try.zeroValue0
  t3 := Try.underlying3
  a3 := Try.isAgg3
  z3 := Try.sizeOf3
  v3 := Try.zeroValue3
  t4 := Try.underlying4
  a4 := Try.isAgg4
  z4 := Try.sizeOf4
  v4 := Try.zeroValue4
  t22 := Try.underlying23
  a22 := Try.isAgg23
  z22 := Try.sizeOf23
  v22 := Try.zeroValue23
  a24 := Try.isAgg3
  z24 := Try.sizeOf3
  t25 := Try.underlying46
  a25 := Try.isAgg46
  z25 := Try.sizeOf46
  v25 := Try.zeroValue46 }
open Go.RowKit Go.Lib Go.Sort in
/-- slices.heapSortCmpFunc at elements of one cell. (LAID AT THE INSTANCE 'slices.heapSortCmpFunc[int]': no walk: one application.) -/
theorem Try.heapSortCmpFunc {α : Type} [Inhabited α] (enc : α → Value) (cf : α → α → Int) (g : Nat) (cb : Array Value) (blk off cap a b : Nat) (d0 d : Array α) (w0 w : World) (eg : ∀ args w, (callFunc g args).run Try.prog w = .ok (.enter g args) w) (hcmp : CmpLays1 Try.prog g cb enc cf blk off d0.size w0) (R : Row1 enc w0 blk off d0) (hs : d0.size = d.size) (S : SW enc w0 blk off d w) (hab : a ≤ b) (hb : b ≤ d.size) (hsz : d.size < 4611686018427387904) :
    Calls Try.prog 43 #[.slice (some ⟨blk, off, none⟩) d.size cap, .int .i64 a, .int .i64 b, .func (.func g) #[] cb] w fun e w' =>
      e = .returned (.tuple #[]) ∧ SW enc w0 blk off (heapSort (ltOf cf) d a b) w' := Any.heapSortCmpFunc Try.laysSlF21_f43 enc cf g cb blk off cap a b d0 d w0 w eg hcmp R hs S hab hb hsz
open Go.RowKit Go.Lib Go.Sort in
/-- slices.insertionSortCmpFunc at elements of one cell: from a world of the sort's to a world of the sort's. (LAID AT THE INSTANCE 'slices.insertionSortCmpFunc[int]': no walk: one application.) -/
theorem Try.insertionSortCmpFunc_s {α : Type} [Inhabited α] (enc : α → Value) (cf : α → α → Int) (g : Nat) (cb : Array Value) (blk off cap a b : Nat) (d0 d : Array α) (w0 w : World) (eg : ∀ args w, (callFunc g args).run Try.prog w = .ok (.enter g args) w) (hcmp : CmpLays1 Try.prog g cb enc cf blk off d0.size w0) (R : Row1 enc w0 blk off d0) (hs : d0.size = d.size) (S : SW enc w0 blk off d w) (hab : a ≤ b) (hb : b ≤ d.size) (hsz : d.size < 4611686018427387904) :
    Calls Try.prog 42 #[.slice (some ⟨blk, off, none⟩) d.size cap, .int .i64 a, .int .i64 b, .func (.func g) #[] cb] w fun e w' => e = .returned (.tuple #[]) ∧ SW enc w0 blk off (Sort.insertionSort (ltOf cf) d a b) w' := Any.insertionSortCmpFunc_s Try.laysSlF20_f42 enc cf g cb blk off cap a b d0 d w0 w eg hcmp R hs S hab hb hsz
def Try.laysSlF57_f59_ren : Go.Shelf.Ren := ⟨fun | 57 => 59 | n => n, fun | 24 => 3 | 22 => 23 | 3 => 3 | 70 => 82 | 25 => 46 | 0 => 0 | 4 => 4 | n => n, fun | n => n⟩
theorem Try.laysSlF57_f59 : Go.Proofs.SlLaysF.n57 Try.prog Try.laysSlF57_f59_ren := {
  mixed := by kernel_rfl
  f57 := ⟨Try.f59.name, by decide, Try.func59.trans (congrArg some (by kernel_rfl))⟩
  t0 := Try.underlying0
  a0 := Try.isAgg0
  z0 := Try.sizeOf0
  v0 := Try.zeroValue0
  t3 := Try.underlying3
  a3 := Try.isAgg3
  z3 := Try.sizeOf3
  v3 := Try.zeroValue3
  t4 := Try.underlying4
  a4 := Try.isAgg4
  z4 := Try.sizeOf4
  v4 := Try.zeroValue4
  t22 := Try.underlying23
  a22 := Try.isAgg23
  z22 := Try.sizeOf23
  v22 := Try.zeroValue23
  a24 := Try.isAgg3
  z24 := Try.sizeOf3
  t25 := Try.underlying46
  a25 := Try.isAgg46
  z25 := Try.sizeOf46
  v25 := Try.zeroValue46
  t70 := Try.underlying82
  a70 := Try.isAgg82
  z70 := Try.sizeOf82
  v70 := Try.zeroValue82 }
open Go.RowKit Go.Lib Go.Sort in
/-- slices.order2CmpFunc at elements of one cell. (LAID AT THE INSTANCE 'slices.order2CmpFunc[int]': no walk: one application.) -/
theorem Try.order2CmpFunc {α : Type} [Inhabited α] (enc : α → Value) (cf : α → α → Int) (g : Nat) (cb : Array Value) (blk off cap a b c s : Nat) (d0 d : Array α) (w0 W : World) (eg : ∀ args w, (callFunc g args).run Try.prog w = .ok (.enter g args) w) (hcmp : CmpLays1 Try.prog g cb enc cf blk off d0.size w0) (R : Row1 enc w0 blk off d0) (hs : d0.size = d.size) (C : Cnt1 enc w0 blk off d c s W) (ha : a < d.size) (hb : b < d.size) (hsz : d.size < 4611686018427387904) (hss : s < 4611686018427387904) :
    Calls Try.prog 59 #[.slice (some ⟨blk, off, none⟩) d.size cap, .int .i64 a, .int .i64 b, .pointer (some ⟨c, 0, none⟩), .func (.func g) #[] cb] W fun e w' =>
      e = .returned (.tuple #[.int .i64 (order2 (ltOf cf) d a b s).1, .int .i64 (order2 (ltOf cf) d a b s).2.1]) ∧ Cnt1 enc w0 blk off d c (order2 (ltOf cf) d a b s).2.2 w' := Any.order2CmpFunc Try.laysSlF57_f59 enc cf g cb blk off cap a b c s d0 d w0 W eg hcmp R hs C ha hb hsz hss
def Try.laysSlF50_f57_ren : Go.Shelf.Ren := ⟨fun | 50 => 57 | 57 => 59 | n => n, fun | 24 => 3 | 22 => 23 | 3 => 3 | 70 => 82 | 25 => 46 | 77 => 85 | 0 => 0 | 4 => 4 | n => n, fun | n => n⟩
theorem Try.laysSlF50_f57 : Go.Proofs.SlLaysF.n50 Try.prog Try.laysSlF50_f57_ren := {
  mixed := by kernel_rfl
  f50 := ⟨Try.f57.name, by decide, Try.func57.trans (congrArg some (by kernel_rfl))⟩
  f57 := ⟨Try.f59.name, by decide, Try.func59.trans (congrArg some (by kernel_rfl))⟩
  t0 := Try.underlying0
  a0 := Try.isAgg0
  z0 := Try.sizeOf0
  v0 := Try.zeroValue0
  t3 := Try.underlying3
  a3 := Try.isAgg3
  z3 := Try.sizeOf3
  v3 := Try.zeroValue3
  t4 := Try.underlying4
  a4 := Try.isAgg4
  z4 := Try.sizeOf4
  v4 := Try.zeroValue4
  t22 := Try.underlying23
  a22 := Try.isAgg23
  z22 := Try.sizeOf23
  v22 := Try.zeroValue23
  a24 := Try.isAgg3
  z24 := Try.sizeOf3
  t25 := Try.underlying46
  a25 := Try.isAgg46
  z25 := Try.sizeOf46
  v25 := Try.zeroValue46
  t70 := Try.underlying82
  a70 := Try.isAgg82
  z70 := Try.sizeOf82
  v70 := Try.zeroValue82
  t77 := Try.underlying85
  a77 := Try.isAgg85
  z77 := Try.sizeOf85
  v77 := Try.zeroValue85 }
open Go.RowKit Go.Lib Go.Sort in
/-- slices.medianCmpFunc at elements of one cell. (LAID AT THE INSTANCE 'slices.medianCmpFunc[int]': no walk: one application.) -/
theorem Try.medianCmpFunc {α : Type} [Inhabited α] (enc : α → Value) (cf : α → α → Int) (g : Nat) (cb : Array Value) (blk off cap a b c' c s : Nat) (d0 d : Array α) (w0 W : World) (eg : ∀ args w, (callFunc g args).run Try.prog w = .ok (.enter g args) w) (hcmp : CmpLays1 Try.prog g cb enc cf blk off d0.size w0) (R : Row1 enc w0 blk off d0) (hs : d0.size = d.size) (C : Cnt1 enc w0 blk off d c s W) (ha : a < d.size) (hb : b < d.size) (hc : c' < d.size) (hsz : d.size < 4611686018427387904) (hss : s + 3 < 4611686018427387904) :
    Calls Try.prog 57 #[.slice (some ⟨blk, off, none⟩) d.size cap, .int .i64 a, .int .i64 b, .int .i64 c', .pointer (some ⟨c, 0, none⟩), .func (.func g) #[] cb] W fun e w' =>
      e = .returned (.int .i64 (median (ltOf cf) d a b c' s).1) ∧ Cnt1 enc w0 blk off d c (median (ltOf cf) d a b c' s).2 w' := Any.medianCmpFunc Try.laysSlF50_f57 enc cf g cb blk off cap a b c' c s d0 d w0 W eg hcmp R hs C ha hb hc hsz hss
def Try.laysSlF49_f56_ren : Go.Shelf.Ren := ⟨fun | 49 => 56 | 50 => 57 | 57 => 59 | n => n, fun | 24 => 3 | 22 => 23 | 3 => 3 | 70 => 82 | 25 => 46 | 77 => 85 | 0 => 0 | 4 => 4 | n => n, fun | n => n⟩
theorem Try.laysSlF49_f56 : Go.Proofs.SlLaysF.n49 Try.prog Try.laysSlF49_f56_ren := {
  mixed := by kernel_rfl
  f49 := ⟨Try.f56.name, by decide, Try.func56.trans (congrArg some (by kernel_rfl))⟩
  f50 := ⟨Try.f57.name, by decide, Try.func57.trans (congrArg some (by kernel_rfl))⟩
  f57 := ⟨Try.f59.name, by decide, Try.func59.trans (congrArg some (by kernel_rfl))⟩
  t0 := Try.underlying0
  a0 := Try.isAgg0
  z0 := Try.sizeOf0
  v0 := Try.zeroValue0
  t3 := Try.underlying3
  a3 := Try.isAgg3
  z3 := Try.sizeOf3
  v3 := Try.zeroValue3
  t4 := Try.underlying4
  a4 := Try.isAgg4
  z4 := Try.sizeOf4
  v4 := Try.zeroValue4
  t22 := Try.underlying23
  a22 := Try.isAgg23
  z22 := Try.sizeOf23
  v22 := Try.zeroValue23
  a24 := Try.isAgg3
  z24 := Try.sizeOf3
  t25 := Try.underlying46
  a25 := Try.isAgg46
  z25 := Try.sizeOf46
  v25 := Try.zeroValue46
  t70 := Try.underlying82
  a70 := Try.isAgg82
  z70 := Try.sizeOf82
  v70 := Try.zeroValue82
  t77 := Try.underlying85
  a77 := Try.isAgg85
  z77 := Try.sizeOf85
  v77 := Try.zeroValue85 }
open Go.RowKit Go.Lib Go.Sort in
/-- slices.medianAdjacentCmpFunc at elements of one cell. (LAID AT THE INSTANCE 'slices.medianAdjacentCmpFunc[int]': no walk: one application.) -/
theorem Try.medianAdjacentCmpFunc {α : Type} [Inhabited α] (enc : α → Value) (cf : α → α → Int) (g : Nat) (cb : Array Value) (blk off cap a c s : Nat) (d0 d : Array α) (w0 W : World) (eg : ∀ args w, (callFunc g args).run Try.prog w = .ok (.enter g args) w) (hcmp : CmpLays1 Try.prog g cb enc cf blk off d0.size w0) (R : Row1 enc w0 blk off d0) (hs : d0.size = d.size) (C : Cnt1 enc w0 blk off d c s W) (ha1 : 1 ≤ a) (ha2 : a + 1 < d.size) (hsz : d.size < 4611686018427387904) (hss : s + 3 < 4611686018427387904) :
    Calls Try.prog 56 #[.slice (some ⟨blk, off, none⟩) d.size cap, .int .i64 a, .pointer (some ⟨c, 0, none⟩), .func (.func g) #[] cb] W fun e w' =>
      e = .returned (.int .i64 (medianAdjacent (ltOf cf) d a s).1) ∧ Cnt1 enc w0 blk off d c (medianAdjacent (ltOf cf) d a s).2 w' := Any.medianAdjacentCmpFunc Try.laysSlF49_f56 enc cf g cb blk off cap a c s d0 d w0 W eg hcmp R hs C ha1 ha2 hsz hss
def Try.laysSlF23_f45_ren : Go.Shelf.Ren := ⟨fun | 23 => 45 | 49 => 56 | 50 => 57 | 57 => 59 | n => n, fun | 24 => 3 | 22 => 23 | 3 => 3 | 25 => 46 | 45 => 67 | 0 => 0 | 4 => 4 | 70 => 82 | 77 => 85 | n => n, fun | n => n⟩
theorem Try.laysSlF23_f45 : Go.Proofs.SlLaysF.n23 Try.prog Try.laysSlF23_f45_ren := {
  mixed := by kernel_rfl
  f23 := ⟨Try.f45.name, by decide, Try.func45.trans (congrArg some (by kernel_rfl))⟩
  f49 := ⟨Try.f56.name, by decide, Try.func56.trans (congrArg some (by kernel_rfl))⟩
  f50 := ⟨Try.f57.name, by decide, Try.func57.trans (congrArg some (by kernel_rfl))⟩
  f57 := ⟨Try.f59.name, by decide, Try.func59.trans (congrArg some (by kernel_rfl))⟩
  t0 := Try.underlying0
  a0 := Try.isAgg0
  z0 := Try.sizeOf0
  v0 := Try.zeroValue0
  t3 := Try.underlying3
  a3 := Try.isAgg3
  z3 := Try.sizeOf3
  v3 := Try.zeroValue3
  t4 := Try.underlying4
  a4 := Try.isAgg4
  z4 := Try.sizeOf4
  v4 := Try.zeroValue4
  t22 := Try.underlying23
  a22 := Try.isAgg23
  z22 := Try.sizeOf23
  v22 := Try.zeroValue23
  a24 := Try.isAgg3
  z24 := Try.sizeOf3
  t25 := Try.underlying46
  a25 := Try.isAgg46
  z25 := Try.sizeOf46
  v25 := Try.zeroValue46
  t45 := Try.underlying67
  a45 := Try.isAgg67
  z45 := Try.sizeOf67
  v45 := Try.zeroValue67
  t70 := Try.underlying82
  a70 := Try.isAgg82
  z70 := Try.sizeOf82
  v70 := Try.zeroValue82
  t77 := Try.underlying85
  a77 := Try.isAgg85
  z77 := Try.sizeOf85
  v77 := Try.zeroValue85 }
open Go.RowKit Go.Lib Go.Sort in
/-- slices.choosePivotCmpFunc at elements of one cell: THE LIBRARY's OWN TEXT COMPUTES 'Sort.choosePivot (ltOf cf) d a b'; the row is not turned. (After Derived/Shelf/SlSortFuncK/PivotK.lean, row for row; the counter's world by 'CntK'.) (LAID AT THE INSTANCE 'slices.choosePivotCmpFunc[int]': no walk: one application.) -/
theorem Try.choosePivotCmpFunc {α : Type} [Inhabited α] (enc : α → Value) (cf : α → α → Int) (g : Nat) (cb : Array Value) (blk off cap a b : Nat) (d0 d : Array α) (w0 W : World) (eg : ∀ args w, (callFunc g args).run Try.prog w = .ok (.enter g args) w) (hcmp : CmpLays1 Try.prog g cb enc cf blk off d0.size w0) (R : Row1 enc w0 blk off d0) (hs : d0.size = d.size) (S : SW enc w0 blk off d W) (hab : a < b) (hb : b ≤ d.size) (hsz : d.size < 4611686018427387904) :
    Calls Try.prog 45 #[.slice (some ⟨blk, off, none⟩) d.size cap, .int .i64 a, .int .i64 b, .func (.func g) #[] cb] W fun e w' =>
      e = .returned (.tuple #[.int .i64 (choosePivot (ltOf cf) d a b).1, .int .i64 (hintCode (choosePivot (ltOf cf) d a b).2)]) ∧ SW enc w0 blk off d w' := Any.choosePivotCmpFunc Try.laysSlF23_f45 enc cf g cb blk off cap a b d0 d w0 W eg hcmp R hs S hab hb hsz
def Try.laysSlF24_f46_ren : Go.Shelf.Ren := ⟨fun | 24 => 46 | n => n, fun | 24 => 3 | 22 => 23 | 3 => 3 | 25 => 46 | 4 => 4 | 0 => 0 | n => n, fun | n => n⟩
theorem Try.laysSlF24_f46 : Go.Proofs.SlLaysF.n24 Try.prog Try.laysSlF24_f46_ren := {
  mixed := by kernel_rfl
  f24 := ⟨Try.f46.name, by decide, Try.func46.trans (congrArg some (by kernel_rfl))⟩
  t0 := Try.underlying0
  a0 := Try.isAgg0
  z0 := Try.sizeOf0
  v0 := Try.zeroValue0
  t3 := Try.underlying3
  a3 := Try.isAgg3
  z3 := Try.sizeOf3
  v3 := Try.zeroValue3
  t4 := Try.underlying4
  a4 := Try.isAgg4
  z4 := Try.sizeOf4
  v4 := Try.zeroValue4
  t22 := Try.underlying23
  a22 := Try.isAgg23
  z22 := Try.sizeOf23
  v22 := Try.zeroValue23
  a24 := Try.isAgg3
  z24 := Try.sizeOf3
  t25 := Try.underlying46
  a25 := Try.isAgg46
  z25 := Try.sizeOf46
  v25 := Try.zeroValue46 }
open Go.RowKit Go.Lib Go.Sort in
/-- slices.reverseRangeCmpFunc at elements of one cell: it exchanges and does not compare. (LAID AT THE INSTANCE 'slices.reverseRangeCmpFunc[int]': no walk: one application.) -/
theorem Try.reverseRangeCmpFunc {α : Type} [Inhabited α] (enc : α → Value) (g : Nat) (cb : Array Value) (blk off cap a b : Nat) (d0 d : Array α) (w0 w : World) (R : Row1 enc w0 blk off d0) (hs : d0.size = d.size) (S : SW enc w0 blk off d w) (hab : a ≤ b) (hb : b ≤ d.size) (hsz : d.size < 4611686018427387904) :
    Calls Try.prog 46 #[.slice (some ⟨blk, off, none⟩) d.size cap, .int .i64 a, .int .i64 b, .func (.func g) #[] cb] w fun e w' => e = .returned (.tuple #[]) ∧ SW enc w0 blk off (reverseRange d a b) w' := Any.reverseRangeCmpFunc Try.laysSlF24_f46 enc g cb blk off cap a b d0 d w0 w R hs S hab hb hsz
def Try.laysSlF25_f47_ren : Go.Shelf.Ren := ⟨fun | 25 => 47 | n => n, fun | 24 => 3 | 22 => 23 | 3 => 3 | 25 => 46 | 4 => 4 | 0 => 0 | n => n, fun | n => n⟩
theorem Try.laysSlF25_f47 : Go.Proofs.SlLaysF.n25 Try.prog Try.laysSlF25_f47_ren := {
  mixed := by kernel_rfl
  f25 := ⟨Try.f47.name, by decide, Try.func47.trans (congrArg some (by kernel_rfl))⟩
  t0 := Try.underlying0
  a0 := Try.isAgg0
  z0 := Try.sizeOf0
  v0 := Try.zeroValue0
  t3 := Try.underlying3
  a3 := Try.isAgg3
  z3 := Try.sizeOf3
  v3 := Try.zeroValue3
  t4 := Try.underlying4
  a4 := Try.isAgg4
  z4 := Try.sizeOf4
  v4 := Try.zeroValue4
  t22 := Try.underlying23
  a22 := Try.isAgg23
  z22 := Try.sizeOf23
  v22 := Try.zeroValue23
  a24 := Try.isAgg3
  z24 := Try.sizeOf3
  t25 := Try.underlying46
  a25 := Try.isAgg46
  z25 := Try.sizeOf46
  v25 := Try.zeroValue46 }
open Go.RowKit Go.Lib Go.Sort in
/-- slices.partialInsertionSortCmpFunc at elements of one cell. (LAID AT THE INSTANCE 'slices.partialInsertionSortCmpFunc[int]': no walk: one application.) -/
theorem Try.partialInsertionSortCmpFunc {α : Type} [Inhabited α] (enc : α → Value) (cf : α → α → Int) (g : Nat) (cb : Array Value) (blk off cap a b : Nat) (d0 d : Array α) (w0 w : World) (eg : ∀ args w, (callFunc g args).run Try.prog w = .ok (.enter g args) w) (hcmp : CmpLays1 Try.prog g cb enc cf blk off d0.size w0) (R : Row1 enc w0 blk off d0) (hs : d0.size = d.size) (S : SW enc w0 blk off d w) (hab : a < b) (hb : b ≤ d.size) (hsz : d.size < 4611686018427387904) :
    Calls Try.prog 47 #[.slice (some ⟨blk, off, none⟩) d.size cap, .int .i64 a, .int .i64 b, .func (.func g) #[] cb] w fun e w' =>
      e = .returned (.bool (Sort.partialInsertionSort (ltOf cf) d a b).2) ∧ SW enc w0 blk off (Sort.partialInsertionSort (ltOf cf) d a b).1 w' := Any.partialInsertionSortCmpFunc Try.laysSlF25_f47 enc cf g cb blk off cap a b d0 d w0 w eg hcmp R hs S hab hb hsz
def Try.laysSlF26_f48_ren : Go.Shelf.Ren := ⟨fun | 26 => 48 | n => n, fun | 24 => 3 | 22 => 23 | 3 => 3 | 25 => 46 | 0 => 0 | 4 => 4 | n => n, fun | n => n⟩
theorem Try.laysSlF26_f48 : Go.Proofs.SlLaysF.n26 Try.prog Try.laysSlF26_f48_ren := {
  mixed := by kernel_rfl
  f26 := ⟨Try.f48.name, by decide, Try.func48.trans (congrArg some (by kernel_rfl))⟩
  t0 := Try.underlying0
  a0 := Try.isAgg0
  z0 := Try.sizeOf0
  v0 := Try.zeroValue0
  t3 := Try.underlying3
  a3 := Try.isAgg3
  z3 := Try.sizeOf3
  v3 := Try.zeroValue3
  t4 := Try.underlying4
  a4 := Try.isAgg4
  z4 := Try.sizeOf4
  v4 := Try.zeroValue4
  t22 := Try.underlying23
  a22 := Try.isAgg23
  z22 := Try.sizeOf23
  v22 := Try.zeroValue23
  a24 := Try.isAgg3
  z24 := Try.sizeOf3
  t25 := Try.underlying46
  a25 := Try.isAgg46
  z25 := Try.sizeOf46
  v25 := Try.zeroValue46 }
open Go.RowKit Go.Lib Go.Sort in
/-- slices.partitionEqualCmpFunc at elements of one cell. (After Derived/Shelf/SlSortFuncK/PartitionK.lean, row for row.) (LAID AT THE INSTANCE 'slices.partitionEqualCmpFunc[int]': no walk: one application.) -/
theorem Try.partitionEqualCmpFunc {α : Type} [Inhabited α] (enc : α → Value) (cf : α → α → Int) (g : Nat) (cb : Array Value) (blk off cap a b pivot : Nat) (d0 d : Array α) (w0 w : World) (eg : ∀ args w, (callFunc g args).run Try.prog w = .ok (.enter g args) w) (hcmp : CmpLays1 Try.prog g cb enc cf blk off d0.size w0) (R : Row1 enc w0 blk off d0) (hs : d0.size = d.size) (S : SW enc w0 blk off d w) (hap : a ≤ pivot) (hpb : pivot < b) (hb : b ≤ d.size) (hsz : d.size < 4611686018427387904) :
    Calls Try.prog 48 #[.slice (some ⟨blk, off, none⟩) d.size cap, .int .i64 a, .int .i64 b, .int .i64 pivot, .func (.func g) #[] cb] w fun e w' =>
      e = .returned (.int .i64 (Sort.partitionEqual (ltOf cf) d a b pivot).1) ∧ SW enc w0 blk off (Sort.partitionEqual (ltOf cf) d a b pivot).2 w' := Any.partitionEqualCmpFunc Try.laysSlF26_f48 enc cf g cb blk off cap a b pivot d0 d w0 w eg hcmp R hs S hap hpb hb hsz
def Try.laysSlF27_f49_ren : Go.Shelf.Ren := ⟨fun | 27 => 49 | n => n, fun | 24 => 3 | 22 => 23 | 3 => 3 | 25 => 46 | 4 => 4 | 0 => 0 | n => n, fun | n => n⟩
theorem Try.laysSlF27_f49 : Go.Proofs.SlLaysF.n27 Try.prog Try.laysSlF27_f49_ren := {
  mixed := by kernel_rfl
  f27 := ⟨Try.f49.name, by decide, Try.func49.trans (congrArg some (by kernel_rfl))⟩
  t0 := Try.underlying0
  a0 := Try.isAgg0
  z0 := Try.sizeOf0
  v0 := Try.zeroValue0
  t3 := Try.underlying3
  a3 := Try.isAgg3
  z3 := Try.sizeOf3
  v3 := Try.zeroValue3
  t4 := Try.underlying4
  a4 := Try.isAgg4
  z4 := Try.sizeOf4
  v4 := Try.zeroValue4
  t22 := Try.underlying23
  a22 := Try.isAgg23
  z22 := Try.sizeOf23
  v22 := Try.zeroValue23
  a24 := Try.isAgg3
  z24 := Try.sizeOf3
  t25 := Try.underlying46
  a25 := Try.isAgg46
  z25 := Try.sizeOf46
  v25 := Try.zeroValue46 }
open Go.RowKit Go.Lib Go.Sort in
/-- slices.partitionCmpFunc at elements of one cell. (After Derived/Shelf/SlSortFuncK/PartitionK.lean, row for row.) (LAID AT THE INSTANCE 'slices.partitionCmpFunc[int]': no walk: one application.) -/
theorem Try.partitionCmpFunc {α : Type} [Inhabited α] (enc : α → Value) (cf : α → α → Int) (g : Nat) (cb : Array Value) (blk off cap a b pivot : Nat) (d0 d : Array α) (w0 w : World) (eg : ∀ args w, (callFunc g args).run Try.prog w = .ok (.enter g args) w) (hcmp : CmpLays1 Try.prog g cb enc cf blk off d0.size w0) (R : Row1 enc w0 blk off d0) (hs : d0.size = d.size) (S : SW enc w0 blk off d w) (hap : a ≤ pivot) (hpb : pivot < b) (hb : b ≤ d.size) (hsz : d.size < 4611686018427387904) :
    Calls Try.prog 49 #[.slice (some ⟨blk, off, none⟩) d.size cap, .int .i64 a, .int .i64 b, .int .i64 pivot, .func (.func g) #[] cb] w fun e w' =>
      e = .returned (.tuple #[.int .i64 (Sort.partition (ltOf cf) d a b pivot).1, .bool (Sort.partition (ltOf cf) d a b pivot).2.1]) ∧ SW enc w0 blk off (Sort.partition (ltOf cf) d a b pivot).2.2 w' := Any.partitionCmpFunc Try.laysSlF27_f49 enc cf g cb blk off cap a b pivot d0 d w0 w eg hcmp R hs S hap hpb hb hsz
def Try.laysSlF14_f39_ren : Go.Shelf.Ren := ⟨fun | 14 => 39 | 20 => 42 | 21 => 43 | 22 => 44 | 23 => 45 | 24 => 46 | 25 => 47 | 26 => 48 | 27 => 49 | 46 => 53 | 47 => 54 | 48 => 55 | 49 => 56 | 50 => 57 | 15 => 40 | 57 => 59 | 28 => 50 | 29 => 51 | n => n, fun | 24 => 3 | 22 => 23 | 3 => 3 | 25 => 46 | 4 => 4 | 0 => 0 | 46 => 68 | 45 => 67 | 50 => 72 | 66 => 78 | 39 => 64 | 55 => 77 | 70 => 82 | 76 => 84 | 77 => 85 | 53 => 75 | 5 => 5 | 9 => 9 | n => n, fun | n => n⟩
theorem Try.laysSlF14_f39 : Go.Proofs.SlLaysF.n14 Try.prog Try.laysSlF14_f39_ren := {
  mixed := by kernel_rfl
  f14 := ⟨Try.f39.name, by decide, Try.func39.trans (congrArg some (by kernel_rfl))⟩
  f15 := Try.func40.trans (congrArg some (by kernel_rfl))
  f20 := ⟨Try.f42.name, by decide, Try.func42.trans (congrArg some (by kernel_rfl))⟩
  f21 := ⟨Try.f43.name, by decide, Try.func43.trans (congrArg some (by kernel_rfl))⟩
  f22 := ⟨Try.f44.name, by decide, Try.func44.trans (congrArg some (by kernel_rfl))⟩
  f23 := ⟨Try.f45.name, by decide, Try.func45.trans (congrArg some (by kernel_rfl))⟩
  f24 := ⟨Try.f46.name, by decide, Try.func46.trans (congrArg some (by kernel_rfl))⟩
  f25 := ⟨Try.f47.name, by decide, Try.func47.trans (congrArg some (by kernel_rfl))⟩
  f26 := ⟨Try.f48.name, by decide, Try.func48.trans (congrArg some (by kernel_rfl))⟩
  f27 := ⟨Try.f49.name, by decide, Try.func49.trans (congrArg some (by kernel_rfl))⟩
  f28 := Try.func50.trans (congrArg some (by kernel_rfl))
  f29 := Try.func51.trans (congrArg some (by kernel_rfl))
  f46 := ⟨Try.f53.name, by decide, Try.func53.trans (congrArg some (by kernel_rfl))⟩
  f47 := Try.func54.trans (congrArg some (by kernel_rfl))
  f48 := Try.func55.trans (congrArg some (by kernel_rfl))
  f49 := ⟨Try.f56.name, by decide, Try.func56.trans (congrArg some (by kernel_rfl))⟩
  f50 := ⟨Try.f57.name, by decide, Try.func57.trans (congrArg some (by kernel_rfl))⟩
  f57 := ⟨Try.f59.name, by decide, Try.func59.trans (congrArg some (by kernel_rfl))⟩
  t0 := Try.underlying0
  a0 := Try.isAgg0
  z0 := Try.sizeOf0
  v0 := Try.zeroValue0
  t3 := Try.underlying3
  a3 := Try.isAgg3
  z3 := Try.sizeOf3
  v3 := Try.zeroValue3
  t4 := Try.underlying4
  a4 := Try.isAgg4
  z4 := Try.sizeOf4
  v4 := Try.zeroValue4
  t5 := Try.underlying5
  a5 := Try.isAgg5
  z5 := Try.sizeOf5
  v5 := Try.zeroValue5
  t9 := Try.underlying9
  a9 := Try.isAgg9
  z9 := Try.sizeOf9
  v9 := Try.zeroValue9
  t22 := Try.underlying23
  a22 := Try.isAgg23
  z22 := Try.sizeOf23
  v22 := Try.zeroValue23
  a24 := Try.isAgg3
  z24 := Try.sizeOf3
  t25 := Try.underlying46
  a25 := Try.isAgg46
  z25 := Try.sizeOf46
  v25 := Try.zeroValue46
  t39 := Try.underlying64
  a39 := Try.isAgg64
  z39 := Try.sizeOf64
  v39 := Try.zeroValue64
  t45 := Try.underlying67
  a45 := Try.isAgg67
  z45 := Try.sizeOf67
  v45 := Try.zeroValue67
  t46 := Try.underlying68
  a46 := Try.isAgg68
  z46 := Try.sizeOf68
  v46 := Try.zeroValue68
  t50 := Try.underlying72
  a50 := Try.isAgg72
  z50 := Try.sizeOf72
  v50 := Try.zeroValue72
  t53 := Try.underlying75
  a53 := Try.isAgg75
  z53 := Try.sizeOf75
  v53 := Try.zeroValue75
  t55 := Try.underlying77
  a55 := Try.isAgg77
  z55 := Try.sizeOf77
  v55 := Try.zeroValue77
  t66 := Try.underlying78
  a66 := Try.isAgg78
  z66 := Try.sizeOf78
  v66 := Try.zeroValue78
  t70 := Try.underlying82
  a70 := Try.isAgg82
  z70 := Try.sizeOf82
  v70 := Try.zeroValue82
  t76 := Try.underlying84
  a76 := Try.isAgg84
  z76 := Try.sizeOf84
  v76 := Try.zeroValue84
  t77 := Try.underlying85
  a77 := Try.isAgg85
  z77 := Try.sizeOf85
  v77 := Try.zeroValue85 }
open Go.RowKit Go.Lib Go.Sort in
/-- slices.pdqsortCmpFunc at elements of one cell, WHOLE. (After Derived/Shelf/SlSortFuncK/PdqK.lean, row for row: the slots and the regions' numbers are this body's.) (LAID AT THE INSTANCE 'slices.pdqsortCmpFunc[int]': no walk: one application.) -/
theorem Try.pdqsortCmpFunc_all {α : Type} [Inhabited α] (enc : α → Value) (cf : α → α → Int) (g : Nat) (cb : Array Value) (hO : SWO (ltOf cf)) (blk off cap : Nat) (d0 : Array α) (w0 : World) (eg : ∀ args w, (callFunc g args).run Try.prog w = .ok (.enter g args) w) (hcmp : CmpLays1 Try.prog g cb enc cf blk off d0.size w0) (R : Row1 enc w0 blk off d0) :
    ∀ (N a b limit : Nat) (d : Array α) (w : World), b - a < N → d0.size = d.size → SW enc w0 blk off d w → a ≤ b → b ≤ d.size → d.size < 4611686018427387904 → limit < 4611686018427387904 → Below (ltOf cf) a b d →
    Calls Try.prog 39 #[.slice (some ⟨blk, off, none⟩) d.size cap, .int .i64 a, .int .i64 b, .int .i64 limit, .func (.func g) #[] cb] w fun e w' => e = .returned (.tuple #[]) ∧ SW enc w0 blk off (pdq (ltOf cf) d a b limit true true) w' := Any.pdqsortCmpFunc_all Try.laysSlF14_f39 enc cf g cb hO blk off cap d0 w0 eg hcmp R
def Try.laysSlF6_f32_ren : Go.Shelf.Ren := ⟨fun | 6 => 32 | 15 => 40 | 14 => 39 | 28 => 50 | 29 => 51 | 20 => 42 | 21 => 43 | 22 => 44 | 23 => 45 | 24 => 46 | 25 => 47 | 26 => 48 | 27 => 49 | 46 => 53 | 47 => 54 | 48 => 55 | 49 => 56 | 50 => 57 | 57 => 59 | n => n, fun | 22 => 23 | 24 => 3 | 25 => 46 | 3 => 3 | 39 => 64 | 0 => 0 | 53 => 75 | 55 => 77 | 4 => 4 | 46 => 68 | 45 => 67 | 50 => 72 | 5 => 5 | 9 => 9 | 66 => 78 | 70 => 82 | 76 => 84 | 77 => 85 | n => n, fun | n => n⟩
theorem Try.laysSlF6_f32 : Go.Proofs.SlLaysF.n6 Try.prog Try.laysSlF6_f32_ren := {
  mixed := by kernel_rfl
  f6 := ⟨Try.f32.name, by decide, Try.func32.trans (congrArg some (by kernel_rfl))⟩
  f14 := ⟨Try.f39.name, by decide, Try.func39.trans (congrArg some (by kernel_rfl))⟩
  f15 := Try.func40.trans (congrArg some (by kernel_rfl))
  f20 := ⟨Try.f42.name, by decide, Try.func42.trans (congrArg some (by kernel_rfl))⟩
  f21 := ⟨Try.f43.name, by decide, Try.func43.trans (congrArg some (by kernel_rfl))⟩
  f22 := ⟨Try.f44.name, by decide, Try.func44.trans (congrArg some (by kernel_rfl))⟩
  f23 := ⟨Try.f45.name, by decide, Try.func45.trans (congrArg some (by kernel_rfl))⟩
  f24 := ⟨Try.f46.name, by decide, Try.func46.trans (congrArg some (by kernel_rfl))⟩
  f25 := ⟨Try.f47.name, by decide, Try.func47.trans (congrArg some (by kernel_rfl))⟩
  f26 := ⟨Try.f48.name, by decide, Try.func48.trans (congrArg some (by kernel_rfl))⟩
  f27 := ⟨Try.f49.name, by decide, Try.func49.trans (congrArg some (by kernel_rfl))⟩
  f28 := Try.func50.trans (congrArg some (by kernel_rfl))
  f29 := Try.func51.trans (congrArg some (by kernel_rfl))
  f46 := ⟨Try.f53.name, by decide, Try.func53.trans (congrArg some (by kernel_rfl))⟩
  f47 := Try.func54.trans (congrArg some (by kernel_rfl))
  f48 := Try.func55.trans (congrArg some (by kernel_rfl))
  f49 := ⟨Try.f56.name, by decide, Try.func56.trans (congrArg some (by kernel_rfl))⟩
  f50 := ⟨Try.f57.name, by decide, Try.func57.trans (congrArg some (by kernel_rfl))⟩
  f57 := ⟨Try.f59.name, by decide, Try.func59.trans (congrArg some (by kernel_rfl))⟩
  t0 := Try.underlying0
  a0 := Try.isAgg0
  z0 := Try.sizeOf0
  v0 := Try.zeroValue0
  t3 := Try.underlying3
  a3 := Try.isAgg3
  z3 := Try.sizeOf3
  v3 := Try.zeroValue3
  t4 := Try.underlying4
  a4 := Try.isAgg4
  z4 := Try.sizeOf4
  v4 := Try.zeroValue4
  t5 := Try.underlying5
  a5 := Try.isAgg5
  z5 := Try.sizeOf5
  v5 := Try.zeroValue5
  t9 := Try.underlying9
  a9 := Try.isAgg9
  z9 := Try.sizeOf9
  v9 := Try.zeroValue9
  t22 := Try.underlying23
  a22 := Try.isAgg23
  z22 := Try.sizeOf23
  v22 := Try.zeroValue23
  a24 := Try.isAgg3
  z24 := Try.sizeOf3
  t25 := Try.underlying46
  a25 := Try.isAgg46
  z25 := Try.sizeOf46
  v25 := Try.zeroValue46
  t39 := Try.underlying64
  a39 := Try.isAgg64
  z39 := Try.sizeOf64
  v39 := Try.zeroValue64
  t45 := Try.underlying67
  a45 := Try.isAgg67
  z45 := Try.sizeOf67
  v45 := Try.zeroValue67
  t46 := Try.underlying68
  a46 := Try.isAgg68
  z46 := Try.sizeOf68
  v46 := Try.zeroValue68
  t50 := Try.underlying72
  a50 := Try.isAgg72
  z50 := Try.sizeOf72
  v50 := Try.zeroValue72
  t53 := Try.underlying75
  a53 := Try.isAgg75
  z53 := Try.sizeOf75
  v53 := Try.zeroValue75
  t55 := Try.underlying77
  a55 := Try.isAgg77
  z55 := Try.sizeOf77
  v55 := Try.zeroValue77
  t66 := Try.underlying78
  a66 := Try.isAgg78
  z66 := Try.sizeOf78
  v66 := Try.zeroValue78
  t70 := Try.underlying82
  a70 := Try.isAgg82
  z70 := Try.sizeOf82
  v70 := Try.zeroValue82
  t76 := Try.underlying84
  a76 := Try.isAgg84
  z76 := Try.sizeOf84
  v76 := Try.zeroValue84
  t77 := Try.underlying85
  a77 := Try.isAgg85
  z77 := Try.sizeOf85
  v77 := Try.zeroValue85 }
open Go.RowKit Go.Lib Go.Sort in
/-- **slices.SortFunc: WHAT THE ROW HOLDS, TO THE ELEMENT.** (LAID AT THE INSTANCE 'slices.SortFunc[[]int,int]': no walk: one application.) -/
theorem Try.slices_SortFunc_eq {α : Type} [Inhabited α] (enc : α → Value) (h1 : OneCell enc) (cf : α → α → Int) (hO : SWO (ltOf cf)) (g : Nat) (cb : Array Value) (blk off cap : Nat) (d : Array α) (w : World) (eg : ∀ args w, (callFunc g args).run Try.prog w = .ok (.enter g args) w) (hcmp : CmpLays1 Try.prog g cb enc cf blk off d.size w) (hH : Holds enc w blk off d) (hblk : blk < w.heap.size) (hsz : d.size < 4611686018427387904) :
    Calls Try.prog 32 #[.slice (some ⟨blk, off, none⟩) d.size cap, .func (.func g) #[] cb] w fun e w' =>
      e = .returned (.tuple #[]) ∧ ∃ n os, w' = sortWorld enc w blk off n (pdq (ltOf cf) d 0 d.size (Lib.bitLen d.size) true true) os := Any.slices_SortFunc_eq Try.laysSlF6_f32 enc h1 cf hO g cb blk off cap d w eg hcmp hH hblk hsz
open Go.RowKit Go.Lib Go.Sort in
/-- **slices.SortFunc, IN THE DOCUMENTATION's OWN TERMS: A PERMUTATION OF WHAT THE ROW HELD, SORTED BY 'cmp(a, b) < 0'.** Which of two equals comes first is left open ("The sort is not guaranteed to be stable"). (LAID AT THE INSTANCE 'slices.SortFunc[[]int,int]': no walk: one application.) -/
theorem Try.slices_SortFunc {α : Type} [Inhabited α] (enc : α → Value) (h1 : OneCell enc) (cf : α → α → Int) (hO : SWO (ltOf cf)) (g : Nat) (cb : Array Value) (blk off cap : Nat) (d : Array α) (w : World) (eg : ∀ args w, (callFunc g args).run Try.prog w = .ok (.enter g args) w) (hcmp : CmpLays1 Try.prog g cb enc cf blk off d.size w) (hH : Holds enc w blk off d) (hblk : blk < w.heap.size) (hsz : d.size < 4611686018427387904) :
    Calls Try.prog 32 #[.slice (some ⟨blk, off, none⟩) d.size cap, .func (.func g) #[] cb] w fun e w' =>
      e = .returned (.tuple #[]) ∧ ∃ d' n os, PermIn 0 d.size d d' ∧ SortedIn (ltOf cf) 0 d.size d' ∧ w' = sortWorld enc w blk off n d' os := Any.slices_SortFunc Try.laysSlF6_f32 enc h1 cf hO g cb blk off cap d w eg hcmp hH hblk hsz
def Try.laysSlF020_f42_ren : Go.Shelf.Ren := ⟨fun | 20 => 42 | n => n, fun | 24 => 3 | 22 => 23 | 3 => 3 | 25 => 46 | 4 => 4 | 0 => 0 | n => n, fun | n => n⟩
theorem Try.laysSlF020_f42 : Go.Proofs.SlLaysF0.n20 Try.prog Try.laysSlF020_f42_ren := {
  mixed := by kernel_rfl
  f20 := ⟨Try.f42.name, by decide, Try.func42.trans (congrArg some (by kernel_rfl))⟩
  t0 := Try.underlying0
  a0 := Try.isAgg0
  z0 := Try.sizeOf0
  v0 := Try.zeroValue0
  t3 := Try.underlying3
  a3 := Try.isAgg3
  z3 := Try.sizeOf3
  v3 := Try.zeroValue3
  t4 := Try.underlying4
  a4 := Try.isAgg4
  z4 := Try.sizeOf4
  v4 := Try.zeroValue4
  t22 := Try.underlying23
  a22 := Try.isAgg23
  z22 := Try.sizeOf23
  v22 := Try.zeroValue23
  t25 := Try.underlying46
  a25 := Try.isAgg46
  z25 := Try.sizeOf46
  v25 := Try.zeroValue46 }
open Go.RowKit Go.Lib Go.Sort in
theorem Try.insertionSortCmpFunc_none {α : Type} [Inhabited α] (p : Option Addr) (cap : Nat) (fv : Value) (w : World) :
    Calls Try.prog 42 #[.slice p 0 cap, .int .i64 0, .int .i64 0, fv] w fun e w' => e = .returned (.tuple #[]) ∧ w' = w := AnyF.insertionSortCmpFunc_none Try.laysSlF020_f42 p cap fv w
def Try.laysSlF014_f39_ren : Go.Shelf.Ren := ⟨fun | 14 => 39 | 20 => 42 | 21 => 43 | 22 => 44 | 23 => 45 | 24 => 46 | 25 => 47 | 26 => 48 | 27 => 49 | 46 => 53 | 47 => 54 | 48 => 55 | 49 => 56 | 50 => 57 | 15 => 40 | 57 => 59 | 28 => 50 | 29 => 51 | n => n, fun | 24 => 3 | 22 => 23 | 3 => 3 | 25 => 46 | 4 => 4 | 0 => 0 | 46 => 68 | 45 => 67 | 50 => 72 | 66 => 78 | 39 => 64 | 55 => 77 | 70 => 82 | 76 => 84 | 77 => 85 | 53 => 75 | 5 => 5 | 9 => 9 | n => n, fun | n => n⟩
theorem Try.laysSlF014_f39 : Go.Proofs.SlLaysF0.n14 Try.prog Try.laysSlF014_f39_ren := {
  mixed := by kernel_rfl
  f14 := ⟨Try.f39.name, by decide, Try.func39.trans (congrArg some (by kernel_rfl))⟩
  f15 := Try.func40.trans (congrArg some (by kernel_rfl))
  f20 := ⟨Try.f42.name, by decide, Try.func42.trans (congrArg some (by kernel_rfl))⟩
  f21 := ⟨Try.f43.name, by decide, Try.func43.trans (congrArg some (by kernel_rfl))⟩
  f22 := ⟨Try.f44.name, by decide, Try.func44.trans (congrArg some (by kernel_rfl))⟩
  f23 := ⟨Try.f45.name, by decide, Try.func45.trans (congrArg some (by kernel_rfl))⟩
  f24 := ⟨Try.f46.name, by decide, Try.func46.trans (congrArg some (by kernel_rfl))⟩
  f25 := ⟨Try.f47.name, by decide, Try.func47.trans (congrArg some (by kernel_rfl))⟩
  f26 := ⟨Try.f48.name, by decide, Try.func48.trans (congrArg some (by kernel_rfl))⟩
  f27 := ⟨Try.f49.name, by decide, Try.func49.trans (congrArg some (by kernel_rfl))⟩
  f28 := Try.func50.trans (congrArg some (by kernel_rfl))
  f29 := Try.func51.trans (congrArg some (by kernel_rfl))
  f46 := ⟨Try.f53.name, by decide, Try.func53.trans (congrArg some (by kernel_rfl))⟩
  f47 := Try.func54.trans (congrArg some (by kernel_rfl))
  f48 := Try.func55.trans (congrArg some (by kernel_rfl))
  f49 := ⟨Try.f56.name, by decide, Try.func56.trans (congrArg some (by kernel_rfl))⟩
  f50 := ⟨Try.f57.name, by decide, Try.func57.trans (congrArg some (by kernel_rfl))⟩
  f57 := ⟨Try.f59.name, by decide, Try.func59.trans (congrArg some (by kernel_rfl))⟩
  t0 := Try.underlying0
  a0 := Try.isAgg0
  z0 := Try.sizeOf0
  v0 := Try.zeroValue0
  t3 := Try.underlying3
  a3 := Try.isAgg3
  z3 := Try.sizeOf3
  v3 := Try.zeroValue3
  t4 := Try.underlying4
  a4 := Try.isAgg4
  z4 := Try.sizeOf4
  v4 := Try.zeroValue4
  t5 := Try.underlying5
  a5 := Try.isAgg5
  z5 := Try.sizeOf5
  v5 := Try.zeroValue5
  t9 := Try.underlying9
  a9 := Try.isAgg9
  z9 := Try.sizeOf9
  v9 := Try.zeroValue9
  t22 := Try.underlying23
  a22 := Try.isAgg23
  z22 := Try.sizeOf23
  v22 := Try.zeroValue23
  t25 := Try.underlying46
  a25 := Try.isAgg46
  z25 := Try.sizeOf46
  v25 := Try.zeroValue46
  t39 := Try.underlying64
  a39 := Try.isAgg64
  z39 := Try.sizeOf64
  v39 := Try.zeroValue64
  t45 := Try.underlying67
  a45 := Try.isAgg67
  z45 := Try.sizeOf67
  v45 := Try.zeroValue67
  t46 := Try.underlying68
  a46 := Try.isAgg68
  z46 := Try.sizeOf68
  v46 := Try.zeroValue68
  t50 := Try.underlying72
  a50 := Try.isAgg72
  z50 := Try.sizeOf72
  v50 := Try.zeroValue72
  t53 := Try.underlying75
  a53 := Try.isAgg75
  z53 := Try.sizeOf75
  v53 := Try.zeroValue75
  t55 := Try.underlying77
  a55 := Try.isAgg77
  z55 := Try.sizeOf77
  v55 := Try.zeroValue77
  t66 := Try.underlying78
  a66 := Try.isAgg78
  z66 := Try.sizeOf78
  v66 := Try.zeroValue78
  t70 := Try.underlying82
  a70 := Try.isAgg82
  z70 := Try.sizeOf82
  v70 := Try.zeroValue82
  t76 := Try.underlying84
  a76 := Try.isAgg84
  z76 := Try.sizeOf84
  v76 := Try.zeroValue84
  t77 := Try.underlying85
  a77 := Try.isAgg85
  z77 := Try.sizeOf85
  v77 := Try.zeroValue85 }
open Go.RowKit Go.Lib Go.Sort in
theorem Try.pdqsortCmpFunc_none {α : Type} [Inhabited α] (p : Option Addr) (cap : Nat) (lim : Int) (fv : Value) (w : World) :
    Calls Try.prog 39 #[.slice p 0 cap, .int .i64 0, .int .i64 0, .int .i64 lim, fv] w fun e w' => e = .returned (.tuple #[]) ∧ w' = w := AnyF.pdqsortCmpFunc_none Try.laysSlF014_f39 p cap lim fv w
def Try.laysSlF06_f32_ren : Go.Shelf.Ren := ⟨fun | 6 => 32 | 15 => 40 | 14 => 39 | 28 => 50 | 29 => 51 | 20 => 42 | 21 => 43 | 22 => 44 | 23 => 45 | 24 => 46 | 25 => 47 | 26 => 48 | 27 => 49 | 46 => 53 | 47 => 54 | 48 => 55 | 49 => 56 | 50 => 57 | 57 => 59 | n => n, fun | 22 => 23 | 24 => 3 | 25 => 46 | 3 => 3 | 39 => 64 | 0 => 0 | 53 => 75 | 55 => 77 | 4 => 4 | 46 => 68 | 45 => 67 | 50 => 72 | 5 => 5 | 9 => 9 | 66 => 78 | 70 => 82 | 76 => 84 | 77 => 85 | n => n, fun | n => n⟩
theorem Try.laysSlF06_f32 : Go.Proofs.SlLaysF0.n6 Try.prog Try.laysSlF06_f32_ren := {
  mixed := by kernel_rfl
  f6 := ⟨Try.f32.name, by decide, Try.func32.trans (congrArg some (by kernel_rfl))⟩
  f14 := ⟨Try.f39.name, by decide, Try.func39.trans (congrArg some (by kernel_rfl))⟩
  f15 := Try.func40.trans (congrArg some (by kernel_rfl))
  f20 := ⟨Try.f42.name, by decide, Try.func42.trans (congrArg some (by kernel_rfl))⟩
  f21 := ⟨Try.f43.name, by decide, Try.func43.trans (congrArg some (by kernel_rfl))⟩
  f22 := ⟨Try.f44.name, by decide, Try.func44.trans (congrArg some (by kernel_rfl))⟩
  f23 := ⟨Try.f45.name, by decide, Try.func45.trans (congrArg some (by kernel_rfl))⟩
  f24 := ⟨Try.f46.name, by decide, Try.func46.trans (congrArg some (by kernel_rfl))⟩
  f25 := ⟨Try.f47.name, by decide, Try.func47.trans (congrArg some (by kernel_rfl))⟩
  f26 := ⟨Try.f48.name, by decide, Try.func48.trans (congrArg some (by kernel_rfl))⟩
  f27 := ⟨Try.f49.name, by decide, Try.func49.trans (congrArg some (by kernel_rfl))⟩
  f28 := Try.func50.trans (congrArg some (by kernel_rfl))
  f29 := Try.func51.trans (congrArg some (by kernel_rfl))
  f46 := ⟨Try.f53.name, by decide, Try.func53.trans (congrArg some (by kernel_rfl))⟩
  f47 := Try.func54.trans (congrArg some (by kernel_rfl))
  f48 := Try.func55.trans (congrArg some (by kernel_rfl))
  f49 := ⟨Try.f56.name, by decide, Try.func56.trans (congrArg some (by kernel_rfl))⟩
  f50 := ⟨Try.f57.name, by decide, Try.func57.trans (congrArg some (by kernel_rfl))⟩
  f57 := ⟨Try.f59.name, by decide, Try.func59.trans (congrArg some (by kernel_rfl))⟩
  t0 := Try.underlying0
  a0 := Try.isAgg0
  z0 := Try.sizeOf0
  v0 := Try.zeroValue0
  t3 := Try.underlying3
  a3 := Try.isAgg3
  z3 := Try.sizeOf3
  v3 := Try.zeroValue3
  t4 := Try.underlying4
  a4 := Try.isAgg4
  z4 := Try.sizeOf4
  v4 := Try.zeroValue4
  t5 := Try.underlying5
  a5 := Try.isAgg5
  z5 := Try.sizeOf5
  v5 := Try.zeroValue5
  t9 := Try.underlying9
  a9 := Try.isAgg9
  z9 := Try.sizeOf9
  v9 := Try.zeroValue9
  t22 := Try.underlying23
  a22 := Try.isAgg23
  z22 := Try.sizeOf23
  v22 := Try.zeroValue23
  t25 := Try.underlying46
  a25 := Try.isAgg46
  z25 := Try.sizeOf46
  v25 := Try.zeroValue46
  t39 := Try.underlying64
  a39 := Try.isAgg64
  z39 := Try.sizeOf64
  v39 := Try.zeroValue64
  t45 := Try.underlying67
  a45 := Try.isAgg67
  z45 := Try.sizeOf67
  v45 := Try.zeroValue67
  t46 := Try.underlying68
  a46 := Try.isAgg68
  z46 := Try.sizeOf68
  v46 := Try.zeroValue68
  t50 := Try.underlying72
  a50 := Try.isAgg72
  z50 := Try.sizeOf72
  v50 := Try.zeroValue72
  t53 := Try.underlying75
  a53 := Try.isAgg75
  z53 := Try.sizeOf75
  v53 := Try.zeroValue75
  t55 := Try.underlying77
  a55 := Try.isAgg77
  z55 := Try.sizeOf77
  v55 := Try.zeroValue77
  t66 := Try.underlying78
  a66 := Try.isAgg78
  z66 := Try.sizeOf78
  v66 := Try.zeroValue78
  t70 := Try.underlying82
  a70 := Try.isAgg82
  z70 := Try.sizeOf82
  v70 := Try.zeroValue82
  t76 := Try.underlying84
  a76 := Try.isAgg84
  z76 := Try.sizeOf84
  v76 := Try.zeroValue84
  t77 := Try.underlying85
  a77 := Try.isAgg85
  z77 := Try.sizeOf85
  v77 := Try.zeroValue85 }
open Go.RowKit Go.Lib Go.Sort in
/-- **slices.SortFunc AT NO ELEMENT, A nil SLICE TOO: nothing turns.** (LAID AT THE INSTANCE 'slices.SortFunc[[]int,int]': no walk: one application.) -/
theorem Try.slices_SortFunc_none {α : Type} [Inhabited α] (p : Option Addr) (cap : Nat) (fv : Value) (w : World) :
    Calls Try.prog 32 #[.slice p 0 cap, fv] w fun e w' => e = .returned (.tuple #[]) ∧ w' = w := AnyF.slices_SortFunc_none Try.laysSlF06_f32 p cap fv w
open Go.RowKit Go.Lib Go.Sort in
/-- **slices.SortFunc AT ONE CELL, UNDER A 'cmp' THAT PARTS WHATEVER TWO THAT ARE NOT ONE: THE ROW HOLDS core's 'mergeSort'.** (LAID AT THE INSTANCE 'slices.SortFunc[[]int,int]': no walk: one application.) -/
theorem Try.slices_SortFunc_total {α : Type} [Inhabited α] (enc : α → Value) (h1 : OneCell enc) (cf : α → α → Int) (hO : SWO (ltOf cf)) (g : Nat) (cb : Array Value) (blk off cap : Nat) (d : Array α) (w : World) (eg : ∀ args w, (callFunc g args).run Try.prog w = .ok (.enter g args) w) (hcmp : CmpLays1 Try.prog g cb enc cf blk off d.size w) (hH : Holds enc w blk off d) (hblk : blk < w.heap.size) (hsz : d.size < 4611686018427387904) (hT : ∀ x y, (ltOf cf) x y = false → (ltOf cf) y x = false → x = y) :
    Calls Try.prog 32 #[.slice (some ⟨blk, off, none⟩) d.size cap, .func (.func g) #[] cb] w fun e w' =>
      e = .returned (.tuple #[]) ∧ ∃ n os, w' = sortWorld enc w blk off n (d.toList.mergeSort fun x y => !(ltOf cf) y x).toArray os := Any.slices_SortFunc_total Try.laysSlF6_f32 enc h1 cf hO g cb blk off cap d w eg hcmp hH hblk hsz hT
def Try.sortF_ren : Go.Shelf.Ren := ⟨fun | 6 => 32 | 15 => 40 | 14 => 39 | 28 => 50 | 29 => 51 | 20 => 42 | 21 => 43 | 22 => 44 | 23 => 45 | 24 => 46 | 25 => 47 | 26 => 48 | 27 => 49 | 46 => 53 | 47 => 54 | 48 => 55 | 49 => 56 | 50 => 57 | 57 => 59 | n => n, fun | 22 => 23 | 24 => 3 | 25 => 46 | 3 => 3 | 39 => 64 | 0 => 0 | 53 => 75 | 55 => 77 | 4 => 4 | 46 => 68 | 45 => 67 | 50 => 72 | 5 => 5 | 9 => 9 | 66 => 78 | 70 => 82 | 76 => 84 | 77 => 85 | n => n, fun | n => n⟩
theorem Try.sortF : Go.Proofs.SlLaysF.n6 Try.prog Try.sortF_ren := {
  mixed := by kernel_rfl
  f6 := ⟨Try.f32.name, by decide, Try.func32.trans (congrArg some (by kernel_rfl))⟩
  f14 := ⟨Try.f39.name, by decide, Try.func39.trans (congrArg some (by kernel_rfl))⟩
  f15 := Try.func40.trans (congrArg some (by kernel_rfl))
  f20 := ⟨Try.f42.name, by decide, Try.func42.trans (congrArg some (by kernel_rfl))⟩
  f21 := ⟨Try.f43.name, by decide, Try.func43.trans (congrArg some (by kernel_rfl))⟩
  f22 := ⟨Try.f44.name, by decide, Try.func44.trans (congrArg some (by kernel_rfl))⟩
  f23 := ⟨Try.f45.name, by decide, Try.func45.trans (congrArg some (by kernel_rfl))⟩
  f24 := ⟨Try.f46.name, by decide, Try.func46.trans (congrArg some (by kernel_rfl))⟩
  f25 := ⟨Try.f47.name, by decide, Try.func47.trans (congrArg some (by kernel_rfl))⟩
  f26 := ⟨Try.f48.name, by decide, Try.func48.trans (congrArg some (by kernel_rfl))⟩
  f27 := ⟨Try.f49.name, by decide, Try.func49.trans (congrArg some (by kernel_rfl))⟩
  f28 := Try.func50.trans (congrArg some (by kernel_rfl))
  f29 := Try.func51.trans (congrArg some (by kernel_rfl))
  f46 := ⟨Try.f53.name, by decide, Try.func53.trans (congrArg some (by kernel_rfl))⟩
  f47 := Try.func54.trans (congrArg some (by kernel_rfl))
  f48 := Try.func55.trans (congrArg some (by kernel_rfl))
  f49 := ⟨Try.f56.name, by decide, Try.func56.trans (congrArg some (by kernel_rfl))⟩
  f50 := ⟨Try.f57.name, by decide, Try.func57.trans (congrArg some (by kernel_rfl))⟩
  f57 := ⟨Try.f59.name, by decide, Try.func59.trans (congrArg some (by kernel_rfl))⟩
  t0 := Try.underlying0
  a0 := Try.isAgg0
  z0 := Try.sizeOf0
  v0 := Try.zeroValue0
  t3 := Try.underlying3
  a3 := Try.isAgg3
  z3 := Try.sizeOf3
  v3 := Try.zeroValue3
  t4 := Try.underlying4
  a4 := Try.isAgg4
  z4 := Try.sizeOf4
  v4 := Try.zeroValue4
  t5 := Try.underlying5
  a5 := Try.isAgg5
  z5 := Try.sizeOf5
  v5 := Try.zeroValue5
  t9 := Try.underlying9
  a9 := Try.isAgg9
  z9 := Try.sizeOf9
  v9 := Try.zeroValue9
  t22 := Try.underlying23
  a22 := Try.isAgg23
  z22 := Try.sizeOf23
  v22 := Try.zeroValue23
  a24 := Try.isAgg3
  z24 := Try.sizeOf3
  t25 := Try.underlying46
  a25 := Try.isAgg46
  z25 := Try.sizeOf46
  v25 := Try.zeroValue46
  t39 := Try.underlying64
  a39 := Try.isAgg64
  z39 := Try.sizeOf64
  v39 := Try.zeroValue64
  t45 := Try.underlying67
  a45 := Try.isAgg67
  z45 := Try.sizeOf67
  v45 := Try.zeroValue67
  t46 := Try.underlying68
  a46 := Try.isAgg68
  z46 := Try.sizeOf68
  v46 := Try.zeroValue68
  t50 := Try.underlying72
  a50 := Try.isAgg72
  z50 := Try.sizeOf72
  v50 := Try.zeroValue72
  t53 := Try.underlying75
  a53 := Try.isAgg75
  z53 := Try.sizeOf75
  v53 := Try.zeroValue75
  t55 := Try.underlying77
  a55 := Try.isAgg77
  z55 := Try.sizeOf77
  v55 := Try.zeroValue77
  t66 := Try.underlying78
  a66 := Try.isAgg78
  z66 := Try.sizeOf78
  v66 := Try.zeroValue78
  t70 := Try.underlying82
  a70 := Try.isAgg82
  z70 := Try.sizeOf82
  v70 := Try.zeroValue82
  t76 := Try.underlying84
  a76 := Try.isAgg84
  z76 := Try.sizeOf84
  v76 := Try.zeroValue84
  t77 := Try.underlying85
  a77 := Try.isAgg85
  z77 := Try.sizeOf85
  v77 := Try.zeroValue85 }
def Try.insF_ren : Go.Shelf.Ren := ⟨fun | 20 => 42 | n => n, fun | 24 => 3 | 22 => 23 | 3 => 3 | 25 => 46 | 4 => 4 | 0 => 0 | n => n, fun | n => n⟩
theorem Try.insF : Go.Proofs.SlLaysF.n20 Try.prog Try.insF_ren := {
  mixed := by kernel_rfl
  f20 := ⟨Try.f42.name, by decide, Try.func42.trans (congrArg some (by kernel_rfl))⟩
  t0 := Try.underlying0
  a0 := Try.isAgg0
  z0 := Try.sizeOf0
  v0 := Try.zeroValue0
  t3 := Try.underlying3
  a3 := Try.isAgg3
  z3 := Try.sizeOf3
  v3 := Try.zeroValue3
  t4 := Try.underlying4
  a4 := Try.isAgg4
  z4 := Try.sizeOf4
  v4 := Try.zeroValue4
  t22 := Try.underlying23
  a22 := Try.isAgg23
  z22 := Try.sizeOf23
  v22 := Try.zeroValue23
  a24 := Try.isAgg3
  z24 := Try.sizeOf3
  t25 := Try.underlying46
  a25 := Try.isAgg46
  z25 := Try.sizeOf46
  v25 := Try.zeroValue46 }
end Go.Proofs
