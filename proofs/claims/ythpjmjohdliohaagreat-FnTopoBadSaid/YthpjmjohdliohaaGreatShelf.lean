/-
  DERIVED: THE SHELF's CONTRACTS AT THIS DUMP, IN PLAIN WORDS (tools/lay-plain.mjs out of 'TryzShelf.lean', which tools/lay-shelf.mjs wrote): THE SAME DECLARATIONS UNDER THE SAME NAMES: 'import', 'namespace', 'open', 'def', 'theorem' AND NOTHING ELSE: no command of the shelf's: FOR A HAND-IN. Each laying: the table of numbers ('.._ren') and one theorem, a field a fact of the dump's own or the kernel's comparison; each contract: ONE APPLICATION.
-/
import Derived.Shelf.Small.Bits
import Derived.Shelf.Small.Wraps
import Derived.Shelf.Strconv.Itoa0
import Derived.Shelf.Sort.Plain
import Derived.Ground.Names2Prog
import Derived.Shelf.Slices.Clone
import Derived.Shelf.Slices.SearchI
import Derived.Shelf.Slices.In.SortNone
import Derived.Ground.SlgnProg
import Derived.Shelf.SlicesG.SearchI
import Derived.Shelf.SlicesE.Compact
import Derived.Shelf.SlicesE.Clone
import Derived.Ground.SlgcProg
import Derived.Shelf.SlicesG.Cmp
import Derived.Ground.SlsfProg
import Derived.Shelf.SlSortCmp.Insertion
import Derived.Ground.SlgmProg
import Derived.Shelf.SortM.Plain
import Derived.Shelf.SortM.SortNone
import Derived.Shelf.SlSortCmp.SiftDown1
import Derived.Shelf.SlSortCmp.HeapSort1
import Derived.Shelf.SlSortCmp.Insertion1
import Derived.Shelf.SlSortCmp.Median1
import Derived.Shelf.SlSortCmp.Pivot1
import Derived.Shelf.SlSortCmp.ReverseRange1
import Derived.Shelf.SlSortCmp.PartialInsertion1
import Derived.Shelf.SlSortCmp.PartitionEqual1
import Derived.Shelf.SlSortCmp.Partition1
import Derived.Shelf.SlSortCmp.Pdq1
import Derived.Shelf.SlSortCmp.Whole1
import Derived.Shelf.SlSortCmp.NoneTotal
import Derived.Test.YthpjmjohdliohaaGreatProg
namespace Go.Proofs
open Go.Shelf
def Tryz.lays128_ren : Go.Shelf.Ren := ⟨fun | 128 => 79 | n => n, fun | 51 => 153 | 3 => 3 | 4 => 4 | 46 => 94 | 5 => 5 | 9 => 9 | n => n, fun | n => n⟩
theorem Tryz.lays128 : Go.Proofs.Lays.n128 Tryz.prog Tryz.lays128_ren := {
  mixed := by kernel_rfl
  f128 := Tryz.func79.trans (congrArg some (by kernel_rfl))
  t3 := Tryz.underlying3
  a3 := Tryz.isAgg3
  z3 := Tryz.sizeOf3
  v3 := Tryz.zeroValue3
  t4 := Tryz.underlying4
  a4 := Tryz.isAgg4
  z4 := Tryz.sizeOf4
  v4 := Tryz.zeroValue4
  t5 := Tryz.underlying5
  a5 := Tryz.isAgg5
  z5 := Tryz.sizeOf5
  v5 := Tryz.zeroValue5
  t9 := Tryz.underlying9
  a9 := Tryz.isAgg9
  z9 := Tryz.sizeOf9
  v9 := Tryz.zeroValue9
  t46 := Tryz.underlying94
  a46 := Tryz.isAgg94
  z46 := Tryz.sizeOf94
  v46 := Tryz.zeroValue94
  t51 := Tryz.underlying153
  a51 := Tryz.isAgg153
  z51 := Tryz.sizeOf153
  v51 := Tryz.zeroValue153 }
/-- bits.Len32: "Len32 returns the minimum number of bits required to represent x; the result is 0 for x == 0.": IT RETURNS 'Lib.bitLen x'; the world is as it was. ('h0', 'h1': x is a uint32.) (LAID: no walk: one application.) -/
theorem Tryz.bits_Len32 (x : Int) (w : World) (h0 : 0 ≤ x) (h1 : x ≤ 4294967295) :
    Calls Tryz.prog 79 #[.int .u32 x] w fun e w' => e = .returned (.int .i64 (Lib.bitLen x.toNat)) ∧ w' = w := Any.bits_Len32 Tryz.lays128 x w h0 h1
def Tryz.lays125_ren : Go.Shelf.Ren := ⟨fun | 125 => 44 | 128 => 79 | 129 => 80 | n => n, fun | 46 => 94 | 3 => 3 | 51 => 153 | 53 => 155 | 4 => 4 | 5 => 5 | 9 => 9 | n => n, fun | n => n⟩
theorem Tryz.lays125 : Go.Proofs.Lays.n125 Tryz.prog Tryz.lays125_ren := {
  mixed := by kernel_rfl
  f125 := Tryz.func44.trans (congrArg some (by kernel_rfl))
  f128 := Tryz.func79.trans (congrArg some (by kernel_rfl))
  f129 := Tryz.func80.trans (congrArg some (by kernel_rfl))
  t3 := Tryz.underlying3
  a3 := Tryz.isAgg3
  z3 := Tryz.sizeOf3
  v3 := Tryz.zeroValue3
  t4 := Tryz.underlying4
  a4 := Tryz.isAgg4
  z4 := Tryz.sizeOf4
  v4 := Tryz.zeroValue4
  t5 := Tryz.underlying5
  a5 := Tryz.isAgg5
  z5 := Tryz.sizeOf5
  v5 := Tryz.zeroValue5
  t9 := Tryz.underlying9
  a9 := Tryz.isAgg9
  z9 := Tryz.sizeOf9
  v9 := Tryz.zeroValue9
  t46 := Tryz.underlying94
  a46 := Tryz.isAgg94
  z46 := Tryz.sizeOf94
  v46 := Tryz.zeroValue94
  t51 := Tryz.underlying153
  a51 := Tryz.isAgg153
  z51 := Tryz.sizeOf153
  v51 := Tryz.zeroValue153
  t53 := Tryz.underlying155
  a53 := Tryz.isAgg155
  z53 := Tryz.sizeOf155
  v53 := Tryz.zeroValue155 }
/-- bits.Len: "Len returns the minimum number of bits required to represent x; the result is 0 for x == 0.": IT RETURNS 'Lib.bitLen x'; the world is as it was. (A uint has 64 bits in the model.) ITS CALLEE bits.Len64 IS MET BY ITS OWN CONTRACT OFF THE SHELF (lay that first). (LAID: no walk: one application.) -/
theorem Tryz.bits_Len (x : Int) (w : World) (h0 : 0 ≤ x) (h1 : x ≤ 18446744073709551615) :
    Calls Tryz.prog 44 #[.int .u64 x] w fun e w' => e = .returned (.int .i64 (Lib.bitLen x.toNat)) ∧ w' = w := Any.bits_Len Tryz.lays125 x w h0 h1
def Tryz.lays215_ren : Go.Shelf.Ren := ⟨fun | 215 => 99 | n => n, fun | 3 => 3 | 4 => 4 | n => n, fun | n => n⟩
theorem Tryz.lays215 : Go.Proofs.Lays.n215 Tryz.prog Tryz.lays215_ren := {
  mixed := by kernel_rfl
  f215 := Tryz.func99.trans (congrArg some (by kernel_rfl))
  t3 := Tryz.underlying3
  a3 := Tryz.isAgg3
  z3 := Tryz.sizeOf3
  v3 := Tryz.zeroValue3
  t4 := Tryz.underlying4
  a4 := Tryz.isAgg4
  z4 := Tryz.sizeOf4
  v4 := Tryz.zeroValue4 }
open Go.RowKit in
/-- cmp.isNaN at int: 'x != x': false. (LAID: no walk: one application.) -/
theorem Tryz.cmp_isNaN_int (x : Int) (w : World) :
    Calls Tryz.prog 99 #[.int .i64 x] w fun e w' => e = .returned (.bool false) ∧ w' = w := Any.cmp_isNaN_int Tryz.lays215 x w
def Tryz.lays122_ren : Go.Shelf.Ren := ⟨fun | 122 => 82 | 215 => 99 | n => n, fun | 3 => 3 | 4 => 4 | n => n, fun | n => n⟩
theorem Tryz.lays122 : Go.Proofs.Lays.n122 Tryz.prog Tryz.lays122_ren := {
  mixed := by kernel_rfl
  f122 := Tryz.func82.trans (congrArg some (by kernel_rfl))
  f215 := Tryz.func99.trans (congrArg some (by kernel_rfl))
  t3 := Tryz.underlying3
  a3 := Tryz.isAgg3
  z3 := Tryz.sizeOf3
  v3 := Tryz.zeroValue3
  t4 := Tryz.underlying4
  a4 := Tryz.isAgg4
  z4 := Tryz.sizeOf4
  v4 := Tryz.zeroValue4 }
open Go.RowKit in
/-- cmp.Compare at int: "Compare returns -1 if x is less than y, 0 if x equals y, +1 if x is greater than y.": IT RETURNS 'Lib.compareInt x y'; the world is as it was. (LAID: no walk: one application.) -/
theorem Tryz.cmp_Compare_int (x y : Int) (w : World) :
    Calls Tryz.prog 82 #[.int .i64 x, .int .i64 y] w fun e w' => e = .returned (.int .i64 (Lib.compareInt x y)) ∧ w' = w := Any.cmp_Compare_int Tryz.lays122 x y w
def Tryz.lays129_ren : Go.Shelf.Ren := ⟨fun | 129 => 80 | n => n, fun | 53 => 155 | 3 => 3 | 4 => 4 | 46 => 94 | 5 => 5 | 9 => 9 | n => n, fun | n => n⟩
theorem Tryz.lays129 : Go.Proofs.Lays.n129 Tryz.prog Tryz.lays129_ren := {
  mixed := by kernel_rfl
  f129 := Tryz.func80.trans (congrArg some (by kernel_rfl))
  t3 := Tryz.underlying3
  a3 := Tryz.isAgg3
  z3 := Tryz.sizeOf3
  v3 := Tryz.zeroValue3
  t4 := Tryz.underlying4
  a4 := Tryz.isAgg4
  z4 := Tryz.sizeOf4
  v4 := Tryz.zeroValue4
  t5 := Tryz.underlying5
  a5 := Tryz.isAgg5
  z5 := Tryz.sizeOf5
  v5 := Tryz.zeroValue5
  t9 := Tryz.underlying9
  a9 := Tryz.isAgg9
  z9 := Tryz.sizeOf9
  v9 := Tryz.zeroValue9
  t46 := Tryz.underlying94
  a46 := Tryz.isAgg94
  z46 := Tryz.sizeOf94
  v46 := Tryz.zeroValue94
  t53 := Tryz.underlying155
  a53 := Tryz.isAgg155
  z53 := Tryz.sizeOf155
  v53 := Tryz.zeroValue155 }
/-- bits.Len64: "Len64 returns the minimum number of bits required to represent x; the result is 0 for x == 0.": IT RETURNS 'Lib.bitLen x'; the world is as it was. ('h0', 'h1': x is a uint64.) (LAID: no walk: one application.) -/
theorem Tryz.bits_Len64 (x : Int) (w : World) (h0 : 0 ≤ x) (h1 : x ≤ 18446744073709551615) :
    Calls Tryz.prog 80 #[.int .u64 x] w fun e w' => e = .returned (.int .i64 (Lib.bitLen x.toNat)) ∧ w' = w := Any.bits_Len64 Tryz.lays129 x w h0 h1
def Tryz.lays189_ren : Go.Shelf.Ren := ⟨fun | 189 => 25 | 125 => 44 | 257 => 43 | 128 => 79 | 129 => 80 | 294 => 70 | 295 => 71 | 296 => 72 | 297 => 73 | 298 => 74 | 299 => 75 | 216 => 76 | 300 => 77 | 301 => 78 | 328 => 94 | 329 => 95 | 330 => 96 | 331 => 97 | 332 => 98 | 215 => 99 | 343 => 123 | n => n, fun | 28 => 22 | 3 => 3 | 46 => 94 | 0 => 0 | 51 => 153 | 53 => 155 | 4 => 4 | 183 => 146 | 182 => 145 | 131 => 135 | 5 => 5 | 9 => 9 | 218 => 177 | 222 => 181 | 228 => 205 | 229 => 206 | n => n, fun | n => n⟩
theorem Tryz.lays189 : Go.Proofs.Lays.n189 Tryz.prog Tryz.lays189_ren := {
  mixed := by kernel_rfl
  f125 := Tryz.func44.trans (congrArg some (by kernel_rfl))
  f128 := Tryz.func79.trans (congrArg some (by kernel_rfl))
  f129 := Tryz.func80.trans (congrArg some (by kernel_rfl))
  f189 := Tryz.func25.trans (congrArg some (by kernel_rfl))
  f215 := Tryz.func99.trans (congrArg some (by kernel_rfl))
  f216 := Tryz.func76.trans (congrArg some (by kernel_rfl))
  f257 := Tryz.func43.trans (congrArg some (by kernel_rfl))
  f294 := Tryz.func70.trans (congrArg some (by kernel_rfl))
  f295 := Tryz.func71.trans (congrArg some (by kernel_rfl))
  f296 := Tryz.func72.trans (congrArg some (by kernel_rfl))
  f297 := Tryz.func73.trans (congrArg some (by kernel_rfl))
  f298 := Tryz.func74.trans (congrArg some (by kernel_rfl))
  f299 := Tryz.func75.trans (congrArg some (by kernel_rfl))
  f300 := Tryz.func77.trans (congrArg some (by kernel_rfl))
  f301 := Tryz.func78.trans (congrArg some (by kernel_rfl))
  f328 := Tryz.func94.trans (congrArg some (by kernel_rfl))
  f329 := Tryz.func95.trans (congrArg some (by kernel_rfl))
  f330 := Tryz.func96.trans (congrArg some (by kernel_rfl))
  f331 := Tryz.func97.trans (congrArg some (by kernel_rfl))
  f332 := Tryz.func98.trans (congrArg some (by kernel_rfl))
  f343 := Tryz.func123.trans (congrArg some (by kernel_rfl))
  t0 := Tryz.underlying0
  a0 := Tryz.isAgg0
  z0 := Tryz.sizeOf0
  v0 := Tryz.zeroValue0
  t3 := Tryz.underlying3
  a3 := Tryz.isAgg3
  z3 := Tryz.sizeOf3
  v3 := Tryz.zeroValue3
  t4 := Tryz.underlying4
  a4 := Tryz.isAgg4
  z4 := Tryz.sizeOf4
  v4 := Tryz.zeroValue4
  t5 := Tryz.underlying5
  a5 := Tryz.isAgg5
  z5 := Tryz.sizeOf5
  v5 := Tryz.zeroValue5
  t9 := Tryz.underlying9
  a9 := Tryz.isAgg9
  z9 := Tryz.sizeOf9
  v9 := Tryz.zeroValue9
  t28 := Tryz.underlying22
  a28 := Tryz.isAgg22
  z28 := Tryz.sizeOf22
  v28 := Tryz.zeroValue22
  t46 := Tryz.underlying94
  a46 := Tryz.isAgg94
  z46 := Tryz.sizeOf94
  v46 := Tryz.zeroValue94
  t51 := Tryz.underlying153
  a51 := Tryz.isAgg153
  z51 := Tryz.sizeOf153
  v51 := Tryz.zeroValue153
  t53 := Tryz.underlying155
  a53 := Tryz.isAgg155
  z53 := Tryz.sizeOf155
  v53 := Tryz.zeroValue155
  t131 := Tryz.underlying135
  a131 := Tryz.isAgg135
  z131 := Tryz.sizeOf135
  v131 := Tryz.zeroValue135
  t182 := Tryz.underlying145
  a182 := Tryz.isAgg145
  z182 := Tryz.sizeOf145
  v182 := Tryz.zeroValue145
  t183 := Tryz.underlying146
  a183 := Tryz.isAgg146
  z183 := Tryz.sizeOf146
  v183 := Tryz.zeroValue146
  t218 := Tryz.underlying177
  a218 := Tryz.isAgg177
  z218 := Tryz.sizeOf177
  v218 := Tryz.zeroValue177
  t222 := Tryz.underlying181
  a222 := Tryz.isAgg181
  z222 := Tryz.sizeOf181
  v222 := Tryz.zeroValue181
  t228 := Tryz.underlying205
  a228 := Tryz.isAgg205
  z228 := Tryz.sizeOf205
  v228 := Tryz.zeroValue205
  t229 := Tryz.underlying206
  a229 := Tryz.isAgg206
  z229 := Tryz.sizeOf206
  v229 := Tryz.zeroValue206 }
open Go.Sort Go.RowKit in
theorem Tryz.slices_Sort_int (blk off cap : Nat) (zs : List Int) (w : World) (hH : Holds (Value.int .i64) w blk off zs.toArray) (hblk : blk < w.heap.size) (hsz : zs.length < 4611686018427387904) :
    Calls Tryz.prog 25 #[.slice (some ⟨blk, off, none⟩) zs.length cap] w fun e w' =>
      e = .returned (.tuple #[]) ∧ ∃ n os, w' = grow (putRow (Value.int .i64) (Sort.ahead w n) blk off (zs.mergeSort fun x y => decide (x ≤ y)).toArray) os := Any.slices_Sort_int Tryz.lays189 blk off cap zs w hH hblk hsz
def Tryz.laysNm215_ren : Go.Shelf.Ren := ⟨fun | 15 => 36 | n => n, fun | 22 => 22 | 3 => 3 | 4 => 4 | n => n, fun | n => n⟩
theorem Tryz.laysNm215 : Go.Proofs.Lays2.n15 Tryz.prog Tryz.laysNm215_ren := {
  mixed := by kernel_rfl
  f15 := Tryz.func36.trans (congrArg some (by kernel_rfl))
  t3 := Tryz.underlying3
  a3 := Tryz.isAgg3
  z3 := Tryz.sizeOf3
  v3 := Tryz.zeroValue3
  t4 := Tryz.underlying4
  a4 := Tryz.isAgg4
  z4 := Tryz.sizeOf4
  v4 := Tryz.zeroValue4
  t22 := Tryz.underlying22
  a22 := Tryz.isAgg22
  z22 := Tryz.sizeOf22
  v22 := Tryz.zeroValue22
  i3 := by kernel_rfl }
open Go.RowKit Go.Lib in
/-- slices.Clone at []int: "Clone returns a copy of the slice. The elements are copied using assignment, so this is a shallow clone. The result may have additional unused capacity. The result preserves the nilness of s.": OF A SLICE THAT IS NOT nil IT RETURNS A SLICE THAT IS NOT nil, OF THE SAME ELEMENTS, IN MEMORY OF THE CALL's OWN: in the how-to's words (6f): 'w'.ownsRow B e 1 v' n cells': v' begins at the head of a row among the blocks from B on (B: the heap's size at the call), not frozen, whose first cells are the elements · 'Below B w w'': below B all is as it was. The capacity is whatever the run-time gives. 'zs': what the cells behind the slice's address hold; 'zs.take n': its elements. (LAID: no walk: one application.) -/
theorem Tryz.slices_Clone_int (b off n c : Nat) (zs : List Int) (w : World) (hz : n ≤ zs.length) (hbig : n * 8 ≤ 140737488355328) (hc : ∀ j, j < zs.length → w.cell? ⟨b, off + j, none⟩ = some (.int .i64 (zs.getD j 0))) :
    Calls Tryz.prog 36 #[.slice (some ⟨b, off, none⟩) n c] w fun e w' => ∃ v', e = .returned v' ∧ w'.ownsRow w.heap.size 3 1 v' n ((zs.take n).map (Value.int .i64)) ∧ v' ≠ .slice none 0 0 ∧ Below w.heap.size w w' := Any.slices_Clone_int Tryz.laysNm215 b off n c zs w hz hbig hc
open Go.RowKit Go.Lib in
/-- The same at nil: nil comes back; the world is as it was. (LAID: no walk: one application.) -/
theorem Tryz.slices_Clone_int_nil (n c : Nat) (w : World) :
    Calls Tryz.prog 36 #[.slice none n c] w fun e w' => e = .returned (.slice none 0 0) ∧ w' = w := Any.slices_Clone_int_nil Tryz.laysNm215 n c w
open Go.RowKit Go.Lib in
/-- The same at a slice of length 0 that is not nil, WHATEVER ITS ADDRESS (no cell is asked for): a slice that is not nil and owns nothing comes back. (LAID: no walk: one application.) -/
theorem Tryz.slices_Clone_int_zero (a : Addr) (c : Nat) (w : World) :
    Calls Tryz.prog 36 #[.slice (some a) 0 c] w fun e w' => ∃ v', e = .returned v' ∧ w'.ownsRow w.heap.size 3 1 v' 0 [] ∧ v' ≠ .slice none 0 0 ∧ Below w.heap.size w w' := Any.slices_Clone_int_zero Tryz.laysNm215 a c w
def Tryz.laysNm237_ren : Go.Shelf.Ren := ⟨fun | 37 => 99 | n => n, fun | 3 => 3 | 4 => 4 | n => n, fun | n => n⟩
theorem Tryz.laysNm237 : Go.Proofs.Lays2.n37 Tryz.prog Tryz.laysNm237_ren := {
  mixed := by kernel_rfl
  f37 := Tryz.func99.trans (congrArg some (by kernel_rfl))
  t3 := Tryz.underlying3
  a3 := Tryz.isAgg3
  z3 := Tryz.sizeOf3
  v3 := Tryz.zeroValue3
  t4 := Tryz.underlying4
  a4 := Tryz.isAgg4
  z4 := Tryz.sizeOf4
  v4 := Tryz.zeroValue4 }
open Go.RowKit Go.Lib in
/-- cmp.isNaN[int]: 'x != x': false. (LAID: no walk: one application.) -/
theorem Tryz.cmp_isNaN_int2 (x : Int) (w : World) :
    Calls Tryz.prog 99 #[.int .i64 x] w fun e w' => e = .returned (.bool false) ∧ w' = w := Any.cmp_isNaN_int2 Tryz.laysNm237 x w
def Tryz.laysNm231_ren : Go.Shelf.Ren := ⟨fun | 31 => 76 | 37 => 99 | n => n, fun | 3 => 3 | 4 => 4 | n => n, fun | n => n⟩
theorem Tryz.laysNm231 : Go.Proofs.Lays2.n31 Tryz.prog Tryz.laysNm231_ren := {
  mixed := by kernel_rfl
  f31 := Tryz.func76.trans (congrArg some (by kernel_rfl))
  f37 := Tryz.func99.trans (congrArg some (by kernel_rfl))
  t3 := Tryz.underlying3
  a3 := Tryz.isAgg3
  z3 := Tryz.sizeOf3
  v3 := Tryz.zeroValue3
  t4 := Tryz.underlying4
  a4 := Tryz.isAgg4
  z4 := Tryz.sizeOf4
  v4 := Tryz.zeroValue4 }
open Go.RowKit Go.Lib in
/-- cmp.Less[int]: "Less reports whether x is less than y.": 'x < y'; the world is as it was. (LAID: no walk: one application.) -/
theorem Tryz.cmp_Less_int2 (x y : Int) (w : World) :
    Calls Tryz.prog 76 #[.int .i64 x, .int .i64 y] w fun e w' => e = .returned (.bool (decide (x < y))) ∧ w' = w := Any.cmp_Less_int2 Tryz.laysNm231 x y w
open Go.RowKit Go.Sort in
/-- .. and plain. (LAID: no walk: one application.) -/
theorem Tryz.slices_Sort_int_none (p : Option Addr) (cap : Nat) (w : World) :
    Calls Tryz.prog 25 #[.slice p 0 cap] w fun e w' => e = .returned (.tuple #[]) ∧ w' = w := Any.slices_Sort_int_none Tryz.lays189 p cap w
def Tryz.laysSlN68_f109_ren : Go.Shelf.Ren := ⟨fun | 68 => 109 | n => n, fun | 23 => 2 | 4 => 4 | n => n, fun | n => n⟩
theorem Tryz.laysSlN68_f109 : Go.Proofs.SlLaysN.n68 Tryz.prog Tryz.laysSlN68_f109_ren := {
  mixed := by kernel_rfl
  f68 := ⟨Tryz.f109.name, by decide, Tryz.func109.trans (congrArg some (by kernel_rfl))⟩
  t4 := Tryz.underlying4
  a4 := Tryz.isAgg4
  z4 := Tryz.sizeOf4
  v4 := Tryz.zeroValue4
  t23 := Tryz.underlying2
  a23 := Tryz.isAgg2
  z23 := Tryz.sizeOf2
  v23 := Tryz.zeroValue2 }
open Go.RowKit Go.Lib in
/-- cmp.isNaN[int]: 'x != x': false. (LAID AT THE INSTANCE 'cmp.isNaN[int64]': no walk: one application.) -/
theorem Tryz.cmp_isNaN_int2_f109 (x : Int) (w : World) :
    Calls Tryz.prog 109 #[.int .i64 x] w fun e w' => e = .returned (.bool false) ∧ w' = w := AnyG.cmp_isNaN_int2 Tryz.laysSlN68_f109 x w
def Tryz.laysSlN60_f119_ren : Go.Shelf.Ren := ⟨fun | 60 => 119 | n => n, fun | 23 => 2 | 4 => 4 | n => n, fun | n => n⟩
theorem Tryz.laysSlN60_f119 : Go.Proofs.SlLaysN.n60 Tryz.prog Tryz.laysSlN60_f119_ren := {
  mixed := by kernel_rfl
  f60 := ⟨Tryz.f119.name, by decide, Tryz.func119.trans (congrArg some (by kernel_rfl))⟩
  t4 := Tryz.underlying4
  a4 := Tryz.isAgg4
  z4 := Tryz.sizeOf4
  v4 := Tryz.zeroValue4
  t23 := Tryz.underlying2
  a23 := Tryz.isAgg2
  z23 := Tryz.sizeOf2
  v23 := Tryz.zeroValue2 }
open Go.RowKit Go.Lib in
/-- slices.isNaN[int]: 'x != x': false. (LAID AT THE INSTANCE 'slices.isNaN[int64]': no walk: one application.) -/
theorem Tryz.slices_isNaN_int2 (x : Int) (w : World) :
    Calls Tryz.prog 119 #[.int .i64 x] w fun e w' => e = .returned (.bool false) ∧ w' = w := AnyG.slices_isNaN_int2 Tryz.laysSlN60_f119 x w
def Tryz.laysSlN59_f116_ren : Go.Shelf.Ren := ⟨fun | 59 => 116 | 68 => 109 | n => n, fun | 23 => 2 | 4 => 4 | n => n, fun | n => n⟩
theorem Tryz.laysSlN59_f116 : Go.Proofs.SlLaysN.n59 Tryz.prog Tryz.laysSlN59_f116_ren := {
  mixed := by kernel_rfl
  f59 := ⟨Tryz.f116.name, by decide, Tryz.func116.trans (congrArg some (by kernel_rfl))⟩
  f68 := ⟨Tryz.f109.name, by decide, Tryz.func109.trans (congrArg some (by kernel_rfl))⟩
  t4 := Tryz.underlying4
  a4 := Tryz.isAgg4
  z4 := Tryz.sizeOf4
  v4 := Tryz.zeroValue4
  t23 := Tryz.underlying2
  a23 := Tryz.isAgg2
  z23 := Tryz.sizeOf2
  v23 := Tryz.zeroValue2 }
open Go.RowKit Go.Lib in
/-- cmp.Less[int]: "Less reports whether x is less than y.": 'x < y'; the world is as it was. (LAID AT THE INSTANCE 'cmp.Less[int64]': no walk: one application.) -/
theorem Tryz.cmp_Less_int2_f116 (x y : Int) (w : World) :
    Calls Tryz.prog 116 #[.int .i64 x, .int .i64 y] w fun e w' => e = .returned (.bool (decide (x < y))) ∧ w' = w := AnyG.cmp_Less_int2 Tryz.laysSlN59_f116 x y w
def Tryz.laysSlN49_f91_ren : Go.Shelf.Ren := ⟨fun | 49 => 91 | 59 => 116 | 60 => 119 | 68 => 109 | n => n, fun | 22 => 129 | 23 => 2 | 3 => 3 | 4 => 4 | 51 => 94 | 0 => 0 | n => n, fun | n => n⟩
theorem Tryz.laysSlN49_f91 : Go.Proofs.SlLaysN.n49 Tryz.prog Tryz.laysSlN49_f91_ren := {
  mixed := by kernel_rfl
  f49 := ⟨Tryz.f91.name, by decide, Tryz.func91.trans (congrArg some (by kernel_rfl))⟩
  f59 := ⟨Tryz.f116.name, by decide, Tryz.func116.trans (congrArg some (by kernel_rfl))⟩
  f60 := ⟨Tryz.f119.name, by decide, Tryz.func119.trans (congrArg some (by kernel_rfl))⟩
  f68 := ⟨Tryz.f109.name, by decide, Tryz.func109.trans (congrArg some (by kernel_rfl))⟩
  t0 := Tryz.underlying0
  a0 := Tryz.isAgg0
  z0 := Tryz.sizeOf0
  v0 := Tryz.zeroValue0
  t3 := Tryz.underlying3
  a3 := Tryz.isAgg3
  z3 := Tryz.sizeOf3
  v3 := Tryz.zeroValue3
  t4 := Tryz.underlying4
  a4 := Tryz.isAgg4
  z4 := Tryz.sizeOf4
  v4 := Tryz.zeroValue4
  t22 := Tryz.underlying129
  a22 := Tryz.isAgg129
  z22 := Tryz.sizeOf129
  v22 := Tryz.zeroValue129
  t23 := Tryz.underlying2
  a23 := Tryz.isAgg2
  z23 := Tryz.sizeOf2
  v23 := Tryz.zeroValue2
  t51 := Tryz.underlying94
  a51 := Tryz.isAgg94
  z51 := Tryz.sizeOf94
  v51 := Tryz.zeroValue94 }
open Go.RowKit Go.Lib in
/-- slices.BinarySearch at []int: "BinarySearch searches for target in a sorted slice and returns the earliest position where target is found, or the position where target would appear in the sort order; it also returns a bool saying whether the target is really found in the slice. The slice must be sorted in increasing order.": OF A SORTED SLICE IT RETURNS how many elements are less than the target, and whether the target is among the elements; the world is as it was but for the count of draws. 'zs': what the cells behind the slice's address hold; 'zs.take n': its elements. (Of a slice that is not sorted: no contract here.) (LAID AT THE INSTANCE 'slices.BinarySearch[[]int64,int64]': no walk: one application.) -/
theorem Tryz.slices_BinarySearch_int (b off n c : Nat) (zs : List Int) (x : Int) (w : World) (hz : n ≤ zs.length) (hbig : n < 4611686018427387904) (hc : ∀ j, j < zs.length → w.cell? ⟨b, off + j, none⟩ = some (.int .i64 (zs.getD j 0))) (hs : (zs.take n).Pairwise (· ≤ ·)) :
    Calls Tryz.prog 91 #[.slice (some ⟨b, off, none⟩) n c, .int .i64 x] w fun e w' => e = .returned (.tuple #[.int .i64 ((zs.take n).countP (· < x) : Nat), .bool ((zs.take n).contains x)]) ∧ ∃ q, w' = w.drewN q := AnyG.slices_BinarySearch_int Tryz.laysSlN49_f91 b off n c zs x w hz hbig hc hs
def Tryz.laysSlE43_f62_ren : Go.Shelf.Ren := ⟨fun | 43 => 62 | n => n, fun | 22 => 129 | 23 => 2 | 3 => 3 | 4 => 4 | 0 => 0 | n => n, fun | n => n⟩
theorem Tryz.laysSlE43_f62 : Go.Proofs.SlLaysE.n43 Tryz.prog Tryz.laysSlE43_f62_ren := {
  mixed := by kernel_rfl
  f43 := ⟨Tryz.f62.name, by decide, Tryz.func62.trans (congrArg some (by kernel_rfl))⟩
  t0 := Tryz.underlying0
  a0 := Tryz.isAgg0
  z0 := Tryz.sizeOf0
  v0 := Tryz.zeroValue0
  t3 := Tryz.underlying3
  a3 := Tryz.isAgg3
  z3 := Tryz.sizeOf3
  v3 := Tryz.zeroValue3
  t4 := Tryz.underlying4
  a4 := Tryz.isAgg4
  z4 := Tryz.sizeOf4
  v4 := Tryz.zeroValue4
  t22 := Tryz.underlying129
  a22 := Tryz.isAgg129
  z22 := Tryz.sizeOf129
  v22 := Tryz.zeroValue129
  a23 := Tryz.isAgg2
  z23 := Tryz.sizeOf2 }
open Go.RowKit Go.Lib Go.Sort in
/-- slices.Compact: "Compact replaces consecutive runs of equal elements with a single copy. .. Compact zeroes the elements between the new length and the original length.": IT RETURNS THE SLICE CUT TO 'compactUpTo d d.size'; ITS CELLS HOLD THAT, THEN ZERO VALUES up to the old length; the library's two loops are walked. (LAID AT THE INSTANCE 'slices.Compact[[]int64,int64]': no walk: one application.) -/
theorem Tryz.slices_Compact {α : Type} [Inhabited α] [DecidableEq α] (enc : α → Value) (hO : OneCell enc) (heq : EqlAt Tryz.prog 2 enc (fun x y => decide (x = y))) (hne : NeqAt Tryz.prog 2 enc (fun x y => decide (x = y))) (zr : α) (v23 : ∀ w, (zeroValue 2).run Tryz.prog w = .ok (enc zr) w) (blk off cap : Nat) (d : Array α) (w : World) (hH : Holds enc w blk off d) (hsz : d.size ≤ 9223372036854775807) (hcap : d.size ≤ cap) :
    Calls Tryz.prog 62 #[.slice (some ⟨blk, off, none⟩) d.size cap] w fun e w' => e = .returned (.slice (some ⟨blk, off, none⟩) (compactUpTo d d.size).length cap) ∧ ∃ q, w' = putRow enc (Sort.ahead w q) blk off (compactUpTo d d.size ++ List.replicate (d.size - (compactUpTo d d.size).length) zr).toArray := AnyE.slices_Compact Tryz.laysSlE43_f62 enc hO heq hne zr v23 blk off cap d w hH hsz hcap
def Tryz.laysSlE041_f36_ren : Go.Shelf.Ren := ⟨fun | 41 => 36 | n => n, fun | 22 => 22 | 23 => 3 | 4 => 4 | n => n, fun | n => n⟩
theorem Tryz.laysSlE041_f36 : Go.Proofs.SlLaysE0.n41 Tryz.prog Tryz.laysSlE041_f36_ren := {
  mixed := by kernel_rfl
  f41 := ⟨Tryz.f36.name, by decide, Tryz.func36.trans (congrArg some (by kernel_rfl))⟩
  t4 := Tryz.underlying4
  a4 := Tryz.isAgg4
  z4 := Tryz.sizeOf4
  v4 := Tryz.zeroValue4
  t22 := Tryz.underlying22
  a22 := Tryz.isAgg22
  z22 := Tryz.sizeOf22
  v22 := Tryz.zeroValue22 }
open Go.RowKit Go.Lib in
/-- slices.Clone: "Clone returns a copy of the slice. The elements are copied using assignment, so this is a shallow clone. The result may have additional unused capacity. The result preserves the nilness of s.": OF A SLICE THAT IS NOT nil IT RETURNS A SLICE THAT IS NOT nil, OF THE SAME CELLS, IN MEMORY OF THE CALL's OWN ('ownsRow': the how-to's 6f); below the heap's size at the call all is as it was. (LAID AT THE INSTANCE 'slices.Clone[[]int,int]': no walk: one application.) -/
theorem Tryz.slices_Clone_f36 (i0 : TypeInfo) (z : Value) (size bytes : Nat) (hi : Tryz.prog.info? 3 = some i0) (hz0 : i0.zero = some z) (hz1 : i0.size = size) (hz2 : i0.bytes = bytes) (hzs : z.cells.size = size) (hsz : 0 < size) (z23 : ∀ w, (Go.sizeOf 3).run Tryz.prog w = .ok size w) (b off n c : Nat) (news : List Value) (w : World) (hl : news.length = n * size) (hn : n ≤ maxLen) (hbig : n * bytes ≤ 140737488355328) (hc : ∀ j u, news[j]? = some u → w.cell? ⟨b, off + j, none⟩ = some u) (h1 : ∀ u ∈ news, u.oneCell' = true) :
    Calls Tryz.prog 36 #[.slice (some ⟨b, off, none⟩) n c] w fun e w' => ∃ v', e = .returned v' ∧ w'.ownsRow w.heap.size 3 size v' n news ∧ v' ≠ .slice none 0 0 ∧ Below w.heap.size w w' := AnyE.slices_Clone Tryz.laysSlE041_f36 i0 z size bytes hi hz0 hz1 hz2 hzs hsz z23 b off n c news w hl hn hbig hc h1
def Tryz.laysSlE041_f63_ren : Go.Shelf.Ren := ⟨fun | 41 => 63 | n => n, fun | 22 => 129 | 23 => 2 | 4 => 4 | n => n, fun | n => n⟩
theorem Tryz.laysSlE041_f63 : Go.Proofs.SlLaysE0.n41 Tryz.prog Tryz.laysSlE041_f63_ren := {
  mixed := by kernel_rfl
  f41 := ⟨Tryz.f63.name, by decide, Tryz.func63.trans (congrArg some (by kernel_rfl))⟩
  t4 := Tryz.underlying4
  a4 := Tryz.isAgg4
  z4 := Tryz.sizeOf4
  v4 := Tryz.zeroValue4
  t22 := Tryz.underlying129
  a22 := Tryz.isAgg129
  z22 := Tryz.sizeOf129
  v22 := Tryz.zeroValue129 }
open Go.RowKit Go.Lib in
/-- slices.Clone: "Clone returns a copy of the slice. The elements are copied using assignment, so this is a shallow clone. The result may have additional unused capacity. The result preserves the nilness of s.": OF A SLICE THAT IS NOT nil IT RETURNS A SLICE THAT IS NOT nil, OF THE SAME CELLS, IN MEMORY OF THE CALL's OWN ('ownsRow': the how-to's 6f); below the heap's size at the call all is as it was. (LAID AT THE INSTANCE 'slices.Clone[[]int64,int64]': no walk: one application.) -/
theorem Tryz.slices_Clone_f63 (i0 : TypeInfo) (z : Value) (size bytes : Nat) (hi : Tryz.prog.info? 2 = some i0) (hz0 : i0.zero = some z) (hz1 : i0.size = size) (hz2 : i0.bytes = bytes) (hzs : z.cells.size = size) (hsz : 0 < size) (z23 : ∀ w, (Go.sizeOf 2).run Tryz.prog w = .ok size w) (b off n c : Nat) (news : List Value) (w : World) (hl : news.length = n * size) (hn : n ≤ maxLen) (hbig : n * bytes ≤ 140737488355328) (hc : ∀ j u, news[j]? = some u → w.cell? ⟨b, off + j, none⟩ = some u) (h1 : ∀ u ∈ news, u.oneCell' = true) :
    Calls Tryz.prog 63 #[.slice (some ⟨b, off, none⟩) n c] w fun e w' => ∃ v', e = .returned v' ∧ w'.ownsRow w.heap.size 2 size v' n news ∧ v' ≠ .slice none 0 0 ∧ Below w.heap.size w w' := AnyE.slices_Clone Tryz.laysSlE041_f63 i0 z size bytes hi hz0 hz1 hz2 hzs hsz z23 b off n c news w hl hn hbig hc h1
open Go.RowKit Go.Lib in
/-- The same at nil: nil comes back; the world is as it was; nothing is asked of the element's type. (LAID AT THE INSTANCE 'slices.Clone[[]int,int]': no walk: one application.) -/
theorem Tryz.slices_Clone_nil_f36 (n c : Nat) (w : World) :
    Calls Tryz.prog 36 #[.slice none n c] w fun e w' => e = .returned (.slice none 0 0) ∧ w' = w := AnyE.slices_Clone_nil Tryz.laysSlE041_f36 n c w
open Go.RowKit Go.Lib in
/-- The same at nil: nil comes back; the world is as it was; nothing is asked of the element's type. (LAID AT THE INSTANCE 'slices.Clone[[]int64,int64]': no walk: one application.) -/
theorem Tryz.slices_Clone_nil_f63 (n c : Nat) (w : World) :
    Calls Tryz.prog 63 #[.slice none n c] w fun e w' => e = .returned (.slice none 0 0) ∧ w' = w := AnyE.slices_Clone_nil Tryz.laysSlE041_f63 n c w
def Tryz.laysSlC27_f109_ren : Go.Shelf.Ren := ⟨fun | 7 => 109 | n => n, fun | 22 => 2 | 4 => 4 | n => n, fun | n => n⟩
theorem Tryz.laysSlC27_f109 : Go.Proofs.SlLaysC2.n7 Tryz.prog Tryz.laysSlC27_f109_ren := {
  mixed := by kernel_rfl
  f7 := ⟨Tryz.f109.name, by decide, Tryz.func109.trans (congrArg some (by kernel_rfl))⟩
  t4 := Tryz.underlying4
  a4 := Tryz.isAgg4
  z4 := Tryz.sizeOf4
  v4 := Tryz.zeroValue4
  t22 := Tryz.underlying2
  a22 := Tryz.isAgg2
  z22 := Tryz.sizeOf2
  v22 := Tryz.zeroValue2 }
open Go.Lib in
/-- cmp.isNaN at an int under a name: 'x != x': false. (LAID AT THE INSTANCE 'cmp.isNaN[int64]': no walk: one application.) -/
theorem Tryz.cmp_isNaN_int_f109 (x : Int) (w : World) :
    Calls Tryz.prog 109 #[.int .i64 x] w fun e w' => e = .returned (.bool false) ∧ w' = w := AnyG.cmp_isNaN_int Tryz.laysSlC27_f109 x w
def Tryz.laysSlC25_f89_ren : Go.Shelf.Ren := ⟨fun | 5 => 89 | 7 => 109 | n => n, fun | 22 => 2 | 3 => 3 | 4 => 4 | n => n, fun | n => n⟩
theorem Tryz.laysSlC25_f89 : Go.Proofs.SlLaysC2.n5 Tryz.prog Tryz.laysSlC25_f89_ren := {
  mixed := by kernel_rfl
  f5 := ⟨Tryz.f89.name, by decide, Tryz.func89.trans (congrArg some (by kernel_rfl))⟩
  f7 := ⟨Tryz.f109.name, by decide, Tryz.func109.trans (congrArg some (by kernel_rfl))⟩
  t3 := Tryz.underlying3
  a3 := Tryz.isAgg3
  z3 := Tryz.sizeOf3
  v3 := Tryz.zeroValue3
  t4 := Tryz.underlying4
  a4 := Tryz.isAgg4
  z4 := Tryz.sizeOf4
  v4 := Tryz.zeroValue4
  t22 := Tryz.underlying2
  a22 := Tryz.isAgg2
  z22 := Tryz.sizeOf2
  v22 := Tryz.zeroValue2 }
open Go.Lib in
/-- cmp.Compare at an int under a name: "Compare returns -1 if x is less than y, 0 if x equals y, +1 if x is greater than y.": IT RETURNS 'Lib.compareInt x y'; the world is as it was. (LAID AT THE INSTANCE 'cmp.Compare[int64]': no walk: one application.) -/
theorem Tryz.cmp_Compare_int_f89 (x y : Int) (w : World) :
    Calls Tryz.prog 89 #[.int .i64 x, .int .i64 y] w fun e w' => e = .returned (.int .i64 (Lib.compareInt x y)) ∧ w' = w := AnyG.cmp_Compare_int Tryz.laysSlC25_f89 x y w
def Tryz.laysSlF20_f100_ren : Go.Shelf.Ren := ⟨fun | 20 => 100 | n => n, fun | 24 => 22 | 22 => 28 | 3 => 3 | 25 => 96 | 4 => 4 | 0 => 0 | n => n, fun | n => n⟩
theorem Tryz.laysSlF20_f100 : Go.Proofs.SlLaysF.n20 Tryz.prog Tryz.laysSlF20_f100_ren := {
  mixed := by kernel_rfl
  f20 := ⟨Tryz.f100.name, by decide, Tryz.func100.trans (congrArg some (by kernel_rfl))⟩
  t0 := Tryz.underlying0
  a0 := Tryz.isAgg0
  z0 := Tryz.sizeOf0
  v0 := Tryz.zeroValue0
  t3 := Tryz.underlying3
  a3 := Tryz.isAgg3
  z3 := Tryz.sizeOf3
  v3 := Tryz.zeroValue3
  t4 := Tryz.underlying4
  a4 := Tryz.isAgg4
  z4 := Tryz.sizeOf4
  v4 := Tryz.zeroValue4
  t22 := Tryz.underlying28
  a22 := Tryz.isAgg28
  z22 := Tryz.sizeOf28
  v22 := Tryz.zeroValue28
  a24 := Tryz.isAgg22
  z24 := Tryz.sizeOf22
  t25 := Tryz.underlying96
  a25 := Tryz.isAgg96
  z25 := Tryz.sizeOf96
  v25 := Tryz.zeroValue96 }
open Go.RowKit Go.Lib Go.Sort in
theorem Tryz.insertionSortCmpFunc_one {α : Type} [Inhabited α] (enc : α → Value) (hO : OneCell enc) (cf : α → α → Int) (g : Nat) (cb : Array Value) (blk off cap a b : Nat) (d : Array α) (w : World) (eg : ∀ args w, (callFunc g args).run Tryz.prog w = .ok (.enter g args) w) (hcmp : CmpReads Tryz.prog g cb enc cf blk off d.size w) (hH : Holds enc w blk off d) (hab : a ≤ b) (hb : b ≤ d.size) (hsz : d.size < 4611686018427387904) :
    Calls Tryz.prog 100 #[.slice (some ⟨blk, off, none⟩) d.size cap, .int .i64 a, .int .i64 b, .func (.func g) #[] cb] w fun e w' =>
      e = .returned (.tuple #[]) ∧ ∃ n, w' = (putRow enc w blk off (Sort.insertionSort (ltOf cf) d a b)).drewN n := Any.insertionSortCmpFunc_one Tryz.laysSlF20_f100 enc hO cf g cb blk off cap a b d w eg hcmp hH hab hb hsz
def Tryz.laysSlM5_f61_ren : Go.Shelf.Ren := ⟨fun | 5 => 61 | 8 => 44 | 7 => 90 | 19 => 79 | 20 => 80 | 10 => 110 | 11 => 111 | 12 => 112 | 13 => 113 | 14 => 114 | 15 => 115 | 16 => 116 | 17 => 117 | 18 => 118 | 30 => 135 | 31 => 95 | 32 => 96 | 33 => 136 | 34 => 137 | 35 => 109 | 40 => 144 | n => n, fun | 23 => 129 | 25 => 2 | 3 => 3 | 32 => 94 | 22 => 129 | 0 => 0 | 44 => 153 | 46 => 155 | 4 => 4 | 36 => 146 | 35 => 145 | 41 => 135 | 5 => 5 | 9 => 9 | 53 => 177 | 57 => 181 | 63 => 205 | 64 => 206 | n => n, fun | n => n⟩
theorem Tryz.laysSlM5_f61 : Go.Proofs.SlLaysM.n5 Tryz.prog Tryz.laysSlM5_f61_ren := {
  mixed := by kernel_rfl
  f5 := ⟨Tryz.f61.name, by decide, Tryz.func61.trans (congrArg some (by kernel_rfl))⟩
  f7 := ⟨Tryz.f90.name, by decide, Tryz.func90.trans (congrArg some (by kernel_rfl))⟩
  f8 := Tryz.func44.trans (congrArg some (by kernel_rfl))
  f10 := ⟨Tryz.f110.name, by decide, Tryz.func110.trans (congrArg some (by kernel_rfl))⟩
  f11 := ⟨Tryz.f111.name, by decide, Tryz.func111.trans (congrArg some (by kernel_rfl))⟩
  f12 := ⟨Tryz.f112.name, by decide, Tryz.func112.trans (congrArg some (by kernel_rfl))⟩
  f13 := ⟨Tryz.f113.name, by decide, Tryz.func113.trans (congrArg some (by kernel_rfl))⟩
  f14 := ⟨Tryz.f114.name, by decide, Tryz.func114.trans (congrArg some (by kernel_rfl))⟩
  f15 := ⟨Tryz.f115.name, by decide, Tryz.func115.trans (congrArg some (by kernel_rfl))⟩
  f16 := ⟨Tryz.f116.name, by decide, Tryz.func116.trans (congrArg some (by kernel_rfl))⟩
  f17 := ⟨Tryz.f117.name, by decide, Tryz.func117.trans (congrArg some (by kernel_rfl))⟩
  f18 := ⟨Tryz.f118.name, by decide, Tryz.func118.trans (congrArg some (by kernel_rfl))⟩
  f19 := Tryz.func79.trans (congrArg some (by kernel_rfl))
  f20 := Tryz.func80.trans (congrArg some (by kernel_rfl))
  f30 := ⟨Tryz.f135.name, by decide, Tryz.func135.trans (congrArg some (by kernel_rfl))⟩
  f31 := Tryz.func95.trans (congrArg some (by kernel_rfl))
  f32 := Tryz.func96.trans (congrArg some (by kernel_rfl))
  f33 := ⟨Tryz.f136.name, by decide, Tryz.func136.trans (congrArg some (by kernel_rfl))⟩
  f34 := ⟨Tryz.f137.name, by decide, Tryz.func137.trans (congrArg some (by kernel_rfl))⟩
  f35 := ⟨Tryz.f109.name, by decide, Tryz.func109.trans (congrArg some (by kernel_rfl))⟩
  f40 := ⟨Tryz.f144.name, by decide, Tryz.func144.trans (congrArg some (by kernel_rfl))⟩
  t0 := Tryz.underlying0
  a0 := Tryz.isAgg0
  z0 := Tryz.sizeOf0
  v0 := Tryz.zeroValue0
  t3 := Tryz.underlying3
  a3 := Tryz.isAgg3
  z3 := Tryz.sizeOf3
  v3 := Tryz.zeroValue3
  t4 := Tryz.underlying4
  a4 := Tryz.isAgg4
  z4 := Tryz.sizeOf4
  v4 := Tryz.zeroValue4
  t5 := Tryz.underlying5
  a5 := Tryz.isAgg5
  z5 := Tryz.sizeOf5
  v5 := Tryz.zeroValue5
  t9 := Tryz.underlying9
  a9 := Tryz.isAgg9
  z9 := Tryz.sizeOf9
  v9 := Tryz.zeroValue9
  t22 := Tryz.underlying129
  a22 := Tryz.isAgg129
  z22 := Tryz.sizeOf129
  v22 := Tryz.zeroValue129
  t23 := Tryz.underlying129
  a23 := Tryz.isAgg129
  z23 := Tryz.sizeOf129
  v23 := Tryz.zeroValue129
  t25 := Tryz.underlying2
  a25 := Tryz.isAgg2
  z25 := Tryz.sizeOf2
  v25 := Tryz.zeroValue2
  t32 := Tryz.underlying94
  a32 := Tryz.isAgg94
  z32 := Tryz.sizeOf94
  v32 := Tryz.zeroValue94
  t35 := Tryz.underlying145
  a35 := Tryz.isAgg145
  z35 := Tryz.sizeOf145
  v35 := Tryz.zeroValue145
  t36 := Tryz.underlying146
  a36 := Tryz.isAgg146
  z36 := Tryz.sizeOf146
  v36 := Tryz.zeroValue146
  t41 := Tryz.underlying135
  a41 := Tryz.isAgg135
  z41 := Tryz.sizeOf135
  v41 := Tryz.zeroValue135
  t44 := Tryz.underlying153
  a44 := Tryz.isAgg153
  z44 := Tryz.sizeOf153
  v44 := Tryz.zeroValue153
  t46 := Tryz.underlying155
  a46 := Tryz.isAgg155
  z46 := Tryz.sizeOf155
  v46 := Tryz.zeroValue155
  t53 := Tryz.underlying177
  a53 := Tryz.isAgg177
  z53 := Tryz.sizeOf177
  v53 := Tryz.zeroValue177
  t57 := Tryz.underlying181
  a57 := Tryz.isAgg181
  z57 := Tryz.sizeOf181
  v57 := Tryz.zeroValue181
  t63 := Tryz.underlying205
  a63 := Tryz.isAgg205
  z63 := Tryz.sizeOf205
  v63 := Tryz.zeroValue205
  t64 := Tryz.underlying206
  a64 := Tryz.isAgg206
  z64 := Tryz.sizeOf206
  v64 := Tryz.zeroValue206 }
open Go.Sort Go.RowKit in
theorem Tryz.slices_Sort_int_f61 (blk off cap : Nat) (zs : List Int) (w : World) (hH : Holds (Value.int .i64) w blk off zs.toArray) (hblk : blk < w.heap.size) (hsz : zs.length < 4611686018427387904) :
    Calls Tryz.prog 61 #[.slice (some ⟨blk, off, none⟩) zs.length cap] w fun e w' =>
      e = .returned (.tuple #[]) ∧ ∃ n os, w' = grow (putRow (Value.int .i64) (Sort.ahead w n) blk off (zs.mergeSort fun x y => decide (x ≤ y)).toArray) os := AnyM.slices_Sort_int Tryz.laysSlM5_f61 blk off cap zs w hH hblk hsz
open Go.RowKit Go.Sort in
/-- .. and plain. (LAID AT THE INSTANCE 'slices.Sort[[]int64,int64]': no walk: one application.) -/
theorem Tryz.slices_Sort_int_none_f61 (p : Option Addr) (cap : Nat) (w : World) :
    Calls Tryz.prog 61 #[.slice p 0 cap] w fun e w' => e = .returned (.tuple #[]) ∧ w' = w := AnyM.slices_Sort_int_none Tryz.laysSlM5_f61 p cap w
def Tryz.laysSlF46_f124_ren : Go.Shelf.Ren := ⟨fun | 46 => 124 | n => n, fun | 24 => 22 | 22 => 28 | 3 => 3 | 25 => 96 | 4 => 4 | 0 => 0 | n => n, fun | n => n⟩
theorem Tryz.laysSlF46_f124 : Go.Proofs.SlLaysF.n46 Tryz.prog Tryz.laysSlF46_f124_ren := {
  mixed := by kernel_rfl
  f46 := ⟨Tryz.f124.name, by decide, Tryz.func124.trans (congrArg some (by kernel_rfl))⟩
  t0 := Tryz.underlying0
  a0 := Tryz.isAgg0
  z0 := Tryz.sizeOf0
  v0 := Tryz.zeroValue0
  t3 := Tryz.underlying3
  a3 := Tryz.isAgg3
  z3 := Tryz.sizeOf3
  v3 := Tryz.zeroValue3
  t4 := Tryz.underlying4
  a4 := Tryz.isAgg4
  z4 := Tryz.sizeOf4
  v4 := Tryz.zeroValue4
  t22 := Tryz.underlying28
  a22 := Tryz.isAgg28
  z22 := Tryz.sizeOf28
  v22 := Tryz.zeroValue28
  a24 := Tryz.isAgg22
  z24 := Tryz.sizeOf22
  t25 := Tryz.underlying96
  a25 := Tryz.isAgg96
  z25 := Tryz.sizeOf96
  v25 := Tryz.zeroValue96 }
open Go.RowKit Go.Lib Go.Sort in
/-- slices.siftDownCmpFunc at elements of one cell: from a world of the sort's to a world of the sort's. (LAID AT THE INSTANCE 'slices.siftDownCmpFunc[[]int]': no walk: one application.) -/
theorem Tryz.siftDownCmpFunc {α : Type} [Inhabited α] (enc : α → Value) (cf : α → α → Int) (g : Nat) (cb : Array Value) (blk off cap lo hi first : Nat) (d0 d : Array α) (w0 w : World) (eg : ∀ args w, (callFunc g args).run Tryz.prog w = .ok (.enter g args) w) (hcmp : CmpLays1 Tryz.prog g cb enc cf blk off d0.size w0) (R : Row1 enc w0 blk off d0) (hs : d0.size = d.size) (S : SW enc w0 blk off d w) (hlo : lo ≤ hi) (hb : first + hi ≤ d.size) (hsz : d.size < 4611686018427387904) :
    Calls Tryz.prog 124 #[.slice (some ⟨blk, off, none⟩) d.size cap, .int .i64 lo, .int .i64 hi, .int .i64 first, .func (.func g) #[] cb] w fun e w' =>
      e = .returned (.tuple #[]) ∧ SW enc w0 blk off (siftDown (ltOf cf) hi first lo d) w' := Any.siftDownCmpFunc Tryz.laysSlF46_f124 enc cf g cb blk off cap lo hi first d0 d w0 w eg hcmp R hs S hlo hb hsz
def Tryz.laysSlF21_f101_ren : Go.Shelf.Ren := ⟨fun | 21 => 101 | 46 => 124 | n => n, fun | 24 => 22 | 22 => 28 | 3 => 3 | 25 => 96 | 4 => 4 | 0 => 0 | n => n, fun | n => n⟩
theorem Tryz.laysSlF21_f101 : Go.Proofs.SlLaysF.n21 Tryz.prog Tryz.laysSlF21_f101_ren := {
  mixed := by kernel_rfl
  f21 := ⟨Tryz.f101.name, by decide, Tryz.func101.trans (congrArg some (by kernel_rfl))⟩
  f46 := ⟨Tryz.f124.name, by decide, Tryz.func124.trans (congrArg some (by kernel_rfl))⟩
  t0 := Tryz.underlying0
  a0 := Tryz.isAgg0
  z0 := Tryz.sizeOf0
  v0 := Tryz.zeroValue0
  t3 := Tryz.underlying3
  a3 := Tryz.isAgg3
  z3 := Tryz.sizeOf3
  v3 := Tryz.zeroValue3
  t4 := Tryz.underlying4
  a4 := Tryz.isAgg4
  z4 := Tryz.sizeOf4
  v4 := Tryz.zeroValue4
  t22 := Tryz.underlying28
  a22 := Tryz.isAgg28
  z22 := Tryz.sizeOf28
  v22 := Tryz.zeroValue28
  a24 := Tryz.isAgg22
  z24 := Tryz.sizeOf22
  t25 := Tryz.underlying96
  a25 := Tryz.isAgg96
  z25 := Tryz.sizeOf96
  v25 := Tryz.zeroValue96 }
open Go.RowKit Go.Lib Go.Sort in
/-- slices.heapSortCmpFunc at elements of one cell. (LAID AT THE INSTANCE 'slices.heapSortCmpFunc[[]int]': no walk: one application.) -/
theorem Tryz.heapSortCmpFunc {α : Type} [Inhabited α] (enc : α → Value) (cf : α → α → Int) (g : Nat) (cb : Array Value) (blk off cap a b : Nat) (d0 d : Array α) (w0 w : World) (eg : ∀ args w, (callFunc g args).run Tryz.prog w = .ok (.enter g args) w) (hcmp : CmpLays1 Tryz.prog g cb enc cf blk off d0.size w0) (R : Row1 enc w0 blk off d0) (hs : d0.size = d.size) (S : SW enc w0 blk off d w) (hab : a ≤ b) (hb : b ≤ d.size) (hsz : d.size < 4611686018427387904) :
    Calls Tryz.prog 101 #[.slice (some ⟨blk, off, none⟩) d.size cap, .int .i64 a, .int .i64 b, .func (.func g) #[] cb] w fun e w' =>
      e = .returned (.tuple #[]) ∧ SW enc w0 blk off (heapSort (ltOf cf) d a b) w' := Any.heapSortCmpFunc Tryz.laysSlF21_f101 enc cf g cb blk off cap a b d0 d w0 w eg hcmp R hs S hab hb hsz
open Go.RowKit Go.Lib Go.Sort in
/-- slices.insertionSortCmpFunc at elements of one cell: from a world of the sort's to a world of the sort's. (LAID AT THE INSTANCE 'slices.insertionSortCmpFunc[[]int]': no walk: one application.) -/
theorem Tryz.insertionSortCmpFunc_s {α : Type} [Inhabited α] (enc : α → Value) (cf : α → α → Int) (g : Nat) (cb : Array Value) (blk off cap a b : Nat) (d0 d : Array α) (w0 w : World) (eg : ∀ args w, (callFunc g args).run Tryz.prog w = .ok (.enter g args) w) (hcmp : CmpLays1 Tryz.prog g cb enc cf blk off d0.size w0) (R : Row1 enc w0 blk off d0) (hs : d0.size = d.size) (S : SW enc w0 blk off d w) (hab : a ≤ b) (hb : b ≤ d.size) (hsz : d.size < 4611686018427387904) :
    Calls Tryz.prog 100 #[.slice (some ⟨blk, off, none⟩) d.size cap, .int .i64 a, .int .i64 b, .func (.func g) #[] cb] w fun e w' => e = .returned (.tuple #[]) ∧ SW enc w0 blk off (Sort.insertionSort (ltOf cf) d a b) w' := Any.insertionSortCmpFunc_s Tryz.laysSlF20_f100 enc cf g cb blk off cap a b d0 d w0 w eg hcmp R hs S hab hb hsz
def Tryz.laysSlF57_f140_ren : Go.Shelf.Ren := ⟨fun | 57 => 140 | n => n, fun | 24 => 22 | 22 => 28 | 3 => 3 | 70 => 181 | 25 => 96 | 0 => 0 | 4 => 4 | n => n, fun | n => n⟩
theorem Tryz.laysSlF57_f140 : Go.Proofs.SlLaysF.n57 Tryz.prog Tryz.laysSlF57_f140_ren := {
  mixed := by kernel_rfl
  f57 := ⟨Tryz.f140.name, by decide, Tryz.func140.trans (congrArg some (by kernel_rfl))⟩
  t0 := Tryz.underlying0
  a0 := Tryz.isAgg0
  z0 := Tryz.sizeOf0
  v0 := Tryz.zeroValue0
  t3 := Tryz.underlying3
  a3 := Tryz.isAgg3
  z3 := Tryz.sizeOf3
  v3 := Tryz.zeroValue3
  t4 := Tryz.underlying4
  a4 := Tryz.isAgg4
  z4 := Tryz.sizeOf4
  v4 := Tryz.zeroValue4
  t22 := Tryz.underlying28
  a22 := Tryz.isAgg28
  z22 := Tryz.sizeOf28
  v22 := Tryz.zeroValue28
  a24 := Tryz.isAgg22
  z24 := Tryz.sizeOf22
  t25 := Tryz.underlying96
  a25 := Tryz.isAgg96
  z25 := Tryz.sizeOf96
  v25 := Tryz.zeroValue96
  t70 := Tryz.underlying181
  a70 := Tryz.isAgg181
  z70 := Tryz.sizeOf181
  v70 := Tryz.zeroValue181 }
open Go.RowKit Go.Lib Go.Sort in
/-- slices.order2CmpFunc at elements of one cell. (LAID AT THE INSTANCE 'slices.order2CmpFunc[[]int]': no walk: one application.) -/
theorem Tryz.order2CmpFunc {α : Type} [Inhabited α] (enc : α → Value) (cf : α → α → Int) (g : Nat) (cb : Array Value) (blk off cap a b c s : Nat) (d0 d : Array α) (w0 W : World) (eg : ∀ args w, (callFunc g args).run Tryz.prog w = .ok (.enter g args) w) (hcmp : CmpLays1 Tryz.prog g cb enc cf blk off d0.size w0) (R : Row1 enc w0 blk off d0) (hs : d0.size = d.size) (C : Cnt1 enc w0 blk off d c s W) (ha : a < d.size) (hb : b < d.size) (hsz : d.size < 4611686018427387904) (hss : s < 4611686018427387904) :
    Calls Tryz.prog 140 #[.slice (some ⟨blk, off, none⟩) d.size cap, .int .i64 a, .int .i64 b, .pointer (some ⟨c, 0, none⟩), .func (.func g) #[] cb] W fun e w' =>
      e = .returned (.tuple #[.int .i64 (order2 (ltOf cf) d a b s).1, .int .i64 (order2 (ltOf cf) d a b s).2.1]) ∧ Cnt1 enc w0 blk off d c (order2 (ltOf cf) d a b s).2.2 w' := Any.order2CmpFunc Tryz.laysSlF57_f140 enc cf g cb blk off cap a b c s d0 d w0 W eg hcmp R hs C ha hb hsz hss
def Tryz.laysSlF50_f126_ren : Go.Shelf.Ren := ⟨fun | 50 => 126 | 57 => 140 | n => n, fun | 24 => 22 | 22 => 28 | 3 => 3 | 70 => 181 | 25 => 96 | 77 => 206 | 0 => 0 | 4 => 4 | n => n, fun | n => n⟩
theorem Tryz.laysSlF50_f126 : Go.Proofs.SlLaysF.n50 Tryz.prog Tryz.laysSlF50_f126_ren := {
  mixed := by kernel_rfl
  f50 := ⟨Tryz.f126.name, by decide, Tryz.func126.trans (congrArg some (by kernel_rfl))⟩
  f57 := ⟨Tryz.f140.name, by decide, Tryz.func140.trans (congrArg some (by kernel_rfl))⟩
  t0 := Tryz.underlying0
  a0 := Tryz.isAgg0
  z0 := Tryz.sizeOf0
  v0 := Tryz.zeroValue0
  t3 := Tryz.underlying3
  a3 := Tryz.isAgg3
  z3 := Tryz.sizeOf3
  v3 := Tryz.zeroValue3
  t4 := Tryz.underlying4
  a4 := Tryz.isAgg4
  z4 := Tryz.sizeOf4
  v4 := Tryz.zeroValue4
  t22 := Tryz.underlying28
  a22 := Tryz.isAgg28
  z22 := Tryz.sizeOf28
  v22 := Tryz.zeroValue28
  a24 := Tryz.isAgg22
  z24 := Tryz.sizeOf22
  t25 := Tryz.underlying96
  a25 := Tryz.isAgg96
  z25 := Tryz.sizeOf96
  v25 := Tryz.zeroValue96
  t70 := Tryz.underlying181
  a70 := Tryz.isAgg181
  z70 := Tryz.sizeOf181
  v70 := Tryz.zeroValue181
  t77 := Tryz.underlying206
  a77 := Tryz.isAgg206
  z77 := Tryz.sizeOf206
  v77 := Tryz.zeroValue206 }
open Go.RowKit Go.Lib Go.Sort in
/-- slices.medianCmpFunc at elements of one cell. (LAID AT THE INSTANCE 'slices.medianCmpFunc[[]int]': no walk: one application.) -/
theorem Tryz.medianCmpFunc {α : Type} [Inhabited α] (enc : α → Value) (cf : α → α → Int) (g : Nat) (cb : Array Value) (blk off cap a b c' c s : Nat) (d0 d : Array α) (w0 W : World) (eg : ∀ args w, (callFunc g args).run Tryz.prog w = .ok (.enter g args) w) (hcmp : CmpLays1 Tryz.prog g cb enc cf blk off d0.size w0) (R : Row1 enc w0 blk off d0) (hs : d0.size = d.size) (C : Cnt1 enc w0 blk off d c s W) (ha : a < d.size) (hb : b < d.size) (hc : c' < d.size) (hsz : d.size < 4611686018427387904) (hss : s + 3 < 4611686018427387904) :
    Calls Tryz.prog 126 #[.slice (some ⟨blk, off, none⟩) d.size cap, .int .i64 a, .int .i64 b, .int .i64 c', .pointer (some ⟨c, 0, none⟩), .func (.func g) #[] cb] W fun e w' =>
      e = .returned (.int .i64 (median (ltOf cf) d a b c' s).1) ∧ Cnt1 enc w0 blk off d c (median (ltOf cf) d a b c' s).2 w' := Any.medianCmpFunc Tryz.laysSlF50_f126 enc cf g cb blk off cap a b c' c s d0 d w0 W eg hcmp R hs C ha hb hc hsz hss
def Tryz.laysSlF49_f125_ren : Go.Shelf.Ren := ⟨fun | 49 => 125 | 50 => 126 | 57 => 140 | n => n, fun | 24 => 22 | 22 => 28 | 3 => 3 | 70 => 181 | 25 => 96 | 77 => 206 | 0 => 0 | 4 => 4 | n => n, fun | n => n⟩
theorem Tryz.laysSlF49_f125 : Go.Proofs.SlLaysF.n49 Tryz.prog Tryz.laysSlF49_f125_ren := {
  mixed := by kernel_rfl
  f49 := ⟨Tryz.f125.name, by decide, Tryz.func125.trans (congrArg some (by kernel_rfl))⟩
  f50 := ⟨Tryz.f126.name, by decide, Tryz.func126.trans (congrArg some (by kernel_rfl))⟩
  f57 := ⟨Tryz.f140.name, by decide, Tryz.func140.trans (congrArg some (by kernel_rfl))⟩
  t0 := Tryz.underlying0
  a0 := Tryz.isAgg0
  z0 := Tryz.sizeOf0
  v0 := Tryz.zeroValue0
  t3 := Tryz.underlying3
  a3 := Tryz.isAgg3
  z3 := Tryz.sizeOf3
  v3 := Tryz.zeroValue3
  t4 := Tryz.underlying4
  a4 := Tryz.isAgg4
  z4 := Tryz.sizeOf4
  v4 := Tryz.zeroValue4
  t22 := Tryz.underlying28
  a22 := Tryz.isAgg28
  z22 := Tryz.sizeOf28
  v22 := Tryz.zeroValue28
  a24 := Tryz.isAgg22
  z24 := Tryz.sizeOf22
  t25 := Tryz.underlying96
  a25 := Tryz.isAgg96
  z25 := Tryz.sizeOf96
  v25 := Tryz.zeroValue96
  t70 := Tryz.underlying181
  a70 := Tryz.isAgg181
  z70 := Tryz.sizeOf181
  v70 := Tryz.zeroValue181
  t77 := Tryz.underlying206
  a77 := Tryz.isAgg206
  z77 := Tryz.sizeOf206
  v77 := Tryz.zeroValue206 }
open Go.RowKit Go.Lib Go.Sort in
/-- slices.medianAdjacentCmpFunc at elements of one cell. (LAID AT THE INSTANCE 'slices.medianAdjacentCmpFunc[[]int]': no walk: one application.) -/
theorem Tryz.medianAdjacentCmpFunc {α : Type} [Inhabited α] (enc : α → Value) (cf : α → α → Int) (g : Nat) (cb : Array Value) (blk off cap a c s : Nat) (d0 d : Array α) (w0 W : World) (eg : ∀ args w, (callFunc g args).run Tryz.prog w = .ok (.enter g args) w) (hcmp : CmpLays1 Tryz.prog g cb enc cf blk off d0.size w0) (R : Row1 enc w0 blk off d0) (hs : d0.size = d.size) (C : Cnt1 enc w0 blk off d c s W) (ha1 : 1 ≤ a) (ha2 : a + 1 < d.size) (hsz : d.size < 4611686018427387904) (hss : s + 3 < 4611686018427387904) :
    Calls Tryz.prog 125 #[.slice (some ⟨blk, off, none⟩) d.size cap, .int .i64 a, .pointer (some ⟨c, 0, none⟩), .func (.func g) #[] cb] W fun e w' =>
      e = .returned (.int .i64 (medianAdjacent (ltOf cf) d a s).1) ∧ Cnt1 enc w0 blk off d c (medianAdjacent (ltOf cf) d a s).2 w' := Any.medianAdjacentCmpFunc Tryz.laysSlF49_f125 enc cf g cb blk off cap a c s d0 d w0 W eg hcmp R hs C ha1 ha2 hsz hss
def Tryz.laysSlF23_f103_ren : Go.Shelf.Ren := ⟨fun | 23 => 103 | 49 => 125 | 50 => 126 | 57 => 140 | n => n, fun | 24 => 22 | 22 => 28 | 3 => 3 | 25 => 96 | 45 => 145 | 0 => 0 | 4 => 4 | 70 => 181 | 77 => 206 | n => n, fun | n => n⟩
theorem Tryz.laysSlF23_f103 : Go.Proofs.SlLaysF.n23 Tryz.prog Tryz.laysSlF23_f103_ren := {
  mixed := by kernel_rfl
  f23 := ⟨Tryz.f103.name, by decide, Tryz.func103.trans (congrArg some (by kernel_rfl))⟩
  f49 := ⟨Tryz.f125.name, by decide, Tryz.func125.trans (congrArg some (by kernel_rfl))⟩
  f50 := ⟨Tryz.f126.name, by decide, Tryz.func126.trans (congrArg some (by kernel_rfl))⟩
  f57 := ⟨Tryz.f140.name, by decide, Tryz.func140.trans (congrArg some (by kernel_rfl))⟩
  t0 := Tryz.underlying0
  a0 := Tryz.isAgg0
  z0 := Tryz.sizeOf0
  v0 := Tryz.zeroValue0
  t3 := Tryz.underlying3
  a3 := Tryz.isAgg3
  z3 := Tryz.sizeOf3
  v3 := Tryz.zeroValue3
  t4 := Tryz.underlying4
  a4 := Tryz.isAgg4
  z4 := Tryz.sizeOf4
  v4 := Tryz.zeroValue4
  t22 := Tryz.underlying28
  a22 := Tryz.isAgg28
  z22 := Tryz.sizeOf28
  v22 := Tryz.zeroValue28
  a24 := Tryz.isAgg22
  z24 := Tryz.sizeOf22
  t25 := Tryz.underlying96
  a25 := Tryz.isAgg96
  z25 := Tryz.sizeOf96
  v25 := Tryz.zeroValue96
  t45 := Tryz.underlying145
  a45 := Tryz.isAgg145
  z45 := Tryz.sizeOf145
  v45 := Tryz.zeroValue145
  t70 := Tryz.underlying181
  a70 := Tryz.isAgg181
  z70 := Tryz.sizeOf181
  v70 := Tryz.zeroValue181
  t77 := Tryz.underlying206
  a77 := Tryz.isAgg206
  z77 := Tryz.sizeOf206
  v77 := Tryz.zeroValue206 }
open Go.RowKit Go.Lib Go.Sort in
/-- slices.choosePivotCmpFunc at elements of one cell: THE LIBRARY's OWN TEXT COMPUTES 'Sort.choosePivot (ltOf cf) d a b'; the row is not turned. (After Derived/Shelf/SlSortFuncK/PivotK.lean, row for row; the counter's world by 'CntK'.) (LAID AT THE INSTANCE 'slices.choosePivotCmpFunc[[]int]': no walk: one application.) -/
theorem Tryz.choosePivotCmpFunc {α : Type} [Inhabited α] (enc : α → Value) (cf : α → α → Int) (g : Nat) (cb : Array Value) (blk off cap a b : Nat) (d0 d : Array α) (w0 W : World) (eg : ∀ args w, (callFunc g args).run Tryz.prog w = .ok (.enter g args) w) (hcmp : CmpLays1 Tryz.prog g cb enc cf blk off d0.size w0) (R : Row1 enc w0 blk off d0) (hs : d0.size = d.size) (S : SW enc w0 blk off d W) (hab : a < b) (hb : b ≤ d.size) (hsz : d.size < 4611686018427387904) :
    Calls Tryz.prog 103 #[.slice (some ⟨blk, off, none⟩) d.size cap, .int .i64 a, .int .i64 b, .func (.func g) #[] cb] W fun e w' =>
      e = .returned (.tuple #[.int .i64 (choosePivot (ltOf cf) d a b).1, .int .i64 (hintCode (choosePivot (ltOf cf) d a b).2)]) ∧ SW enc w0 blk off d w' := Any.choosePivotCmpFunc Tryz.laysSlF23_f103 enc cf g cb blk off cap a b d0 d w0 W eg hcmp R hs S hab hb hsz
def Tryz.laysSlF24_f104_ren : Go.Shelf.Ren := ⟨fun | 24 => 104 | n => n, fun | 24 => 22 | 22 => 28 | 3 => 3 | 25 => 96 | 4 => 4 | 0 => 0 | n => n, fun | n => n⟩
theorem Tryz.laysSlF24_f104 : Go.Proofs.SlLaysF.n24 Tryz.prog Tryz.laysSlF24_f104_ren := {
  mixed := by kernel_rfl
  f24 := ⟨Tryz.f104.name, by decide, Tryz.func104.trans (congrArg some (by kernel_rfl))⟩
  t0 := Tryz.underlying0
  a0 := Tryz.isAgg0
  z0 := Tryz.sizeOf0
  v0 := Tryz.zeroValue0
  t3 := Tryz.underlying3
  a3 := Tryz.isAgg3
  z3 := Tryz.sizeOf3
  v3 := Tryz.zeroValue3
  t4 := Tryz.underlying4
  a4 := Tryz.isAgg4
  z4 := Tryz.sizeOf4
  v4 := Tryz.zeroValue4
  t22 := Tryz.underlying28
  a22 := Tryz.isAgg28
  z22 := Tryz.sizeOf28
  v22 := Tryz.zeroValue28
  a24 := Tryz.isAgg22
  z24 := Tryz.sizeOf22
  t25 := Tryz.underlying96
  a25 := Tryz.isAgg96
  z25 := Tryz.sizeOf96
  v25 := Tryz.zeroValue96 }
open Go.RowKit Go.Lib Go.Sort in
/-- slices.reverseRangeCmpFunc at elements of one cell: it exchanges and does not compare. (LAID AT THE INSTANCE 'slices.reverseRangeCmpFunc[[]int]': no walk: one application.) -/
theorem Tryz.reverseRangeCmpFunc {α : Type} [Inhabited α] (enc : α → Value) (g : Nat) (cb : Array Value) (blk off cap a b : Nat) (d0 d : Array α) (w0 w : World) (R : Row1 enc w0 blk off d0) (hs : d0.size = d.size) (S : SW enc w0 blk off d w) (hab : a ≤ b) (hb : b ≤ d.size) (hsz : d.size < 4611686018427387904) :
    Calls Tryz.prog 104 #[.slice (some ⟨blk, off, none⟩) d.size cap, .int .i64 a, .int .i64 b, .func (.func g) #[] cb] w fun e w' => e = .returned (.tuple #[]) ∧ SW enc w0 blk off (reverseRange d a b) w' := Any.reverseRangeCmpFunc Tryz.laysSlF24_f104 enc g cb blk off cap a b d0 d w0 w R hs S hab hb hsz
def Tryz.laysSlF25_f105_ren : Go.Shelf.Ren := ⟨fun | 25 => 105 | n => n, fun | 24 => 22 | 22 => 28 | 3 => 3 | 25 => 96 | 4 => 4 | 0 => 0 | n => n, fun | n => n⟩
theorem Tryz.laysSlF25_f105 : Go.Proofs.SlLaysF.n25 Tryz.prog Tryz.laysSlF25_f105_ren := {
  mixed := by kernel_rfl
  f25 := ⟨Tryz.f105.name, by decide, Tryz.func105.trans (congrArg some (by kernel_rfl))⟩
  t0 := Tryz.underlying0
  a0 := Tryz.isAgg0
  z0 := Tryz.sizeOf0
  v0 := Tryz.zeroValue0
  t3 := Tryz.underlying3
  a3 := Tryz.isAgg3
  z3 := Tryz.sizeOf3
  v3 := Tryz.zeroValue3
  t4 := Tryz.underlying4
  a4 := Tryz.isAgg4
  z4 := Tryz.sizeOf4
  v4 := Tryz.zeroValue4
  t22 := Tryz.underlying28
  a22 := Tryz.isAgg28
  z22 := Tryz.sizeOf28
  v22 := Tryz.zeroValue28
  a24 := Tryz.isAgg22
  z24 := Tryz.sizeOf22
  t25 := Tryz.underlying96
  a25 := Tryz.isAgg96
  z25 := Tryz.sizeOf96
  v25 := Tryz.zeroValue96 }
open Go.RowKit Go.Lib Go.Sort in
/-- slices.partialInsertionSortCmpFunc at elements of one cell. (LAID AT THE INSTANCE 'slices.partialInsertionSortCmpFunc[[]int]': no walk: one application.) -/
theorem Tryz.partialInsertionSortCmpFunc {α : Type} [Inhabited α] (enc : α → Value) (cf : α → α → Int) (g : Nat) (cb : Array Value) (blk off cap a b : Nat) (d0 d : Array α) (w0 w : World) (eg : ∀ args w, (callFunc g args).run Tryz.prog w = .ok (.enter g args) w) (hcmp : CmpLays1 Tryz.prog g cb enc cf blk off d0.size w0) (R : Row1 enc w0 blk off d0) (hs : d0.size = d.size) (S : SW enc w0 blk off d w) (hab : a < b) (hb : b ≤ d.size) (hsz : d.size < 4611686018427387904) :
    Calls Tryz.prog 105 #[.slice (some ⟨blk, off, none⟩) d.size cap, .int .i64 a, .int .i64 b, .func (.func g) #[] cb] w fun e w' =>
      e = .returned (.bool (Sort.partialInsertionSort (ltOf cf) d a b).2) ∧ SW enc w0 blk off (Sort.partialInsertionSort (ltOf cf) d a b).1 w' := Any.partialInsertionSortCmpFunc Tryz.laysSlF25_f105 enc cf g cb blk off cap a b d0 d w0 w eg hcmp R hs S hab hb hsz
def Tryz.laysSlF26_f106_ren : Go.Shelf.Ren := ⟨fun | 26 => 106 | n => n, fun | 24 => 22 | 22 => 28 | 3 => 3 | 25 => 96 | 0 => 0 | 4 => 4 | n => n, fun | n => n⟩
theorem Tryz.laysSlF26_f106 : Go.Proofs.SlLaysF.n26 Tryz.prog Tryz.laysSlF26_f106_ren := {
  mixed := by kernel_rfl
  f26 := ⟨Tryz.f106.name, by decide, Tryz.func106.trans (congrArg some (by kernel_rfl))⟩
  t0 := Tryz.underlying0
  a0 := Tryz.isAgg0
  z0 := Tryz.sizeOf0
  v0 := Tryz.zeroValue0
  t3 := Tryz.underlying3
  a3 := Tryz.isAgg3
  z3 := Tryz.sizeOf3
  v3 := Tryz.zeroValue3
  t4 := Tryz.underlying4
  a4 := Tryz.isAgg4
  z4 := Tryz.sizeOf4
  v4 := Tryz.zeroValue4
  t22 := Tryz.underlying28
  a22 := Tryz.isAgg28
  z22 := Tryz.sizeOf28
  v22 := Tryz.zeroValue28
  a24 := Tryz.isAgg22
  z24 := Tryz.sizeOf22
  t25 := Tryz.underlying96
  a25 := Tryz.isAgg96
  z25 := Tryz.sizeOf96
  v25 := Tryz.zeroValue96 }
open Go.RowKit Go.Lib Go.Sort in
/-- slices.partitionEqualCmpFunc at elements of one cell. (After Derived/Shelf/SlSortFuncK/PartitionK.lean, row for row.) (LAID AT THE INSTANCE 'slices.partitionEqualCmpFunc[[]int]': no walk: one application.) -/
theorem Tryz.partitionEqualCmpFunc {α : Type} [Inhabited α] (enc : α → Value) (cf : α → α → Int) (g : Nat) (cb : Array Value) (blk off cap a b pivot : Nat) (d0 d : Array α) (w0 w : World) (eg : ∀ args w, (callFunc g args).run Tryz.prog w = .ok (.enter g args) w) (hcmp : CmpLays1 Tryz.prog g cb enc cf blk off d0.size w0) (R : Row1 enc w0 blk off d0) (hs : d0.size = d.size) (S : SW enc w0 blk off d w) (hap : a ≤ pivot) (hpb : pivot < b) (hb : b ≤ d.size) (hsz : d.size < 4611686018427387904) :
    Calls Tryz.prog 106 #[.slice (some ⟨blk, off, none⟩) d.size cap, .int .i64 a, .int .i64 b, .int .i64 pivot, .func (.func g) #[] cb] w fun e w' =>
      e = .returned (.int .i64 (Sort.partitionEqual (ltOf cf) d a b pivot).1) ∧ SW enc w0 blk off (Sort.partitionEqual (ltOf cf) d a b pivot).2 w' := Any.partitionEqualCmpFunc Tryz.laysSlF26_f106 enc cf g cb blk off cap a b pivot d0 d w0 w eg hcmp R hs S hap hpb hb hsz
def Tryz.laysSlF27_f107_ren : Go.Shelf.Ren := ⟨fun | 27 => 107 | n => n, fun | 24 => 22 | 22 => 28 | 3 => 3 | 25 => 96 | 4 => 4 | 0 => 0 | n => n, fun | n => n⟩
theorem Tryz.laysSlF27_f107 : Go.Proofs.SlLaysF.n27 Tryz.prog Tryz.laysSlF27_f107_ren := {
  mixed := by kernel_rfl
  f27 := ⟨Tryz.f107.name, by decide, Tryz.func107.trans (congrArg some (by kernel_rfl))⟩
  t0 := Tryz.underlying0
  a0 := Tryz.isAgg0
  z0 := Tryz.sizeOf0
  v0 := Tryz.zeroValue0
  t3 := Tryz.underlying3
  a3 := Tryz.isAgg3
  z3 := Tryz.sizeOf3
  v3 := Tryz.zeroValue3
  t4 := Tryz.underlying4
  a4 := Tryz.isAgg4
  z4 := Tryz.sizeOf4
  v4 := Tryz.zeroValue4
  t22 := Tryz.underlying28
  a22 := Tryz.isAgg28
  z22 := Tryz.sizeOf28
  v22 := Tryz.zeroValue28
  a24 := Tryz.isAgg22
  z24 := Tryz.sizeOf22
  t25 := Tryz.underlying96
  a25 := Tryz.isAgg96
  z25 := Tryz.sizeOf96
  v25 := Tryz.zeroValue96 }
open Go.RowKit Go.Lib Go.Sort in
/-- slices.partitionCmpFunc at elements of one cell. (After Derived/Shelf/SlSortFuncK/PartitionK.lean, row for row.) (LAID AT THE INSTANCE 'slices.partitionCmpFunc[[]int]': no walk: one application.) -/
theorem Tryz.partitionCmpFunc {α : Type} [Inhabited α] (enc : α → Value) (cf : α → α → Int) (g : Nat) (cb : Array Value) (blk off cap a b pivot : Nat) (d0 d : Array α) (w0 w : World) (eg : ∀ args w, (callFunc g args).run Tryz.prog w = .ok (.enter g args) w) (hcmp : CmpLays1 Tryz.prog g cb enc cf blk off d0.size w0) (R : Row1 enc w0 blk off d0) (hs : d0.size = d.size) (S : SW enc w0 blk off d w) (hap : a ≤ pivot) (hpb : pivot < b) (hb : b ≤ d.size) (hsz : d.size < 4611686018427387904) :
    Calls Tryz.prog 107 #[.slice (some ⟨blk, off, none⟩) d.size cap, .int .i64 a, .int .i64 b, .int .i64 pivot, .func (.func g) #[] cb] w fun e w' =>
      e = .returned (.tuple #[.int .i64 (Sort.partition (ltOf cf) d a b pivot).1, .bool (Sort.partition (ltOf cf) d a b pivot).2.1]) ∧ SW enc w0 blk off (Sort.partition (ltOf cf) d a b pivot).2.2 w' := Any.partitionCmpFunc Tryz.laysSlF27_f107 enc cf g cb blk off cap a b pivot d0 d w0 w eg hcmp R hs S hap hpb hb hsz
def Tryz.laysSlF14_f81_ren : Go.Shelf.Ren := ⟨fun | 14 => 81 | 20 => 100 | 21 => 101 | 22 => 102 | 23 => 103 | 24 => 104 | 25 => 105 | 26 => 106 | 27 => 107 | 46 => 124 | 47 => 95 | 48 => 96 | 49 => 125 | 50 => 126 | 15 => 44 | 57 => 140 | 28 => 79 | 29 => 80 | n => n, fun | 24 => 22 | 22 => 28 | 3 => 3 | 25 => 96 | 4 => 4 | 0 => 0 | 46 => 146 | 45 => 145 | 50 => 135 | 66 => 177 | 39 => 94 | 55 => 155 | 70 => 181 | 76 => 205 | 77 => 206 | 53 => 153 | 5 => 5 | 9 => 9 | n => n, fun | n => n⟩
theorem Tryz.laysSlF14_f81 : Go.Proofs.SlLaysF.n14 Tryz.prog Tryz.laysSlF14_f81_ren := {
  mixed := by kernel_rfl
  f14 := ⟨Tryz.f81.name, by decide, Tryz.func81.trans (congrArg some (by kernel_rfl))⟩
  f15 := Tryz.func44.trans (congrArg some (by kernel_rfl))
  f20 := ⟨Tryz.f100.name, by decide, Tryz.func100.trans (congrArg some (by kernel_rfl))⟩
  f21 := ⟨Tryz.f101.name, by decide, Tryz.func101.trans (congrArg some (by kernel_rfl))⟩
  f22 := ⟨Tryz.f102.name, by decide, Tryz.func102.trans (congrArg some (by kernel_rfl))⟩
  f23 := ⟨Tryz.f103.name, by decide, Tryz.func103.trans (congrArg some (by kernel_rfl))⟩
  f24 := ⟨Tryz.f104.name, by decide, Tryz.func104.trans (congrArg some (by kernel_rfl))⟩
  f25 := ⟨Tryz.f105.name, by decide, Tryz.func105.trans (congrArg some (by kernel_rfl))⟩
  f26 := ⟨Tryz.f106.name, by decide, Tryz.func106.trans (congrArg some (by kernel_rfl))⟩
  f27 := ⟨Tryz.f107.name, by decide, Tryz.func107.trans (congrArg some (by kernel_rfl))⟩
  f28 := Tryz.func79.trans (congrArg some (by kernel_rfl))
  f29 := Tryz.func80.trans (congrArg some (by kernel_rfl))
  f46 := ⟨Tryz.f124.name, by decide, Tryz.func124.trans (congrArg some (by kernel_rfl))⟩
  f47 := Tryz.func95.trans (congrArg some (by kernel_rfl))
  f48 := Tryz.func96.trans (congrArg some (by kernel_rfl))
  f49 := ⟨Tryz.f125.name, by decide, Tryz.func125.trans (congrArg some (by kernel_rfl))⟩
  f50 := ⟨Tryz.f126.name, by decide, Tryz.func126.trans (congrArg some (by kernel_rfl))⟩
  f57 := ⟨Tryz.f140.name, by decide, Tryz.func140.trans (congrArg some (by kernel_rfl))⟩
  t0 := Tryz.underlying0
  a0 := Tryz.isAgg0
  z0 := Tryz.sizeOf0
  v0 := Tryz.zeroValue0
  t3 := Tryz.underlying3
  a3 := Tryz.isAgg3
  z3 := Tryz.sizeOf3
  v3 := Tryz.zeroValue3
  t4 := Tryz.underlying4
  a4 := Tryz.isAgg4
  z4 := Tryz.sizeOf4
  v4 := Tryz.zeroValue4
  t5 := Tryz.underlying5
  a5 := Tryz.isAgg5
  z5 := Tryz.sizeOf5
  v5 := Tryz.zeroValue5
  t9 := Tryz.underlying9
  a9 := Tryz.isAgg9
  z9 := Tryz.sizeOf9
  v9 := Tryz.zeroValue9
  t22 := Tryz.underlying28
  a22 := Tryz.isAgg28
  z22 := Tryz.sizeOf28
  v22 := Tryz.zeroValue28
  a24 := Tryz.isAgg22
  z24 := Tryz.sizeOf22
  t25 := Tryz.underlying96
  a25 := Tryz.isAgg96
  z25 := Tryz.sizeOf96
  v25 := Tryz.zeroValue96
  t39 := Tryz.underlying94
  a39 := Tryz.isAgg94
  z39 := Tryz.sizeOf94
  v39 := Tryz.zeroValue94
  t45 := Tryz.underlying145
  a45 := Tryz.isAgg145
  z45 := Tryz.sizeOf145
  v45 := Tryz.zeroValue145
  t46 := Tryz.underlying146
  a46 := Tryz.isAgg146
  z46 := Tryz.sizeOf146
  v46 := Tryz.zeroValue146
  t50 := Tryz.underlying135
  a50 := Tryz.isAgg135
  z50 := Tryz.sizeOf135
  v50 := Tryz.zeroValue135
  t53 := Tryz.underlying153
  a53 := Tryz.isAgg153
  z53 := Tryz.sizeOf153
  v53 := Tryz.zeroValue153
  t55 := Tryz.underlying155
  a55 := Tryz.isAgg155
  z55 := Tryz.sizeOf155
  v55 := Tryz.zeroValue155
  t66 := Tryz.underlying177
  a66 := Tryz.isAgg177
  z66 := Tryz.sizeOf177
  v66 := Tryz.zeroValue177
  t70 := Tryz.underlying181
  a70 := Tryz.isAgg181
  z70 := Tryz.sizeOf181
  v70 := Tryz.zeroValue181
  t76 := Tryz.underlying205
  a76 := Tryz.isAgg205
  z76 := Tryz.sizeOf205
  v76 := Tryz.zeroValue205
  t77 := Tryz.underlying206
  a77 := Tryz.isAgg206
  z77 := Tryz.sizeOf206
  v77 := Tryz.zeroValue206 }
open Go.RowKit Go.Lib Go.Sort in
/-- slices.pdqsortCmpFunc at elements of one cell, WHOLE. (After Derived/Shelf/SlSortFuncK/PdqK.lean, row for row: the slots and the regions' numbers are this body's.) (LAID AT THE INSTANCE 'slices.pdqsortCmpFunc[[]int]': no walk: one application.) -/
theorem Tryz.pdqsortCmpFunc_all {α : Type} [Inhabited α] (enc : α → Value) (cf : α → α → Int) (g : Nat) (cb : Array Value) (hO : SWO (ltOf cf)) (blk off cap : Nat) (d0 : Array α) (w0 : World) (eg : ∀ args w, (callFunc g args).run Tryz.prog w = .ok (.enter g args) w) (hcmp : CmpLays1 Tryz.prog g cb enc cf blk off d0.size w0) (R : Row1 enc w0 blk off d0) :
    ∀ (N a b limit : Nat) (d : Array α) (w : World), b - a < N → d0.size = d.size → SW enc w0 blk off d w → a ≤ b → b ≤ d.size → d.size < 4611686018427387904 → limit < 4611686018427387904 → Below (ltOf cf) a b d →
    Calls Tryz.prog 81 #[.slice (some ⟨blk, off, none⟩) d.size cap, .int .i64 a, .int .i64 b, .int .i64 limit, .func (.func g) #[] cb] w fun e w' => e = .returned (.tuple #[]) ∧ SW enc w0 blk off (pdq (ltOf cf) d a b limit true true) w' := Any.pdqsortCmpFunc_all Tryz.laysSlF14_f81 enc cf g cb hO blk off cap d0 w0 eg hcmp R
def Tryz.laysSlF6_f45_ren : Go.Shelf.Ren := ⟨fun | 6 => 45 | 15 => 44 | 14 => 81 | 28 => 79 | 29 => 80 | 20 => 100 | 21 => 101 | 22 => 102 | 23 => 103 | 24 => 104 | 25 => 105 | 26 => 106 | 27 => 107 | 46 => 124 | 47 => 95 | 48 => 96 | 49 => 125 | 50 => 126 | 57 => 140 | n => n, fun | 22 => 28 | 24 => 22 | 25 => 96 | 3 => 3 | 39 => 94 | 0 => 0 | 53 => 153 | 55 => 155 | 4 => 4 | 46 => 146 | 45 => 145 | 50 => 135 | 5 => 5 | 9 => 9 | 66 => 177 | 70 => 181 | 76 => 205 | 77 => 206 | n => n, fun | n => n⟩
theorem Tryz.laysSlF6_f45 : Go.Proofs.SlLaysF.n6 Tryz.prog Tryz.laysSlF6_f45_ren := {
  mixed := by kernel_rfl
  f6 := ⟨Tryz.f45.name, by decide, Tryz.func45.trans (congrArg some (by kernel_rfl))⟩
  f14 := ⟨Tryz.f81.name, by decide, Tryz.func81.trans (congrArg some (by kernel_rfl))⟩
  f15 := Tryz.func44.trans (congrArg some (by kernel_rfl))
  f20 := ⟨Tryz.f100.name, by decide, Tryz.func100.trans (congrArg some (by kernel_rfl))⟩
  f21 := ⟨Tryz.f101.name, by decide, Tryz.func101.trans (congrArg some (by kernel_rfl))⟩
  f22 := ⟨Tryz.f102.name, by decide, Tryz.func102.trans (congrArg some (by kernel_rfl))⟩
  f23 := ⟨Tryz.f103.name, by decide, Tryz.func103.trans (congrArg some (by kernel_rfl))⟩
  f24 := ⟨Tryz.f104.name, by decide, Tryz.func104.trans (congrArg some (by kernel_rfl))⟩
  f25 := ⟨Tryz.f105.name, by decide, Tryz.func105.trans (congrArg some (by kernel_rfl))⟩
  f26 := ⟨Tryz.f106.name, by decide, Tryz.func106.trans (congrArg some (by kernel_rfl))⟩
  f27 := ⟨Tryz.f107.name, by decide, Tryz.func107.trans (congrArg some (by kernel_rfl))⟩
  f28 := Tryz.func79.trans (congrArg some (by kernel_rfl))
  f29 := Tryz.func80.trans (congrArg some (by kernel_rfl))
  f46 := ⟨Tryz.f124.name, by decide, Tryz.func124.trans (congrArg some (by kernel_rfl))⟩
  f47 := Tryz.func95.trans (congrArg some (by kernel_rfl))
  f48 := Tryz.func96.trans (congrArg some (by kernel_rfl))
  f49 := ⟨Tryz.f125.name, by decide, Tryz.func125.trans (congrArg some (by kernel_rfl))⟩
  f50 := ⟨Tryz.f126.name, by decide, Tryz.func126.trans (congrArg some (by kernel_rfl))⟩
  f57 := ⟨Tryz.f140.name, by decide, Tryz.func140.trans (congrArg some (by kernel_rfl))⟩
  t0 := Tryz.underlying0
  a0 := Tryz.isAgg0
  z0 := Tryz.sizeOf0
  v0 := Tryz.zeroValue0
  t3 := Tryz.underlying3
  a3 := Tryz.isAgg3
  z3 := Tryz.sizeOf3
  v3 := Tryz.zeroValue3
  t4 := Tryz.underlying4
  a4 := Tryz.isAgg4
  z4 := Tryz.sizeOf4
  v4 := Tryz.zeroValue4
  t5 := Tryz.underlying5
  a5 := Tryz.isAgg5
  z5 := Tryz.sizeOf5
  v5 := Tryz.zeroValue5
  t9 := Tryz.underlying9
  a9 := Tryz.isAgg9
  z9 := Tryz.sizeOf9
  v9 := Tryz.zeroValue9
  t22 := Tryz.underlying28
  a22 := Tryz.isAgg28
  z22 := Tryz.sizeOf28
  v22 := Tryz.zeroValue28
  a24 := Tryz.isAgg22
  z24 := Tryz.sizeOf22
  t25 := Tryz.underlying96
  a25 := Tryz.isAgg96
  z25 := Tryz.sizeOf96
  v25 := Tryz.zeroValue96
  t39 := Tryz.underlying94
  a39 := Tryz.isAgg94
  z39 := Tryz.sizeOf94
  v39 := Tryz.zeroValue94
  t45 := Tryz.underlying145
  a45 := Tryz.isAgg145
  z45 := Tryz.sizeOf145
  v45 := Tryz.zeroValue145
  t46 := Tryz.underlying146
  a46 := Tryz.isAgg146
  z46 := Tryz.sizeOf146
  v46 := Tryz.zeroValue146
  t50 := Tryz.underlying135
  a50 := Tryz.isAgg135
  z50 := Tryz.sizeOf135
  v50 := Tryz.zeroValue135
  t53 := Tryz.underlying153
  a53 := Tryz.isAgg153
  z53 := Tryz.sizeOf153
  v53 := Tryz.zeroValue153
  t55 := Tryz.underlying155
  a55 := Tryz.isAgg155
  z55 := Tryz.sizeOf155
  v55 := Tryz.zeroValue155
  t66 := Tryz.underlying177
  a66 := Tryz.isAgg177
  z66 := Tryz.sizeOf177
  v66 := Tryz.zeroValue177
  t70 := Tryz.underlying181
  a70 := Tryz.isAgg181
  z70 := Tryz.sizeOf181
  v70 := Tryz.zeroValue181
  t76 := Tryz.underlying205
  a76 := Tryz.isAgg205
  z76 := Tryz.sizeOf205
  v76 := Tryz.zeroValue205
  t77 := Tryz.underlying206
  a77 := Tryz.isAgg206
  z77 := Tryz.sizeOf206
  v77 := Tryz.zeroValue206 }
open Go.RowKit Go.Lib Go.Sort in
/-- **slices.SortFunc: WHAT THE ROW HOLDS, TO THE ELEMENT.** (LAID AT THE INSTANCE 'slices.SortFunc[[][]int,[]int]': no walk: one application.) -/
theorem Tryz.slices_SortFunc_eq {α : Type} [Inhabited α] (enc : α → Value) (h1 : OneCell enc) (cf : α → α → Int) (hO : SWO (ltOf cf)) (g : Nat) (cb : Array Value) (blk off cap : Nat) (d : Array α) (w : World) (eg : ∀ args w, (callFunc g args).run Tryz.prog w = .ok (.enter g args) w) (hcmp : CmpLays1 Tryz.prog g cb enc cf blk off d.size w) (hH : Holds enc w blk off d) (hblk : blk < w.heap.size) (hsz : d.size < 4611686018427387904) :
    Calls Tryz.prog 45 #[.slice (some ⟨blk, off, none⟩) d.size cap, .func (.func g) #[] cb] w fun e w' =>
      e = .returned (.tuple #[]) ∧ ∃ n os, w' = sortWorld enc w blk off n (pdq (ltOf cf) d 0 d.size (Lib.bitLen d.size) true true) os := Any.slices_SortFunc_eq Tryz.laysSlF6_f45 enc h1 cf hO g cb blk off cap d w eg hcmp hH hblk hsz
open Go.RowKit Go.Lib Go.Sort in
/-- **slices.SortFunc, IN THE DOCUMENTATION's OWN TERMS: A PERMUTATION OF WHAT THE ROW HELD, SORTED BY 'cmp(a, b) < 0'.** Which of two equals comes first is left open ("The sort is not guaranteed to be stable"). (LAID AT THE INSTANCE 'slices.SortFunc[[][]int,[]int]': no walk: one application.) -/
theorem Tryz.slices_SortFunc {α : Type} [Inhabited α] (enc : α → Value) (h1 : OneCell enc) (cf : α → α → Int) (hO : SWO (ltOf cf)) (g : Nat) (cb : Array Value) (blk off cap : Nat) (d : Array α) (w : World) (eg : ∀ args w, (callFunc g args).run Tryz.prog w = .ok (.enter g args) w) (hcmp : CmpLays1 Tryz.prog g cb enc cf blk off d.size w) (hH : Holds enc w blk off d) (hblk : blk < w.heap.size) (hsz : d.size < 4611686018427387904) :
    Calls Tryz.prog 45 #[.slice (some ⟨blk, off, none⟩) d.size cap, .func (.func g) #[] cb] w fun e w' =>
      e = .returned (.tuple #[]) ∧ ∃ d' n os, PermIn 0 d.size d d' ∧ SortedIn (ltOf cf) 0 d.size d' ∧ w' = sortWorld enc w blk off n d' os := Any.slices_SortFunc Tryz.laysSlF6_f45 enc h1 cf hO g cb blk off cap d w eg hcmp hH hblk hsz
def Tryz.laysSlF020_f100_ren : Go.Shelf.Ren := ⟨fun | 20 => 100 | n => n, fun | 24 => 22 | 22 => 28 | 3 => 3 | 25 => 96 | 4 => 4 | 0 => 0 | n => n, fun | n => n⟩
theorem Tryz.laysSlF020_f100 : Go.Proofs.SlLaysF0.n20 Tryz.prog Tryz.laysSlF020_f100_ren := {
  mixed := by kernel_rfl
  f20 := ⟨Tryz.f100.name, by decide, Tryz.func100.trans (congrArg some (by kernel_rfl))⟩
  t0 := Tryz.underlying0
  a0 := Tryz.isAgg0
  z0 := Tryz.sizeOf0
  v0 := Tryz.zeroValue0
  t3 := Tryz.underlying3
  a3 := Tryz.isAgg3
  z3 := Tryz.sizeOf3
  v3 := Tryz.zeroValue3
  t4 := Tryz.underlying4
  a4 := Tryz.isAgg4
  z4 := Tryz.sizeOf4
  v4 := Tryz.zeroValue4
  t22 := Tryz.underlying28
  a22 := Tryz.isAgg28
  z22 := Tryz.sizeOf28
  v22 := Tryz.zeroValue28
  t25 := Tryz.underlying96
  a25 := Tryz.isAgg96
  z25 := Tryz.sizeOf96
  v25 := Tryz.zeroValue96 }
open Go.RowKit Go.Lib Go.Sort in
theorem Tryz.insertionSortCmpFunc_none {α : Type} [Inhabited α] (p : Option Addr) (cap : Nat) (fv : Value) (w : World) :
    Calls Tryz.prog 100 #[.slice p 0 cap, .int .i64 0, .int .i64 0, fv] w fun e w' => e = .returned (.tuple #[]) ∧ w' = w := AnyF.insertionSortCmpFunc_none Tryz.laysSlF020_f100 p cap fv w
def Tryz.laysSlF014_f81_ren : Go.Shelf.Ren := ⟨fun | 14 => 81 | 20 => 100 | 21 => 101 | 22 => 102 | 23 => 103 | 24 => 104 | 25 => 105 | 26 => 106 | 27 => 107 | 46 => 124 | 47 => 95 | 48 => 96 | 49 => 125 | 50 => 126 | 15 => 44 | 57 => 140 | 28 => 79 | 29 => 80 | n => n, fun | 24 => 22 | 22 => 28 | 3 => 3 | 25 => 96 | 4 => 4 | 0 => 0 | 46 => 146 | 45 => 145 | 50 => 135 | 66 => 177 | 39 => 94 | 55 => 155 | 70 => 181 | 76 => 205 | 77 => 206 | 53 => 153 | 5 => 5 | 9 => 9 | n => n, fun | n => n⟩
theorem Tryz.laysSlF014_f81 : Go.Proofs.SlLaysF0.n14 Tryz.prog Tryz.laysSlF014_f81_ren := {
  mixed := by kernel_rfl
  f14 := ⟨Tryz.f81.name, by decide, Tryz.func81.trans (congrArg some (by kernel_rfl))⟩
  f15 := Tryz.func44.trans (congrArg some (by kernel_rfl))
  f20 := ⟨Tryz.f100.name, by decide, Tryz.func100.trans (congrArg some (by kernel_rfl))⟩
  f21 := ⟨Tryz.f101.name, by decide, Tryz.func101.trans (congrArg some (by kernel_rfl))⟩
  f22 := ⟨Tryz.f102.name, by decide, Tryz.func102.trans (congrArg some (by kernel_rfl))⟩
  f23 := ⟨Tryz.f103.name, by decide, Tryz.func103.trans (congrArg some (by kernel_rfl))⟩
  f24 := ⟨Tryz.f104.name, by decide, Tryz.func104.trans (congrArg some (by kernel_rfl))⟩
  f25 := ⟨Tryz.f105.name, by decide, Tryz.func105.trans (congrArg some (by kernel_rfl))⟩
  f26 := ⟨Tryz.f106.name, by decide, Tryz.func106.trans (congrArg some (by kernel_rfl))⟩
  f27 := ⟨Tryz.f107.name, by decide, Tryz.func107.trans (congrArg some (by kernel_rfl))⟩
  f28 := Tryz.func79.trans (congrArg some (by kernel_rfl))
  f29 := Tryz.func80.trans (congrArg some (by kernel_rfl))
  f46 := ⟨Tryz.f124.name, by decide, Tryz.func124.trans (congrArg some (by kernel_rfl))⟩
  f47 := Tryz.func95.trans (congrArg some (by kernel_rfl))
  f48 := Tryz.func96.trans (congrArg some (by kernel_rfl))
  f49 := ⟨Tryz.f125.name, by decide, Tryz.func125.trans (congrArg some (by kernel_rfl))⟩
  f50 := ⟨Tryz.f126.name, by decide, Tryz.func126.trans (congrArg some (by kernel_rfl))⟩
  f57 := ⟨Tryz.f140.name, by decide, Tryz.func140.trans (congrArg some (by kernel_rfl))⟩
  t0 := Tryz.underlying0
  a0 := Tryz.isAgg0
  z0 := Tryz.sizeOf0
  v0 := Tryz.zeroValue0
  t3 := Tryz.underlying3
  a3 := Tryz.isAgg3
  z3 := Tryz.sizeOf3
  v3 := Tryz.zeroValue3
  t4 := Tryz.underlying4
  a4 := Tryz.isAgg4
  z4 := Tryz.sizeOf4
  v4 := Tryz.zeroValue4
  t5 := Tryz.underlying5
  a5 := Tryz.isAgg5
  z5 := Tryz.sizeOf5
  v5 := Tryz.zeroValue5
  t9 := Tryz.underlying9
  a9 := Tryz.isAgg9
  z9 := Tryz.sizeOf9
  v9 := Tryz.zeroValue9
  t22 := Tryz.underlying28
  a22 := Tryz.isAgg28
  z22 := Tryz.sizeOf28
  v22 := Tryz.zeroValue28
  t25 := Tryz.underlying96
  a25 := Tryz.isAgg96
  z25 := Tryz.sizeOf96
  v25 := Tryz.zeroValue96
  t39 := Tryz.underlying94
  a39 := Tryz.isAgg94
  z39 := Tryz.sizeOf94
  v39 := Tryz.zeroValue94
  t45 := Tryz.underlying145
  a45 := Tryz.isAgg145
  z45 := Tryz.sizeOf145
  v45 := Tryz.zeroValue145
  t46 := Tryz.underlying146
  a46 := Tryz.isAgg146
  z46 := Tryz.sizeOf146
  v46 := Tryz.zeroValue146
  t50 := Tryz.underlying135
  a50 := Tryz.isAgg135
  z50 := Tryz.sizeOf135
  v50 := Tryz.zeroValue135
  t53 := Tryz.underlying153
  a53 := Tryz.isAgg153
  z53 := Tryz.sizeOf153
  v53 := Tryz.zeroValue153
  t55 := Tryz.underlying155
  a55 := Tryz.isAgg155
  z55 := Tryz.sizeOf155
  v55 := Tryz.zeroValue155
  t66 := Tryz.underlying177
  a66 := Tryz.isAgg177
  z66 := Tryz.sizeOf177
  v66 := Tryz.zeroValue177
  t70 := Tryz.underlying181
  a70 := Tryz.isAgg181
  z70 := Tryz.sizeOf181
  v70 := Tryz.zeroValue181
  t76 := Tryz.underlying205
  a76 := Tryz.isAgg205
  z76 := Tryz.sizeOf205
  v76 := Tryz.zeroValue205
  t77 := Tryz.underlying206
  a77 := Tryz.isAgg206
  z77 := Tryz.sizeOf206
  v77 := Tryz.zeroValue206 }
open Go.RowKit Go.Lib Go.Sort in
theorem Tryz.pdqsortCmpFunc_none {α : Type} [Inhabited α] (p : Option Addr) (cap : Nat) (lim : Int) (fv : Value) (w : World) :
    Calls Tryz.prog 81 #[.slice p 0 cap, .int .i64 0, .int .i64 0, .int .i64 lim, fv] w fun e w' => e = .returned (.tuple #[]) ∧ w' = w := AnyF.pdqsortCmpFunc_none Tryz.laysSlF014_f81 p cap lim fv w
def Tryz.laysSlF06_f45_ren : Go.Shelf.Ren := ⟨fun | 6 => 45 | 15 => 44 | 14 => 81 | 28 => 79 | 29 => 80 | 20 => 100 | 21 => 101 | 22 => 102 | 23 => 103 | 24 => 104 | 25 => 105 | 26 => 106 | 27 => 107 | 46 => 124 | 47 => 95 | 48 => 96 | 49 => 125 | 50 => 126 | 57 => 140 | n => n, fun | 22 => 28 | 24 => 22 | 25 => 96 | 3 => 3 | 39 => 94 | 0 => 0 | 53 => 153 | 55 => 155 | 4 => 4 | 46 => 146 | 45 => 145 | 50 => 135 | 5 => 5 | 9 => 9 | 66 => 177 | 70 => 181 | 76 => 205 | 77 => 206 | n => n, fun | n => n⟩
theorem Tryz.laysSlF06_f45 : Go.Proofs.SlLaysF0.n6 Tryz.prog Tryz.laysSlF06_f45_ren := {
  mixed := by kernel_rfl
  f6 := ⟨Tryz.f45.name, by decide, Tryz.func45.trans (congrArg some (by kernel_rfl))⟩
  f14 := ⟨Tryz.f81.name, by decide, Tryz.func81.trans (congrArg some (by kernel_rfl))⟩
  f15 := Tryz.func44.trans (congrArg some (by kernel_rfl))
  f20 := ⟨Tryz.f100.name, by decide, Tryz.func100.trans (congrArg some (by kernel_rfl))⟩
  f21 := ⟨Tryz.f101.name, by decide, Tryz.func101.trans (congrArg some (by kernel_rfl))⟩
  f22 := ⟨Tryz.f102.name, by decide, Tryz.func102.trans (congrArg some (by kernel_rfl))⟩
  f23 := ⟨Tryz.f103.name, by decide, Tryz.func103.trans (congrArg some (by kernel_rfl))⟩
  f24 := ⟨Tryz.f104.name, by decide, Tryz.func104.trans (congrArg some (by kernel_rfl))⟩
  f25 := ⟨Tryz.f105.name, by decide, Tryz.func105.trans (congrArg some (by kernel_rfl))⟩
  f26 := ⟨Tryz.f106.name, by decide, Tryz.func106.trans (congrArg some (by kernel_rfl))⟩
  f27 := ⟨Tryz.f107.name, by decide, Tryz.func107.trans (congrArg some (by kernel_rfl))⟩
  f28 := Tryz.func79.trans (congrArg some (by kernel_rfl))
  f29 := Tryz.func80.trans (congrArg some (by kernel_rfl))
  f46 := ⟨Tryz.f124.name, by decide, Tryz.func124.trans (congrArg some (by kernel_rfl))⟩
  f47 := Tryz.func95.trans (congrArg some (by kernel_rfl))
  f48 := Tryz.func96.trans (congrArg some (by kernel_rfl))
  f49 := ⟨Tryz.f125.name, by decide, Tryz.func125.trans (congrArg some (by kernel_rfl))⟩
  f50 := ⟨Tryz.f126.name, by decide, Tryz.func126.trans (congrArg some (by kernel_rfl))⟩
  f57 := ⟨Tryz.f140.name, by decide, Tryz.func140.trans (congrArg some (by kernel_rfl))⟩
  t0 := Tryz.underlying0
  a0 := Tryz.isAgg0
  z0 := Tryz.sizeOf0
  v0 := Tryz.zeroValue0
  t3 := Tryz.underlying3
  a3 := Tryz.isAgg3
  z3 := Tryz.sizeOf3
  v3 := Tryz.zeroValue3
  t4 := Tryz.underlying4
  a4 := Tryz.isAgg4
  z4 := Tryz.sizeOf4
  v4 := Tryz.zeroValue4
  t5 := Tryz.underlying5
  a5 := Tryz.isAgg5
  z5 := Tryz.sizeOf5
  v5 := Tryz.zeroValue5
  t9 := Tryz.underlying9
  a9 := Tryz.isAgg9
  z9 := Tryz.sizeOf9
  v9 := Tryz.zeroValue9
  t22 := Tryz.underlying28
  a22 := Tryz.isAgg28
  z22 := Tryz.sizeOf28
  v22 := Tryz.zeroValue28
  t25 := Tryz.underlying96
  a25 := Tryz.isAgg96
  z25 := Tryz.sizeOf96
  v25 := Tryz.zeroValue96
  t39 := Tryz.underlying94
  a39 := Tryz.isAgg94
  z39 := Tryz.sizeOf94
  v39 := Tryz.zeroValue94
  t45 := Tryz.underlying145
  a45 := Tryz.isAgg145
  z45 := Tryz.sizeOf145
  v45 := Tryz.zeroValue145
  t46 := Tryz.underlying146
  a46 := Tryz.isAgg146
  z46 := Tryz.sizeOf146
  v46 := Tryz.zeroValue146
  t50 := Tryz.underlying135
  a50 := Tryz.isAgg135
  z50 := Tryz.sizeOf135
  v50 := Tryz.zeroValue135
  t53 := Tryz.underlying153
  a53 := Tryz.isAgg153
  z53 := Tryz.sizeOf153
  v53 := Tryz.zeroValue153
  t55 := Tryz.underlying155
  a55 := Tryz.isAgg155
  z55 := Tryz.sizeOf155
  v55 := Tryz.zeroValue155
  t66 := Tryz.underlying177
  a66 := Tryz.isAgg177
  z66 := Tryz.sizeOf177
  v66 := Tryz.zeroValue177
  t70 := Tryz.underlying181
  a70 := Tryz.isAgg181
  z70 := Tryz.sizeOf181
  v70 := Tryz.zeroValue181
  t76 := Tryz.underlying205
  a76 := Tryz.isAgg205
  z76 := Tryz.sizeOf205
  v76 := Tryz.zeroValue205
  t77 := Tryz.underlying206
  a77 := Tryz.isAgg206
  z77 := Tryz.sizeOf206
  v77 := Tryz.zeroValue206 }
open Go.RowKit Go.Lib Go.Sort in
/-- **slices.SortFunc AT NO ELEMENT, A nil SLICE TOO: nothing turns.** (LAID AT THE INSTANCE 'slices.SortFunc[[][]int,[]int]': no walk: one application.) -/
theorem Tryz.slices_SortFunc_none {α : Type} [Inhabited α] (p : Option Addr) (cap : Nat) (fv : Value) (w : World) :
    Calls Tryz.prog 45 #[.slice p 0 cap, fv] w fun e w' => e = .returned (.tuple #[]) ∧ w' = w := AnyF.slices_SortFunc_none Tryz.laysSlF06_f45 p cap fv w
open Go.RowKit Go.Lib Go.Sort in
/-- **slices.SortFunc AT ONE CELL, UNDER A 'cmp' THAT PARTS WHATEVER TWO THAT ARE NOT ONE: THE ROW HOLDS core's 'mergeSort'.** (LAID AT THE INSTANCE 'slices.SortFunc[[][]int,[]int]': no walk: one application.) -/
theorem Tryz.slices_SortFunc_total {α : Type} [Inhabited α] (enc : α → Value) (h1 : OneCell enc) (cf : α → α → Int) (hO : SWO (ltOf cf)) (g : Nat) (cb : Array Value) (blk off cap : Nat) (d : Array α) (w : World) (eg : ∀ args w, (callFunc g args).run Tryz.prog w = .ok (.enter g args) w) (hcmp : CmpLays1 Tryz.prog g cb enc cf blk off d.size w) (hH : Holds enc w blk off d) (hblk : blk < w.heap.size) (hsz : d.size < 4611686018427387904) (hT : ∀ x y, (ltOf cf) x y = false → (ltOf cf) y x = false → x = y) :
    Calls Tryz.prog 45 #[.slice (some ⟨blk, off, none⟩) d.size cap, .func (.func g) #[] cb] w fun e w' =>
      e = .returned (.tuple #[]) ∧ ∃ n os, w' = sortWorld enc w blk off n (d.toList.mergeSort fun x y => !(ltOf cf) y x).toArray os := Any.slices_SortFunc_total Tryz.laysSlF6_f45 enc h1 cf hO g cb blk off cap d w eg hcmp hH hblk hsz hT
end Go.Proofs
