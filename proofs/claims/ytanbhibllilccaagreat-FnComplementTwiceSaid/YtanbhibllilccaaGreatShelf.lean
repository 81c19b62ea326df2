/-
  DERIVED: THE SHELF's CONTRACTS AT THIS DUMP, IN PLAIN WORDS (tools/lay-plain.mjs out of 'TryzShelf.lean', which tools/lay-shelf.mjs wrote): THE SAME DECLARATIONS UNDER THE SAME NAMES: 'import', 'namespace', 'open', 'def', 'theorem' AND NOTHING ELSE: no command of the shelf's: FOR A HAND-IN. Each laying: the table of numbers ('.._ren') and one theorem, a field a fact of the dump's own or the kernel's comparison; each contract: ONE APPLICATION.
-/
import Derived.Shelf.Small.Bits
import Derived.Shelf.Small.Wraps
import Derived.Shelf.Strconv.Itoa0
import Derived.Shelf.Sort.Plain
import Derived.Shelf.Slices.Equal
import Derived.Ground.Names2Prog
import Derived.Shelf.Slices.Clone
import Derived.Shelf.Slices.SearchI
import Derived.Shelf.Slices.In.SortNone
import Derived.Shelf.Slices.Empties2
import Derived.Ground.SlgnProg
import Derived.Shelf.SlicesG.SearchI
import Derived.Shelf.SlicesE.Equal
import Derived.Shelf.SlicesE.Compact
import Derived.Shelf.SlicesE.Clone
import Derived.Ground.SlgcProg
import Derived.Shelf.SlicesG.Cmp
import Derived.Ground.SlsfProg
import Derived.Shelf.SlSortCmp.Insertion
import Derived.Ground.SlgmProg
import Derived.Shelf.SortM.Plain
import Derived.Shelf.SortM.SortNone
import Derived.Shelf.SlSortCmp.SiftDown1
import Derived.Shelf.SlSortCmp.HeapSort1
import Derived.Shelf.SlSortCmp.Insertion1
import Derived.Shelf.SlSortCmp.Median1
import Derived.Shelf.SlSortCmp.Pivot1
import Derived.Shelf.SlSortCmp.ReverseRange1
import Derived.Shelf.SlSortCmp.PartialInsertion1
import Derived.Shelf.SlSortCmp.PartitionEqual1
import Derived.Shelf.SlSortCmp.Partition1
import Derived.Shelf.SlSortCmp.Pdq1
import Derived.Shelf.SlSortCmp.Whole1
import Derived.Shelf.SlSortCmp.NoneTotal
import Derived.Test.YtanbhibllilccaaGreatProg
namespace Go.Proofs
open Go.Shelf
def Tryz.lays128_ren : Go.Shelf.Ren := ⟨fun | 128 => 79 | n => n, fun | 51 => 171 | 3 => 3 | 4 => 4 | 46 => 144 | 5 => 5 | 9 => 9 | n => n, fun | n => n⟩
theorem Tryz.lays128 : Go.Proofs.Lays.n128 Tryz.prog Tryz.lays128_ren := {
  mixed := by kernel_rfl
  f128 := Tryz.func79.trans (congrArg some (by kernel_rfl))
  t3 := Tryz.underlying3
  a3 := Tryz.isAgg3
  z3 := Tryz.sizeOf3
  v3 := Tryz.zeroValue3
  t4 := Tryz.underlying4
  a4 := Tryz.isAgg4
  z4 := Tryz.sizeOf4
  v4 := Tryz.zeroValue4
  t5 := Tryz.underlying5
  a5 := Tryz.isAgg5
  z5 := Tryz.sizeOf5
  v5 := Tryz.zeroValue5
  t9 := Tryz.underlying9
  a9 := Tryz.isAgg9
  z9 := Tryz.sizeOf9
  v9 := Tryz.zeroValue9
  t46 := Tryz.underlying144
  a46 := Tryz.isAgg144
  z46 := Tryz.sizeOf144
  v46 := Tryz.zeroValue144
  t51 := Tryz.underlying171
  a51 := Tryz.isAgg171
  z51 := Tryz.sizeOf171
  v51 := Tryz.zeroValue171 }
/-- bits.Len32: "Len32 returns the minimum number of bits required to represent x; the result is 0 for x == 0.": IT RETURNS 'Lib.bitLen x'; the world is as it was. ('h0', 'h1': x is a uint32.) (LAID: no walk: one application.) -/
theorem Tryz.bits_Len32 (x : Int) (w : World) (h0 : 0 ≤ x) (h1 : x ≤ 4294967295) :
    Calls Tryz.prog 79 #[.int .u32 x] w fun e w' => e = .returned (.int .i64 (Lib.bitLen x.toNat)) ∧ w' = w := Any.bits_Len32 Tryz.lays128 x w h0 h1
def Tryz.lays125_ren : Go.Shelf.Ren := ⟨fun | 125 => 57 | 128 => 79 | 129 => 80 | n => n, fun | 46 => 144 | 3 => 3 | 51 => 171 | 53 => 112 | 4 => 4 | 5 => 5 | 9 => 9 | n => n, fun | n => n⟩
theorem Tryz.lays125 : Go.Proofs.Lays.n125 Tryz.prog Tryz.lays125_ren := {
  mixed := by kernel_rfl
  f125 := Tryz.func57.trans (congrArg some (by kernel_rfl))
  f128 := Tryz.func79.trans (congrArg some (by kernel_rfl))
  f129 := Tryz.func80.trans (congrArg some (by kernel_rfl))
  t3 := Tryz.underlying3
  a3 := Tryz.isAgg3
  z3 := Tryz.sizeOf3
  v3 := Tryz.zeroValue3
  t4 := Tryz.underlying4
  a4 := Tryz.isAgg4
  z4 := Tryz.sizeOf4
  v4 := Tryz.zeroValue4
  t5 := Tryz.underlying5
  a5 := Tryz.isAgg5
  z5 := Tryz.sizeOf5
  v5 := Tryz.zeroValue5
  t9 := Tryz.underlying9
  a9 := Tryz.isAgg9
  z9 := Tryz.sizeOf9
  v9 := Tryz.zeroValue9
  t46 := Tryz.underlying144
  a46 := Tryz.isAgg144
  z46 := Tryz.sizeOf144
  v46 := Tryz.zeroValue144
  t51 := Tryz.underlying171
  a51 := Tryz.isAgg171
  z51 := Tryz.sizeOf171
  v51 := Tryz.zeroValue171
  t53 := Tryz.underlying112
  a53 := Tryz.isAgg112
  z53 := Tryz.sizeOf112
  v53 := Tryz.zeroValue112 }
/-- bits.Len: "Len returns the minimum number of bits required to represent x; the result is 0 for x == 0.": IT RETURNS 'Lib.bitLen x'; the world is as it was. (A uint has 64 bits in the model.) ITS CALLEE bits.Len64 IS MET BY ITS OWN CONTRACT OFF THE SHELF (lay that first). (LAID: no walk: one application.) -/
theorem Tryz.bits_Len (x : Int) (w : World) (h0 : 0 ≤ x) (h1 : x ≤ 18446744073709551615) :
    Calls Tryz.prog 57 #[.int .u64 x] w fun e w' => e = .returned (.int .i64 (Lib.bitLen x.toNat)) ∧ w' = w := Any.bits_Len Tryz.lays125 x w h0 h1
def Tryz.lays215_ren : Go.Shelf.Ren := ⟨fun | 215 => 89 | n => n, fun | 3 => 3 | 4 => 4 | n => n, fun | n => n⟩
theorem Tryz.lays215 : Go.Proofs.Lays.n215 Tryz.prog Tryz.lays215_ren := {
  mixed := by kernel_rfl
  f215 := Tryz.func89.trans (congrArg some (by kernel_rfl))
  t3 := Tryz.underlying3
  a3 := Tryz.isAgg3
  z3 := Tryz.sizeOf3
  v3 := Tryz.zeroValue3
  t4 := Tryz.underlying4
  a4 := Tryz.isAgg4
  z4 := Tryz.sizeOf4
  v4 := Tryz.zeroValue4 }
open Go.RowKit in
/-- cmp.isNaN at int: 'x != x': false. (LAID: no walk: one application.) -/
theorem Tryz.cmp_isNaN_int (x : Int) (w : World) :
    Calls Tryz.prog 89 #[.int .i64 x] w fun e w' => e = .returned (.bool false) ∧ w' = w := Any.cmp_isNaN_int Tryz.lays215 x w
def Tryz.lays122_ren : Go.Shelf.Ren := ⟨fun | 122 => 59 | 215 => 89 | n => n, fun | 3 => 3 | 4 => 4 | n => n, fun | n => n⟩
theorem Tryz.lays122 : Go.Proofs.Lays.n122 Tryz.prog Tryz.lays122_ren := {
  mixed := by kernel_rfl
  f122 := Tryz.func59.trans (congrArg some (by kernel_rfl))
  f215 := Tryz.func89.trans (congrArg some (by kernel_rfl))
  t3 := Tryz.underlying3
  a3 := Tryz.isAgg3
  z3 := Tryz.sizeOf3
  v3 := Tryz.zeroValue3
  t4 := Tryz.underlying4
  a4 := Tryz.isAgg4
  z4 := Tryz.sizeOf4
  v4 := Tryz.zeroValue4 }
open Go.RowKit in
/-- cmp.Compare at int: "Compare returns -1 if x is less than y, 0 if x equals y, +1 if x is greater than y.": IT RETURNS 'Lib.compareInt x y'; the world is as it was. (LAID: no walk: one application.) -/
theorem Tryz.cmp_Compare_int (x y : Int) (w : World) :
    Calls Tryz.prog 59 #[.int .i64 x, .int .i64 y] w fun e w' => e = .returned (.int .i64 (Lib.compareInt x y)) ∧ w' = w := Any.cmp_Compare_int Tryz.lays122 x y w
def Tryz.lays129_ren : Go.Shelf.Ren := ⟨fun | 129 => 80 | n => n, fun | 53 => 112 | 3 => 3 | 4 => 4 | 46 => 144 | 5 => 5 | 9 => 9 | n => n, fun | n => n⟩
theorem Tryz.lays129 : Go.Proofs.Lays.n129 Tryz.prog Tryz.lays129_ren := {
  mixed := by kernel_rfl
  f129 := Tryz.func80.trans (congrArg some (by kernel_rfl))
  t3 := Tryz.underlying3
  a3 := Tryz.isAgg3
  z3 := Tryz.sizeOf3
  v3 := Tryz.zeroValue3
  t4 := Tryz.underlying4
  a4 := Tryz.isAgg4
  z4 := Tryz.sizeOf4
  v4 := Tryz.zeroValue4
  t5 := Tryz.underlying5
  a5 := Tryz.isAgg5
  z5 := Tryz.sizeOf5
  v5 := Tryz.zeroValue5
  t9 := Tryz.underlying9
  a9 := Tryz.isAgg9
  z9 := Tryz.sizeOf9
  v9 := Tryz.zeroValue9
  t46 := Tryz.underlying144
  a46 := Tryz.isAgg144
  z46 := Tryz.sizeOf144
  v46 := Tryz.zeroValue144
  t53 := Tryz.underlying112
  a53 := Tryz.isAgg112
  z53 := Tryz.sizeOf112
  v53 := Tryz.zeroValue112 }
/-- bits.Len64: "Len64 returns the minimum number of bits required to represent x; the result is 0 for x == 0.": IT RETURNS 'Lib.bitLen x'; the world is as it was. ('h0', 'h1': x is a uint64.) (LAID: no walk: one application.) -/
theorem Tryz.bits_Len64 (x : Int) (w : World) (h0 : 0 ≤ x) (h1 : x ≤ 18446744073709551615) :
    Calls Tryz.prog 80 #[.int .u64 x] w fun e w' => e = .returned (.int .i64 (Lib.bitLen x.toNat)) ∧ w' = w := Any.bits_Len64 Tryz.lays129 x w h0 h1
def Tryz.lays189_ren : Go.Shelf.Ren := ⟨fun | 189 => 40 | 125 => 57 | 257 => 56 | 128 => 79 | 129 => 80 | 294 => 70 | 295 => 71 | 296 => 72 | 297 => 73 | 298 => 74 | 299 => 75 | 216 => 76 | 300 => 77 | 301 => 78 | 328 => 110 | 329 => 111 | 330 => 112 | 331 => 113 | 332 => 114 | 215 => 89 | 343 => 131 | n => n, fun | 28 => 22 | 3 => 3 | 46 => 144 | 0 => 0 | 51 => 171 | 53 => 112 | 4 => 4 | 183 => 164 | 182 => 163 | 131 => 138 | 5 => 5 | 9 => 9 | 218 => 198 | 222 => 202 | 228 => 218 | 229 => 219 | n => n, fun | n => n⟩
theorem Tryz.lays189 : Go.Proofs.Lays.n189 Tryz.prog Tryz.lays189_ren := {
  mixed := by kernel_rfl
  f125 := Tryz.func57.trans (congrArg some (by kernel_rfl))
  f128 := Tryz.func79.trans (congrArg some (by kernel_rfl))
  f129 := Tryz.func80.trans (congrArg some (by kernel_rfl))
  f189 := Tryz.func40.trans (congrArg some (by kernel_rfl))
  f215 := Tryz.func89.trans (congrArg some (by kernel_rfl))
  f216 := Tryz.func76.trans (congrArg some (by kernel_rfl))
  f257 := Tryz.func56.trans (congrArg some (by kernel_rfl))
  f294 := Tryz.func70.trans (congrArg some (by kernel_rfl))
  f295 := Tryz.func71.trans (congrArg some (by kernel_rfl))
  f296 := Tryz.func72.trans (congrArg some (by kernel_rfl))
  f297 := Tryz.func73.trans (congrArg some (by kernel_rfl))
  f298 := Tryz.func74.trans (congrArg some (by kernel_rfl))
  f299 := Tryz.func75.trans (congrArg some (by kernel_rfl))
  f300 := Tryz.func77.trans (congrArg some (by kernel_rfl))
  f301 := Tryz.func78.trans (congrArg some (by kernel_rfl))
  f328 := Tryz.func110.trans (congrArg some (by kernel_rfl))
  f329 := Tryz.func111.trans (congrArg some (by kernel_rfl))
  f330 := Tryz.func112.trans (congrArg some (by kernel_rfl))
  f331 := Tryz.func113.trans (congrArg some (by kernel_rfl))
  f332 := Tryz.func114.trans (congrArg some (by kernel_rfl))
  f343 := Tryz.func131.trans (congrArg some (by kernel_rfl))
  t0 := Tryz.underlying0
  a0 := Tryz.isAgg0
  z0 := Tryz.sizeOf0
  v0 := Tryz.zeroValue0
  t3 := Tryz.underlying3
  a3 := Tryz.isAgg3
  z3 := Tryz.sizeOf3
  v3 := Tryz.zeroValue3
  t4 := Tryz.underlying4
  a4 := Tryz.isAgg4
  z4 := Tryz.sizeOf4
  v4 := Tryz.zeroValue4
  t5 := Tryz.underlying5
  a5 := Tryz.isAgg5
  z5 := Tryz.sizeOf5
  v5 := Tryz.zeroValue5
  t9 := Tryz.underlying9
  a9 := Tryz.isAgg9
  z9 := Tryz.sizeOf9
  v9 := Tryz.zeroValue9
  t28 := Tryz.underlying22
  a28 := Tryz.isAgg22
  z28 := Tryz.sizeOf22
  v28 := Tryz.zeroValue22
  t46 := Tryz.underlying144
  a46 := Tryz.isAgg144
  z46 := Tryz.sizeOf144
  v46 := Tryz.zeroValue144
  t51 := Tryz.underlying171
  a51 := Tryz.isAgg171
  z51 := Tryz.sizeOf171
  v51 := Tryz.zeroValue171
  t53 := Tryz.underlying112
  a53 := Tryz.isAgg112
  z53 := Tryz.sizeOf112
  v53 := Tryz.zeroValue112
  t131 := Tryz.underlying138
  a131 := Tryz.isAgg138
  z131 := Tryz.sizeOf138
  v131 := Tryz.zeroValue138
  t182 := Tryz.underlying163
  a182 := Tryz.isAgg163
  z182 := Tryz.sizeOf163
  v182 := Tryz.zeroValue163
  t183 := Tryz.underlying164
  a183 := Tryz.isAgg164
  z183 := Tryz.sizeOf164
  v183 := Tryz.zeroValue164
  t218 := Tryz.underlying198
  a218 := Tryz.isAgg198
  z218 := Tryz.sizeOf198
  v218 := Tryz.zeroValue198
  t222 := Tryz.underlying202
  a222 := Tryz.isAgg202
  z222 := Tryz.sizeOf202
  v222 := Tryz.zeroValue202
  t228 := Tryz.underlying218
  a228 := Tryz.isAgg218
  z228 := Tryz.sizeOf218
  v228 := Tryz.zeroValue218
  t229 := Tryz.underlying219
  a229 := Tryz.isAgg219
  z229 := Tryz.sizeOf219
  v229 := Tryz.zeroValue219 }
open Go.Sort Go.RowKit in
theorem Tryz.slices_Sort_int (blk off cap : Nat) (zs : List Int) (w : World) (hH : Holds (Value.int .i64) w blk off zs.toArray) (hblk : blk < w.heap.size) (hsz : zs.length < 4611686018427387904) :
    Calls Tryz.prog 40 #[.slice (some ⟨blk, off, none⟩) zs.length cap] w fun e w' =>
      e = .returned (.tuple #[]) ∧ ∃ n os, w' = grow (putRow (Value.int .i64) (Sort.ahead w n) blk off (zs.mergeSort fun x y => decide (x ≤ y)).toArray) os := Any.slices_Sort_int Tryz.lays189 blk off cap zs w hH hblk hsz
def Tryz.lays111_ren : Go.Shelf.Ren := ⟨fun | 111 => 20 | n => n, fun | 28 => 22 | 3 => 3 | 4 => 4 | 0 => 0 | n => n, fun | n => n⟩
theorem Tryz.lays111 : Go.Proofs.Lays.n111 Tryz.prog Tryz.lays111_ren := {
  mixed := by kernel_rfl
  f111 := Tryz.func20.trans (congrArg some (by kernel_rfl))
  t0 := Tryz.underlying0
  a0 := Tryz.isAgg0
  z0 := Tryz.sizeOf0
  v0 := Tryz.zeroValue0
  t3 := Tryz.underlying3
  a3 := Tryz.isAgg3
  z3 := Tryz.sizeOf3
  v3 := Tryz.zeroValue3
  t4 := Tryz.underlying4
  a4 := Tryz.isAgg4
  z4 := Tryz.sizeOf4
  v4 := Tryz.zeroValue4
  t28 := Tryz.underlying22
  a28 := Tryz.isAgg22
  z28 := Tryz.sizeOf22
  v28 := Tryz.zeroValue22 }
open Go.RowKit Go.Lib in
/-- slices.Equal at []int: "Equal reports whether two slices are equal: the same length and all elements equal. If the lengths are different, Equal returns false. Otherwise, the elements are compared in increasing index order, and the comparison stops at the first unequal pair. Empty and nil slices are considered equal.": IT RETURNS WHETHER THE TWO LISTS OF ELEMENTS ARE ONE; the world is as it was but for the count of draws (the test 's1[i] != s2[i]' has two reads, whose order the model draws, once a round). 'xs', 'ys': what the cells behind the two addresses hold (the spare capacity too, if you have it); 'xs.take n', 'ys.take m': the elements. THE TWO SLICES MAY OVERLAP. (LAID: no walk: one application.) -/
theorem Tryz.slices_Equal_int (b1 o1 n c b2 o2 m d : Nat) (xs ys : List Int) (w : World) (hx : n ≤ xs.length) (hy : m ≤ ys.length) (hbig : n ≤ 9223372036854775807) (hbig2 : m ≤ 9223372036854775807) (hc1 : ∀ j, j < xs.length → w.cell? ⟨b1, o1 + j, none⟩ = some (.int .i64 (xs.getD j 0))) (hc2 : ∀ j, j < ys.length → w.cell? ⟨b2, o2 + j, none⟩ = some (.int .i64 (ys.getD j 0))) :
    Calls Tryz.prog 20 #[.slice (some ⟨b1, o1, none⟩) n c, .slice (some ⟨b2, o2, none⟩) m d] w fun e w' => e = .returned (.bool (xs.take n == ys.take m)) ∧ ∃ q, w' = w.drewN q := Any.slices_Equal_int Tryz.lays111 b1 o1 n c b2 o2 m d xs ys w hx hy hbig hbig2 hc1 hc2
open Go.RowKit Go.Lib in
/-- The same where the first is of length 0 (a nil one too): no cell is asked for. (LAID: no walk: one application.) -/
theorem Tryz.slices_Equal_int_empty (a1 a2 : Option Addr) (c m d : Nat) (w : World) (hbig2 : m ≤ 9223372036854775807) :
    Calls Tryz.prog 20 #[.slice a1 0 c, .slice a2 m d] w fun e w' => e = .returned (.bool (decide (m = 0))) ∧ w' = w := Any.slices_Equal_int_empty Tryz.lays111 a1 a2 c m d w hbig2
def Tryz.laysNm215_ren : Go.Shelf.Ren := ⟨fun | 15 => 15 | n => n, fun | 22 => 22 | 3 => 3 | 4 => 4 | n => n, fun | n => n⟩
theorem Tryz.laysNm215 : Go.Proofs.Lays2.n15 Tryz.prog Tryz.laysNm215_ren := {
  mixed := by kernel_rfl
  f15 := Tryz.func15.trans (congrArg some (by kernel_rfl))
  t3 := Tryz.underlying3
  a3 := Tryz.isAgg3
  z3 := Tryz.sizeOf3
  v3 := Tryz.zeroValue3
  t4 := Tryz.underlying4
  a4 := Tryz.isAgg4
  z4 := Tryz.sizeOf4
  v4 := Tryz.zeroValue4
  t22 := Tryz.underlying22
  a22 := Tryz.isAgg22
  z22 := Tryz.sizeOf22
  v22 := Tryz.zeroValue22
  i3 := by kernel_rfl }
open Go.RowKit Go.Lib in
/-- slices.Clone at []int: "Clone returns a copy of the slice. The elements are copied using assignment, so this is a shallow clone. The result may have additional unused capacity. The result preserves the nilness of s.": OF A SLICE THAT IS NOT nil IT RETURNS A SLICE THAT IS NOT nil, OF THE SAME ELEMENTS, IN MEMORY OF THE CALL's OWN: in the how-to's words (6f): 'w'.ownsRow B e 1 v' n cells': v' begins at the head of a row among the blocks from B on (B: the heap's size at the call), not frozen, whose first cells are the elements · 'Below B w w'': below B all is as it was. The capacity is whatever the run-time gives. 'zs': what the cells behind the slice's address hold; 'zs.take n': its elements. (LAID: no walk: one application.) -/
theorem Tryz.slices_Clone_int (b off n c : Nat) (zs : List Int) (w : World) (hz : n ≤ zs.length) (hbig : n * 8 ≤ 140737488355328) (hc : ∀ j, j < zs.length → w.cell? ⟨b, off + j, none⟩ = some (.int .i64 (zs.getD j 0))) :
    Calls Tryz.prog 15 #[.slice (some ⟨b, off, none⟩) n c] w fun e w' => ∃ v', e = .returned v' ∧ w'.ownsRow w.heap.size 3 1 v' n ((zs.take n).map (Value.int .i64)) ∧ v' ≠ .slice none 0 0 ∧ Below w.heap.size w w' := Any.slices_Clone_int Tryz.laysNm215 b off n c zs w hz hbig hc
open Go.RowKit Go.Lib in
/-- The same at nil: nil comes back; the world is as it was. (LAID: no walk: one application.) -/
theorem Tryz.slices_Clone_int_nil (n c : Nat) (w : World) :
    Calls Tryz.prog 15 #[.slice none n c] w fun e w' => e = .returned (.slice none 0 0) ∧ w' = w := Any.slices_Clone_int_nil Tryz.laysNm215 n c w
open Go.RowKit Go.Lib in
/-- The same at a slice of length 0 that is not nil, WHATEVER ITS ADDRESS (no cell is asked for): a slice that is not nil and owns nothing comes back. (LAID: no walk: one application.) -/
theorem Tryz.slices_Clone_int_zero (a : Addr) (c : Nat) (w : World) :
    Calls Tryz.prog 15 #[.slice (some a) 0 c] w fun e w' => ∃ v', e = .returned v' ∧ w'.ownsRow w.heap.size 3 1 v' 0 [] ∧ v' ≠ .slice none 0 0 ∧ Below w.heap.size w w' := Any.slices_Clone_int_zero Tryz.laysNm215 a c w
def Tryz.laysNm237_ren : Go.Shelf.Ren := ⟨fun | 37 => 89 | n => n, fun | 3 => 3 | 4 => 4 | n => n, fun | n => n⟩
theorem Tryz.laysNm237 : Go.Proofs.Lays2.n37 Tryz.prog Tryz.laysNm237_ren := {
  mixed := by kernel_rfl
  f37 := Tryz.func89.trans (congrArg some (by kernel_rfl))
  t3 := Tryz.underlying3
  a3 := Tryz.isAgg3
  z3 := Tryz.sizeOf3
  v3 := Tryz.zeroValue3
  t4 := Tryz.underlying4
  a4 := Tryz.isAgg4
  z4 := Tryz.sizeOf4
  v4 := Tryz.zeroValue4 }
open Go.RowKit Go.Lib in
/-- cmp.isNaN[int]: 'x != x': false. (LAID: no walk: one application.) -/
theorem Tryz.cmp_isNaN_int2 (x : Int) (w : World) :
    Calls Tryz.prog 89 #[.int .i64 x] w fun e w' => e = .returned (.bool false) ∧ w' = w := Any.cmp_isNaN_int2 Tryz.laysNm237 x w
def Tryz.laysNm231_ren : Go.Shelf.Ren := ⟨fun | 31 => 76 | 37 => 89 | n => n, fun | 3 => 3 | 4 => 4 | n => n, fun | n => n⟩
theorem Tryz.laysNm231 : Go.Proofs.Lays2.n31 Tryz.prog Tryz.laysNm231_ren := {
  mixed := by kernel_rfl
  f31 := Tryz.func76.trans (congrArg some (by kernel_rfl))
  f37 := Tryz.func89.trans (congrArg some (by kernel_rfl))
  t3 := Tryz.underlying3
  a3 := Tryz.isAgg3
  z3 := Tryz.sizeOf3
  v3 := Tryz.zeroValue3
  t4 := Tryz.underlying4
  a4 := Tryz.isAgg4
  z4 := Tryz.sizeOf4
  v4 := Tryz.zeroValue4 }
open Go.RowKit Go.Lib in
/-- cmp.Less[int]: "Less reports whether x is less than y.": 'x < y'; the world is as it was. (LAID: no walk: one application.) -/
theorem Tryz.cmp_Less_int2 (x y : Int) (w : World) :
    Calls Tryz.prog 76 #[.int .i64 x, .int .i64 y] w fun e w' => e = .returned (.bool (decide (x < y))) ∧ w' = w := Any.cmp_Less_int2 Tryz.laysNm231 x y w
open Go.RowKit Go.Sort in
/-- .. and plain. (LAID: no walk: one application.) -/
theorem Tryz.slices_Sort_int_none (p : Option Addr) (cap : Nat) (w : World) :
    Calls Tryz.prog 40 #[.slice p 0 cap] w fun e w' => e = .returned (.tuple #[]) ∧ w' = w := Any.slices_Sort_int_none Tryz.lays189 p cap w
open Go.RowKit Go.Lib in
theorem Tryz.slices_Equal_int_lens (a1 a2 : Option Addr) (n c m d : Nat) (w : World) (hnm : n ≠ m) :
    Calls Tryz.prog 20 #[.slice a1 n c, .slice a2 m d] w fun e w' => e = .returned (.bool false) ∧ w' = w := Any.slices_Equal_int_lens Tryz.lays111 a1 a2 n c m d w hnm
def Tryz.laysSlN68_f96_ren : Go.Shelf.Ren := ⟨fun | 68 => 96 | n => n, fun | 23 => 2 | 4 => 4 | n => n, fun | n => n⟩
theorem Tryz.laysSlN68_f96 : Go.Proofs.SlLaysN.n68 Tryz.prog Tryz.laysSlN68_f96_ren := {
  mixed := by kernel_rfl
  f68 := ⟨Tryz.f96.name, by decide, Tryz.func96.trans (congrArg some (by kernel_rfl))⟩
  t4 := Tryz.underlying4
  a4 := Tryz.isAgg4
  z4 := Tryz.sizeOf4
  v4 := Tryz.zeroValue4
  t23 := Tryz.underlying2
  a23 := Tryz.isAgg2
  z23 := Tryz.sizeOf2
  v23 := Tryz.zeroValue2 }
open Go.RowKit Go.Lib in
/-- cmp.isNaN[int]: 'x != x': false. (LAID AT THE INSTANCE 'cmp.isNaN[int64]': no walk: one application.) -/
theorem Tryz.cmp_isNaN_int2_f96 (x : Int) (w : World) :
    Calls Tryz.prog 96 #[.int .i64 x] w fun e w' => e = .returned (.bool false) ∧ w' = w := AnyG.cmp_isNaN_int2 Tryz.laysSlN68_f96 x w
def Tryz.laysSlN60_f106_ren : Go.Shelf.Ren := ⟨fun | 60 => 106 | n => n, fun | 23 => 2 | 4 => 4 | n => n, fun | n => n⟩
theorem Tryz.laysSlN60_f106 : Go.Proofs.SlLaysN.n60 Tryz.prog Tryz.laysSlN60_f106_ren := {
  mixed := by kernel_rfl
  f60 := ⟨Tryz.f106.name, by decide, Tryz.func106.trans (congrArg some (by kernel_rfl))⟩
  t4 := Tryz.underlying4
  a4 := Tryz.isAgg4
  z4 := Tryz.sizeOf4
  v4 := Tryz.zeroValue4
  t23 := Tryz.underlying2
  a23 := Tryz.isAgg2
  z23 := Tryz.sizeOf2
  v23 := Tryz.zeroValue2 }
open Go.RowKit Go.Lib in
/-- slices.isNaN[int]: 'x != x': false. (LAID AT THE INSTANCE 'slices.isNaN[int64]': no walk: one application.) -/
theorem Tryz.slices_isNaN_int2 (x : Int) (w : World) :
    Calls Tryz.prog 106 #[.int .i64 x] w fun e w' => e = .returned (.bool false) ∧ w' = w := AnyG.slices_isNaN_int2 Tryz.laysSlN60_f106 x w
def Tryz.laysSlN59_f103_ren : Go.Shelf.Ren := ⟨fun | 59 => 103 | 68 => 96 | n => n, fun | 23 => 2 | 4 => 4 | n => n, fun | n => n⟩
theorem Tryz.laysSlN59_f103 : Go.Proofs.SlLaysN.n59 Tryz.prog Tryz.laysSlN59_f103_ren := {
  mixed := by kernel_rfl
  f59 := ⟨Tryz.f103.name, by decide, Tryz.func103.trans (congrArg some (by kernel_rfl))⟩
  f68 := ⟨Tryz.f96.name, by decide, Tryz.func96.trans (congrArg some (by kernel_rfl))⟩
  t4 := Tryz.underlying4
  a4 := Tryz.isAgg4
  z4 := Tryz.sizeOf4
  v4 := Tryz.zeroValue4
  t23 := Tryz.underlying2
  a23 := Tryz.isAgg2
  z23 := Tryz.sizeOf2
  v23 := Tryz.zeroValue2 }
open Go.RowKit Go.Lib in
/-- cmp.Less[int]: "Less reports whether x is less than y.": 'x < y'; the world is as it was. (LAID AT THE INSTANCE 'cmp.Less[int64]': no walk: one application.) -/
theorem Tryz.cmp_Less_int2_f103 (x y : Int) (w : World) :
    Calls Tryz.prog 103 #[.int .i64 x, .int .i64 y] w fun e w' => e = .returned (.bool (decide (x < y))) ∧ w' = w := AnyG.cmp_Less_int2 Tryz.laysSlN59_f103 x y w
def Tryz.laysSlN49_f68_ren : Go.Shelf.Ren := ⟨fun | 49 => 68 | 59 => 103 | 60 => 106 | 68 => 96 | n => n, fun | 22 => 132 | 23 => 2 | 3 => 3 | 4 => 4 | 51 => 144 | 0 => 0 | n => n, fun | n => n⟩
theorem Tryz.laysSlN49_f68 : Go.Proofs.SlLaysN.n49 Tryz.prog Tryz.laysSlN49_f68_ren := {
  mixed := by kernel_rfl
  f49 := ⟨Tryz.f68.name, by decide, Tryz.func68.trans (congrArg some (by kernel_rfl))⟩
  f59 := ⟨Tryz.f103.name, by decide, Tryz.func103.trans (congrArg some (by kernel_rfl))⟩
  f60 := ⟨Tryz.f106.name, by decide, Tryz.func106.trans (congrArg some (by kernel_rfl))⟩
  f68 := ⟨Tryz.f96.name, by decide, Tryz.func96.trans (congrArg some (by kernel_rfl))⟩
  t0 := Tryz.underlying0
  a0 := Tryz.isAgg0
  z0 := Tryz.sizeOf0
  v0 := Tryz.zeroValue0
  t3 := Tryz.underlying3
  a3 := Tryz.isAgg3
  z3 := Tryz.sizeOf3
  v3 := Tryz.zeroValue3
  t4 := Tryz.underlying4
  a4 := Tryz.isAgg4
  z4 := Tryz.sizeOf4
  v4 := Tryz.zeroValue4
  t22 := Tryz.underlying132
  a22 := Tryz.isAgg132
  z22 := Tryz.sizeOf132
  v22 := Tryz.zeroValue132
  t23 := Tryz.underlying2
  a23 := Tryz.isAgg2
  z23 := Tryz.sizeOf2
  v23 := Tryz.zeroValue2
  t51 := Tryz.underlying144
  a51 := Tryz.isAgg144
  z51 := Tryz.sizeOf144
  v51 := Tryz.zeroValue144 }
open Go.RowKit Go.Lib in
/-- slices.BinarySearch at []int: "BinarySearch searches for target in a sorted slice and returns the earliest position where target is found, or the position where target would appear in the sort order; it also returns a bool saying whether the target is really found in the slice. The slice must be sorted in increasing order.": OF A SORTED SLICE IT RETURNS how many elements are less than the target, and whether the target is among the elements; the world is as it was but for the count of draws. 'zs': what the cells behind the slice's address hold; 'zs.take n': its elements. (Of a slice that is not sorted: no contract here.) (LAID AT THE INSTANCE 'slices.BinarySearch[[]int64,int64]': no walk: one application.) -/
theorem Tryz.slices_BinarySearch_int (b off n c : Nat) (zs : List Int) (x : Int) (w : World) (hz : n ≤ zs.length) (hbig : n < 4611686018427387904) (hc : ∀ j, j < zs.length → w.cell? ⟨b, off + j, none⟩ = some (.int .i64 (zs.getD j 0))) (hs : (zs.take n).Pairwise (· ≤ ·)) :
    Calls Tryz.prog 68 #[.slice (some ⟨b, off, none⟩) n c, .int .i64 x] w fun e w' => e = .returned (.tuple #[.int .i64 ((zs.take n).countP (· < x) : Nat), .bool ((zs.take n).contains x)]) ∧ ∃ q, w' = w.drewN q := AnyG.slices_BinarySearch_int Tryz.laysSlN49_f68 b off n c zs x w hz hbig hc hs
def Tryz.laysSlE33_f20_ren : Go.Shelf.Ren := ⟨fun | 33 => 20 | n => n, fun | 22 => 22 | 23 => 3 | 4 => 4 | 3 => 3 | 0 => 0 | n => n, fun | n => n⟩
theorem Tryz.laysSlE33_f20 : Go.Proofs.SlLaysE.n33 Tryz.prog Tryz.laysSlE33_f20_ren := {
  mixed := by kernel_rfl
  f33 := ⟨Tryz.f20.name, by decide, Tryz.func20.trans (congrArg some (by kernel_rfl))⟩
  t0 := Tryz.underlying0
  a0 := Tryz.isAgg0
  z0 := Tryz.sizeOf0
  v0 := Tryz.zeroValue0
  t3 := Tryz.underlying3
  a3 := Tryz.isAgg3
  z3 := Tryz.sizeOf3
  v3 := Tryz.zeroValue3
  t4 := Tryz.underlying4
  a4 := Tryz.isAgg4
  z4 := Tryz.sizeOf4
  v4 := Tryz.zeroValue4
  t22 := Tryz.underlying22
  a22 := Tryz.isAgg22
  z22 := Tryz.sizeOf22
  v22 := Tryz.zeroValue22
  a23 := Tryz.isAgg3
  z23 := Tryz.sizeOf3 }
open Go.RowKit Go.Lib in
/-- slices.Equal: "Equal reports whether two slices are equal: the same length and all elements equal. .. Empty and nil slices are considered equal. Floating point NaNs are not considered equal.": IT RETURNS 'Lib.allEq eq (the one's elements) (the other's)'; the world is as it was but for the count of draws. (LAID AT THE INSTANCE 'slices.Equal[[]int,int]': no walk: one application.) -/
theorem Tryz.slices_Equal {α : Type} [Inhabited α] (enc : α → Value) (eq : α → α → Bool) (hne : NeqAt Tryz.prog 3 enc eq) (b1 o1 n c b2 o2 m d : Nat) (xs ys : List α) (w : World) (hx : n ≤ xs.length) (hy : m ≤ ys.length) (hbig : n ≤ 9223372036854775807) (hbig2 : m ≤ 9223372036854775807) (hc1 : ∀ j, j < xs.length → w.cell? ⟨b1, o1 + j, none⟩ = some (enc xs[j]!)) (hc2 : ∀ j, j < ys.length → w.cell? ⟨b2, o2 + j, none⟩ = some (enc ys[j]!)) :
    Calls Tryz.prog 20 #[.slice (some ⟨b1, o1, none⟩) n c, .slice (some ⟨b2, o2, none⟩) m d] w fun e w' => e = .returned (.bool (Lib.allEq eq (xs.take n) (ys.take m))) ∧ ∃ q, w' = w.drewN q := AnyE.slices_Equal Tryz.laysSlE33_f20 enc eq hne b1 o1 n c b2 o2 m d xs ys w hx hy hbig hbig2 hc1 hc2
def Tryz.laysSlE43_f51_ren : Go.Shelf.Ren := ⟨fun | 43 => 51 | n => n, fun | 22 => 132 | 23 => 2 | 3 => 3 | 4 => 4 | 0 => 0 | n => n, fun | n => n⟩
theorem Tryz.laysSlE43_f51 : Go.Proofs.SlLaysE.n43 Tryz.prog Tryz.laysSlE43_f51_ren := {
  mixed := by kernel_rfl
  f43 := ⟨Tryz.f51.name, by decide, Tryz.func51.trans (congrArg some (by kernel_rfl))⟩
  t0 := Tryz.underlying0
  a0 := Tryz.isAgg0
  z0 := Tryz.sizeOf0
  v0 := Tryz.zeroValue0
  t3 := Tryz.underlying3
  a3 := Tryz.isAgg3
  z3 := Tryz.sizeOf3
  v3 := Tryz.zeroValue3
  t4 := Tryz.underlying4
  a4 := Tryz.isAgg4
  z4 := Tryz.sizeOf4
  v4 := Tryz.zeroValue4
  t22 := Tryz.underlying132
  a22 := Tryz.isAgg132
  z22 := Tryz.sizeOf132
  v22 := Tryz.zeroValue132
  a23 := Tryz.isAgg2
  z23 := Tryz.sizeOf2 }
open Go.RowKit Go.Lib Go.Sort in
/-- slices.Compact: "Compact replaces consecutive runs of equal elements with a single copy. .. Compact zeroes the elements between the new length and the original length.": IT RETURNS THE SLICE CUT TO 'compactUpTo d d.size'; ITS CELLS HOLD THAT, THEN ZERO VALUES up to the old length; the library's two loops are walked. (LAID AT THE INSTANCE 'slices.Compact[[]int64,int64]': no walk: one application.) -/
theorem Tryz.slices_Compact {α : Type} [Inhabited α] [DecidableEq α] (enc : α → Value) (hO : OneCell enc) (heq : EqlAt Tryz.prog 2 enc (fun x y => decide (x = y))) (hne : NeqAt Tryz.prog 2 enc (fun x y => decide (x = y))) (zr : α) (v23 : ∀ w, (zeroValue 2).run Tryz.prog w = .ok (enc zr) w) (blk off cap : Nat) (d : Array α) (w : World) (hH : Holds enc w blk off d) (hsz : d.size ≤ 9223372036854775807) (hcap : d.size ≤ cap) :
    Calls Tryz.prog 51 #[.slice (some ⟨blk, off, none⟩) d.size cap] w fun e w' => e = .returned (.slice (some ⟨blk, off, none⟩) (compactUpTo d d.size).length cap) ∧ ∃ q, w' = putRow enc (Sort.ahead w q) blk off (compactUpTo d d.size ++ List.replicate (d.size - (compactUpTo d d.size).length) zr).toArray := AnyE.slices_Compact Tryz.laysSlE43_f51 enc hO heq hne zr v23 blk off cap d w hH hsz hcap
def Tryz.laysSlE041_f15_ren : Go.Shelf.Ren := ⟨fun | 41 => 15 | n => n, fun | 22 => 22 | 23 => 3 | 4 => 4 | n => n, fun | n => n⟩
theorem Tryz.laysSlE041_f15 : Go.Proofs.SlLaysE0.n41 Tryz.prog Tryz.laysSlE041_f15_ren := {
  mixed := by kernel_rfl
  f41 := ⟨Tryz.f15.name, by decide, Tryz.func15.trans (congrArg some (by kernel_rfl))⟩
  t4 := Tryz.underlying4
  a4 := Tryz.isAgg4
  z4 := Tryz.sizeOf4
  v4 := Tryz.zeroValue4
  t22 := Tryz.underlying22
  a22 := Tryz.isAgg22
  z22 := Tryz.sizeOf22
  v22 := Tryz.zeroValue22 }
open Go.RowKit Go.Lib in
/-- slices.Clone: "Clone returns a copy of the slice. The elements are copied using assignment, so this is a shallow clone. The result may have additional unused capacity. The result preserves the nilness of s.": OF A SLICE THAT IS NOT nil IT RETURNS A SLICE THAT IS NOT nil, OF THE SAME CELLS, IN MEMORY OF THE CALL's OWN ('ownsRow': the how-to's 6f); below the heap's size at the call all is as it was. (LAID AT THE INSTANCE 'slices.Clone[[]int,int]': no walk: one application.) -/
theorem Tryz.slices_Clone_f15 (i0 : TypeInfo) (z : Value) (size bytes : Nat) (hi : Tryz.prog.info? 3 = some i0) (hz0 : i0.zero = some z) (hz1 : i0.size = size) (hz2 : i0.bytes = bytes) (hzs : z.cells.size = size) (hsz : 0 < size) (z23 : ∀ w, (Go.sizeOf 3).run Tryz.prog w = .ok size w) (b off n c : Nat) (news : List Value) (w : World) (hl : news.length = n * size) (hn : n ≤ maxLen) (hbig : n * bytes ≤ 140737488355328) (hc : ∀ j u, news[j]? = some u → w.cell? ⟨b, off + j, none⟩ = some u) (h1 : ∀ u ∈ news, u.oneCell' = true) :
    Calls Tryz.prog 15 #[.slice (some ⟨b, off, none⟩) n c] w fun e w' => ∃ v', e = .returned v' ∧ w'.ownsRow w.heap.size 3 size v' n news ∧ v' ≠ .slice none 0 0 ∧ Below w.heap.size w w' := AnyE.slices_Clone Tryz.laysSlE041_f15 i0 z size bytes hi hz0 hz1 hz2 hzs hsz z23 b off n c news w hl hn hbig hc h1
def Tryz.laysSlE041_f52_ren : Go.Shelf.Ren := ⟨fun | 41 => 52 | n => n, fun | 22 => 132 | 23 => 2 | 4 => 4 | n => n, fun | n => n⟩
theorem Tryz.laysSlE041_f52 : Go.Proofs.SlLaysE0.n41 Tryz.prog Tryz.laysSlE041_f52_ren := {
  mixed := by kernel_rfl
  f41 := ⟨Tryz.f52.name, by decide, Tryz.func52.trans (congrArg some (by kernel_rfl))⟩
  t4 := Tryz.underlying4
  a4 := Tryz.isAgg4
  z4 := Tryz.sizeOf4
  v4 := Tryz.zeroValue4
  t22 := Tryz.underlying132
  a22 := Tryz.isAgg132
  z22 := Tryz.sizeOf132
  v22 := Tryz.zeroValue132 }
open Go.RowKit Go.Lib in
/-- slices.Clone: "Clone returns a copy of the slice. The elements are copied using assignment, so this is a shallow clone. The result may have additional unused capacity. The result preserves the nilness of s.": OF A SLICE THAT IS NOT nil IT RETURNS A SLICE THAT IS NOT nil, OF THE SAME CELLS, IN MEMORY OF THE CALL's OWN ('ownsRow': the how-to's 6f); below the heap's size at the call all is as it was. (LAID AT THE INSTANCE 'slices.Clone[[]int64,int64]': no walk: one application.) -/
theorem Tryz.slices_Clone_f52 (i0 : TypeInfo) (z : Value) (size bytes : Nat) (hi : Tryz.prog.info? 2 = some i0) (hz0 : i0.zero = some z) (hz1 : i0.size = size) (hz2 : i0.bytes = bytes) (hzs : z.cells.size = size) (hsz : 0 < size) (z23 : ∀ w, (Go.sizeOf 2).run Tryz.prog w = .ok size w) (b off n c : Nat) (news : List Value) (w : World) (hl : news.length = n * size) (hn : n ≤ maxLen) (hbig : n * bytes ≤ 140737488355328) (hc : ∀ j u, news[j]? = some u → w.cell? ⟨b, off + j, none⟩ = some u) (h1 : ∀ u ∈ news, u.oneCell' = true) :
    Calls Tryz.prog 52 #[.slice (some ⟨b, off, none⟩) n c] w fun e w' => ∃ v', e = .returned v' ∧ w'.ownsRow w.heap.size 2 size v' n news ∧ v' ≠ .slice none 0 0 ∧ Below w.heap.size w w' := AnyE.slices_Clone Tryz.laysSlE041_f52 i0 z size bytes hi hz0 hz1 hz2 hzs hsz z23 b off n c news w hl hn hbig hc h1
open Go.RowKit Go.Lib in
/-- The same at nil: nil comes back; the world is as it was; nothing is asked of the element's type. (LAID AT THE INSTANCE 'slices.Clone[[]int,int]': no walk: one application.) -/
theorem Tryz.slices_Clone_nil_f15 (n c : Nat) (w : World) :
    Calls Tryz.prog 15 #[.slice none n c] w fun e w' => e = .returned (.slice none 0 0) ∧ w' = w := AnyE.slices_Clone_nil Tryz.laysSlE041_f15 n c w
open Go.RowKit Go.Lib in
/-- The same at nil: nil comes back; the world is as it was; nothing is asked of the element's type. (LAID AT THE INSTANCE 'slices.Clone[[]int64,int64]': no walk: one application.) -/
theorem Tryz.slices_Clone_nil_f52 (n c : Nat) (w : World) :
    Calls Tryz.prog 52 #[.slice none n c] w fun e w' => e = .returned (.slice none 0 0) ∧ w' = w := AnyE.slices_Clone_nil Tryz.laysSlE041_f52 n c w
def Tryz.laysSlC27_f96_ren : Go.Shelf.Ren := ⟨fun | 7 => 96 | n => n, fun | 22 => 2 | 4 => 4 | n => n, fun | n => n⟩
theorem Tryz.laysSlC27_f96 : Go.Proofs.SlLaysC2.n7 Tryz.prog Tryz.laysSlC27_f96_ren := {
  mixed := by kernel_rfl
  f7 := ⟨Tryz.f96.name, by decide, Tryz.func96.trans (congrArg some (by kernel_rfl))⟩
  t4 := Tryz.underlying4
  a4 := Tryz.isAgg4
  z4 := Tryz.sizeOf4
  v4 := Tryz.zeroValue4
  t22 := Tryz.underlying2
  a22 := Tryz.isAgg2
  z22 := Tryz.sizeOf2
  v22 := Tryz.zeroValue2 }
open Go.Lib in
/-- cmp.isNaN at an int under a name: 'x != x': false. (LAID AT THE INSTANCE 'cmp.isNaN[int64]': no walk: one application.) -/
theorem Tryz.cmp_isNaN_int_f96 (x : Int) (w : World) :
    Calls Tryz.prog 96 #[.int .i64 x] w fun e w' => e = .returned (.bool false) ∧ w' = w := AnyG.cmp_isNaN_int Tryz.laysSlC27_f96 x w
def Tryz.laysSlC25_f66_ren : Go.Shelf.Ren := ⟨fun | 5 => 66 | 7 => 96 | n => n, fun | 22 => 2 | 3 => 3 | 4 => 4 | n => n, fun | n => n⟩
theorem Tryz.laysSlC25_f66 : Go.Proofs.SlLaysC2.n5 Tryz.prog Tryz.laysSlC25_f66_ren := {
  mixed := by kernel_rfl
  f5 := ⟨Tryz.f66.name, by decide, Tryz.func66.trans (congrArg some (by kernel_rfl))⟩
  f7 := ⟨Tryz.f96.name, by decide, Tryz.func96.trans (congrArg some (by kernel_rfl))⟩
  t3 := Tryz.underlying3
  a3 := Tryz.isAgg3
  z3 := Tryz.sizeOf3
  v3 := Tryz.zeroValue3
  t4 := Tryz.underlying4
  a4 := Tryz.isAgg4
  z4 := Tryz.sizeOf4
  v4 := Tryz.zeroValue4
  t22 := Tryz.underlying2
  a22 := Tryz.isAgg2
  z22 := Tryz.sizeOf2
  v22 := Tryz.zeroValue2 }
open Go.Lib in
/-- cmp.Compare at an int under a name: "Compare returns -1 if x is less than y, 0 if x equals y, +1 if x is greater than y.": IT RETURNS 'Lib.compareInt x y'; the world is as it was. (LAID AT THE INSTANCE 'cmp.Compare[int64]': no walk: one application.) -/
theorem Tryz.cmp_Compare_int_f66 (x y : Int) (w : World) :
    Calls Tryz.prog 66 #[.int .i64 x, .int .i64 y] w fun e w' => e = .returned (.int .i64 (Lib.compareInt x y)) ∧ w' = w := AnyG.cmp_Compare_int Tryz.laysSlC25_f66 x y w
def Tryz.laysSlF20_f81_ren : Go.Shelf.Ren := ⟨fun | 20 => 81 | n => n, fun | 24 => 22 | 22 => 33 | 3 => 3 | 25 => 93 | 4 => 4 | 0 => 0 | n => n, fun | n => n⟩
theorem Tryz.laysSlF20_f81 : Go.Proofs.SlLaysF.n20 Tryz.prog Tryz.laysSlF20_f81_ren := {
  mixed := by kernel_rfl
  f20 := ⟨Tryz.f81.name, by decide, Tryz.func81.trans (congrArg some (by kernel_rfl))⟩
  t0 := Tryz.underlying0
  a0 := Tryz.isAgg0
  z0 := Tryz.sizeOf0
  v0 := Tryz.zeroValue0
  t3 := Tryz.underlying3
  a3 := Tryz.isAgg3
  z3 := Tryz.sizeOf3
  v3 := Tryz.zeroValue3
  t4 := Tryz.underlying4
  a4 := Tryz.isAgg4
  z4 := Tryz.sizeOf4
  v4 := Tryz.zeroValue4
  t22 := Tryz.underlying33
  a22 := Tryz.isAgg33
  z22 := Tryz.sizeOf33
  v22 := Tryz.zeroValue33
  a24 := Tryz.isAgg22
  z24 := Tryz.sizeOf22
  t25 := Tryz.underlying93
  a25 := Tryz.isAgg93
  z25 := Tryz.sizeOf93
  v25 := Tryz.zeroValue93 }
open Go.RowKit Go.Lib Go.Sort in
theorem Tryz.insertionSortCmpFunc_one {α : Type} [Inhabited α] (enc : α → Value) (hO : OneCell enc) (cf : α → α → Int) (g : Nat) (cb : Array Value) (blk off cap a b : Nat) (d : Array α) (w : World) (eg : ∀ args w, (callFunc g args).run Tryz.prog w = .ok (.enter g args) w) (hcmp : CmpReads Tryz.prog g cb enc cf blk off d.size w) (hH : Holds enc w blk off d) (hab : a ≤ b) (hb : b ≤ d.size) (hsz : d.size < 4611686018427387904) :
    Calls Tryz.prog 81 #[.slice (some ⟨blk, off, none⟩) d.size cap, .int .i64 a, .int .i64 b, .func (.func g) #[] cb] w fun e w' =>
      e = .returned (.tuple #[]) ∧ ∃ n, w' = (putRow enc w blk off (Sort.insertionSort (ltOf cf) d a b)).drewN n := Any.insertionSortCmpFunc_one Tryz.laysSlF20_f81 enc hO cf g cb blk off cap a b d w eg hcmp hH hab hb hsz
def Tryz.laysSlM5_f50_ren : Go.Shelf.Ren := ⟨fun | 5 => 50 | 8 => 57 | 7 => 67 | 19 => 79 | 20 => 80 | 10 => 97 | 11 => 98 | 12 => 99 | 13 => 100 | 14 => 101 | 15 => 102 | 16 => 103 | 17 => 104 | 18 => 105 | 30 => 126 | 31 => 111 | 32 => 112 | 33 => 127 | 34 => 128 | 35 => 96 | 40 => 136 | n => n, fun | 23 => 132 | 25 => 2 | 3 => 3 | 32 => 144 | 22 => 132 | 0 => 0 | 44 => 171 | 46 => 112 | 4 => 4 | 36 => 164 | 35 => 163 | 41 => 138 | 5 => 5 | 9 => 9 | 53 => 198 | 57 => 202 | 63 => 218 | 64 => 219 | n => n, fun | n => n⟩
theorem Tryz.laysSlM5_f50 : Go.Proofs.SlLaysM.n5 Tryz.prog Tryz.laysSlM5_f50_ren := {
  mixed := by kernel_rfl
  f5 := ⟨Tryz.f50.name, by decide, Tryz.func50.trans (congrArg some (by kernel_rfl))⟩
  f7 := ⟨Tryz.f67.name, by decide, Tryz.func67.trans (congrArg some (by kernel_rfl))⟩
  f8 := Tryz.func57.trans (congrArg some (by kernel_rfl))
  f10 := ⟨Tryz.f97.name, by decide, Tryz.func97.trans (congrArg some (by kernel_rfl))⟩
  f11 := ⟨Tryz.f98.name, by decide, Tryz.func98.trans (congrArg some (by kernel_rfl))⟩
  f12 := ⟨Tryz.f99.name, by decide, Tryz.func99.trans (congrArg some (by kernel_rfl))⟩
  f13 := ⟨Tryz.f100.name, by decide, Tryz.func100.trans (congrArg some (by kernel_rfl))⟩
  f14 := ⟨Tryz.f101.name, by decide, Tryz.func101.trans (congrArg some (by kernel_rfl))⟩
  f15 := ⟨Tryz.f102.name, by decide, Tryz.func102.trans (congrArg some (by kernel_rfl))⟩
  f16 := ⟨Tryz.f103.name, by decide, Tryz.func103.trans (congrArg some (by kernel_rfl))⟩
  f17 := ⟨Tryz.f104.name, by decide, Tryz.func104.trans (congrArg some (by kernel_rfl))⟩
  f18 := ⟨Tryz.f105.name, by decide, Tryz.func105.trans (congrArg some (by kernel_rfl))⟩
  f19 := Tryz.func79.trans (congrArg some (by kernel_rfl))
  f20 := Tryz.func80.trans (congrArg some (by kernel_rfl))
  f30 := ⟨Tryz.f126.name, by decide, Tryz.func126.trans (congrArg some (by kernel_rfl))⟩
  f31 := Tryz.func111.trans (congrArg some (by kernel_rfl))
  f32 := Tryz.func112.trans (congrArg some (by kernel_rfl))
  f33 := ⟨Tryz.f127.name, by decide, Tryz.func127.trans (congrArg some (by kernel_rfl))⟩
  f34 := ⟨Tryz.f128.name, by decide, Tryz.func128.trans (congrArg some (by kernel_rfl))⟩
  f35 := ⟨Tryz.f96.name, by decide, Tryz.func96.trans (congrArg some (by kernel_rfl))⟩
  f40 := ⟨Tryz.f136.name, by decide, Tryz.func136.trans (congrArg some (by kernel_rfl))⟩
  t0 := Tryz.underlying0
  a0 := Tryz.isAgg0
  z0 := Tryz.sizeOf0
  v0 := Tryz.zeroValue0
  t3 := Tryz.underlying3
  a3 := Tryz.isAgg3
  z3 := Tryz.sizeOf3
  v3 := Tryz.zeroValue3
  t4 := Tryz.underlying4
  a4 := Tryz.isAgg4
  z4 := Tryz.sizeOf4
  v4 := Tryz.zeroValue4
  t5 := Tryz.underlying5
  a5 := Tryz.isAgg5
  z5 := Tryz.sizeOf5
  v5 := Tryz.zeroValue5
  t9 := Tryz.underlying9
  a9 := Tryz.isAgg9
  z9 := Tryz.sizeOf9
  v9 := Tryz.zeroValue9
  t22 := Tryz.underlying132
  a22 := Tryz.isAgg132
  z22 := Tryz.sizeOf132
  v22 := Tryz.zeroValue132
  t23 := Tryz.underlying132
  a23 := Tryz.isAgg132
  z23 := Tryz.sizeOf132
  v23 := Tryz.zeroValue132
  t25 := Tryz.underlying2
  a25 := Tryz.isAgg2
  z25 := Tryz.sizeOf2
  v25 := Tryz.zeroValue2
  t32 := Tryz.underlying144
  a32 := Tryz.isAgg144
  z32 := Tryz.sizeOf144
  v32 := Tryz.zeroValue144
  t35 := Tryz.underlying163
  a35 := Tryz.isAgg163
  z35 := Tryz.sizeOf163
  v35 := Tryz.zeroValue163
  t36 := Tryz.underlying164
  a36 := Tryz.isAgg164
  z36 := Tryz.sizeOf164
  v36 := Tryz.zeroValue164
  t41 := Tryz.underlying138
  a41 := Tryz.isAgg138
  z41 := Tryz.sizeOf138
  v41 := Tryz.zeroValue138
  t44 := Tryz.underlying171
  a44 := Tryz.isAgg171
  z44 := Tryz.sizeOf171
  v44 := Tryz.zeroValue171
  t46 := Tryz.underlying112
  a46 := Tryz.isAgg112
  z46 := Tryz.sizeOf112
  v46 := Tryz.zeroValue112
  t53 := Tryz.underlying198
  a53 := Tryz.isAgg198
  z53 := Tryz.sizeOf198
  v53 := Tryz.zeroValue198
  t57 := Tryz.underlying202
  a57 := Tryz.isAgg202
  z57 := Tryz.sizeOf202
  v57 := Tryz.zeroValue202
  t63 := Tryz.underlying218
  a63 := Tryz.isAgg218
  z63 := Tryz.sizeOf218
  v63 := Tryz.zeroValue218
  t64 := Tryz.underlying219
  a64 := Tryz.isAgg219
  z64 := Tryz.sizeOf219
  v64 := Tryz.zeroValue219 }
open Go.Sort Go.RowKit in
theorem Tryz.slices_Sort_int_f50 (blk off cap : Nat) (zs : List Int) (w : World) (hH : Holds (Value.int .i64) w blk off zs.toArray) (hblk : blk < w.heap.size) (hsz : zs.length < 4611686018427387904) :
    Calls Tryz.prog 50 #[.slice (some ⟨blk, off, none⟩) zs.length cap] w fun e w' =>
      e = .returned (.tuple #[]) ∧ ∃ n os, w' = grow (putRow (Value.int .i64) (Sort.ahead w n) blk off (zs.mergeSort fun x y => decide (x ≤ y)).toArray) os := AnyM.slices_Sort_int Tryz.laysSlM5_f50 blk off cap zs w hH hblk hsz
open Go.RowKit Go.Sort in
/-- .. and plain. (LAID AT THE INSTANCE 'slices.Sort[[]int64,int64]': no walk: one application.) -/
theorem Tryz.slices_Sort_int_none_f50 (p : Option Addr) (cap : Nat) (w : World) :
    Calls Tryz.prog 50 #[.slice p 0 cap] w fun e w' => e = .returned (.tuple #[]) ∧ w' = w := AnyM.slices_Sort_int_none Tryz.laysSlM5_f50 p cap w
def Tryz.laysSlF46_f115_ren : Go.Shelf.Ren := ⟨fun | 46 => 115 | n => n, fun | 24 => 22 | 22 => 33 | 3 => 3 | 25 => 93 | 4 => 4 | 0 => 0 | n => n, fun | n => n⟩
theorem Tryz.laysSlF46_f115 : Go.Proofs.SlLaysF.n46 Tryz.prog Tryz.laysSlF46_f115_ren := {
  mixed := by kernel_rfl
  f46 := ⟨Tryz.f115.name, by decide, Tryz.func115.trans (congrArg some (by kernel_rfl))⟩
  t0 := Tryz.underlying0
  a0 := Tryz.isAgg0
  z0 := Tryz.sizeOf0
  v0 := Tryz.zeroValue0
  t3 := Tryz.underlying3
  a3 := Tryz.isAgg3
  z3 := Tryz.sizeOf3
  v3 := Tryz.zeroValue3
  t4 := Tryz.underlying4
  a4 := Tryz.isAgg4
  z4 := Tryz.sizeOf4
  v4 := Tryz.zeroValue4
  t22 := Tryz.underlying33
  a22 := Tryz.isAgg33
  z22 := Tryz.sizeOf33
  v22 := Tryz.zeroValue33
  a24 := Tryz.isAgg22
  z24 := Tryz.sizeOf22
  t25 := Tryz.underlying93
  a25 := Tryz.isAgg93
  z25 := Tryz.sizeOf93
  v25 := Tryz.zeroValue93 }
open Go.RowKit Go.Lib Go.Sort in
/-- slices.siftDownCmpFunc at elements of one cell: from a world of the sort's to a world of the sort's. (LAID AT THE INSTANCE 'slices.siftDownCmpFunc[[]int]': no walk: one application.) -/
theorem Tryz.siftDownCmpFunc {α : Type} [Inhabited α] (enc : α → Value) (cf : α → α → Int) (g : Nat) (cb : Array Value) (blk off cap lo hi first : Nat) (d0 d : Array α) (w0 w : World) (eg : ∀ args w, (callFunc g args).run Tryz.prog w = .ok (.enter g args) w) (hcmp : CmpLays1 Tryz.prog g cb enc cf blk off d0.size w0) (R : Row1 enc w0 blk off d0) (hs : d0.size = d.size) (S : SW enc w0 blk off d w) (hlo : lo ≤ hi) (hb : first + hi ≤ d.size) (hsz : d.size < 4611686018427387904) :
    Calls Tryz.prog 115 #[.slice (some ⟨blk, off, none⟩) d.size cap, .int .i64 lo, .int .i64 hi, .int .i64 first, .func (.func g) #[] cb] w fun e w' =>
      e = .returned (.tuple #[]) ∧ SW enc w0 blk off (siftDown (ltOf cf) hi first lo d) w' := Any.siftDownCmpFunc Tryz.laysSlF46_f115 enc cf g cb blk off cap lo hi first d0 d w0 w eg hcmp R hs S hlo hb hsz
def Tryz.laysSlF21_f82_ren : Go.Shelf.Ren := ⟨fun | 21 => 82 | 46 => 115 | n => n, fun | 24 => 22 | 22 => 33 | 3 => 3 | 25 => 93 | 4 => 4 | 0 => 0 | n => n, fun | n => n⟩
theorem Tryz.laysSlF21_f82 : Go.Proofs.SlLaysF.n21 Tryz.prog Tryz.laysSlF21_f82_ren := {
  mixed := by kernel_rfl
  f21 := ⟨Tryz.f82.name, by decide, Tryz.func82.trans (congrArg some (by kernel_rfl))⟩
  f46 := ⟨Tryz.f115.name, by decide, Tryz.func115.trans (congrArg some (by kernel_rfl))⟩
  t0 := Tryz.underlying0
  a0 := Tryz.isAgg0
  z0 := Tryz.sizeOf0
  v0 := Tryz.zeroValue0
  t3 := Tryz.underlying3
  a3 := Tryz.isAgg3
  z3 := Tryz.sizeOf3
  v3 := Tryz.zeroValue3
  t4 := Tryz.underlying4
  a4 := Tryz.isAgg4
  z4 := Tryz.sizeOf4
  v4 := Tryz.zeroValue4
  t22 := Tryz.underlying33
  a22 := Tryz.isAgg33
  z22 := Tryz.sizeOf33
  v22 := Tryz.zeroValue33
  a24 := Tryz.isAgg22
  z24 := Tryz.sizeOf22
  t25 := Tryz.underlying93
  a25 := Tryz.isAgg93
  z25 := Tryz.sizeOf93
  v25 := Tryz.zeroValue93 }
open Go.RowKit Go.Lib Go.Sort in
/-- slices.heapSortCmpFunc at elements of one cell. (LAID AT THE INSTANCE 'slices.heapSortCmpFunc[[]int]': no walk: one application.) -/
theorem Tryz.heapSortCmpFunc {α : Type} [Inhabited α] (enc : α → Value) (cf : α → α → Int) (g : Nat) (cb : Array Value) (blk off cap a b : Nat) (d0 d : Array α) (w0 w : World) (eg : ∀ args w, (callFunc g args).run Tryz.prog w = .ok (.enter g args) w) (hcmp : CmpLays1 Tryz.prog g cb enc cf blk off d0.size w0) (R : Row1 enc w0 blk off d0) (hs : d0.size = d.size) (S : SW enc w0 blk off d w) (hab : a ≤ b) (hb : b ≤ d.size) (hsz : d.size < 4611686018427387904) :
    Calls Tryz.prog 82 #[.slice (some ⟨blk, off, none⟩) d.size cap, .int .i64 a, .int .i64 b, .func (.func g) #[] cb] w fun e w' =>
      e = .returned (.tuple #[]) ∧ SW enc w0 blk off (heapSort (ltOf cf) d a b) w' := Any.heapSortCmpFunc Tryz.laysSlF21_f82 enc cf g cb blk off cap a b d0 d w0 w eg hcmp R hs S hab hb hsz
open Go.RowKit Go.Lib Go.Sort in
/-- slices.insertionSortCmpFunc at elements of one cell: from a world of the sort's to a world of the sort's. (LAID AT THE INSTANCE 'slices.insertionSortCmpFunc[[]int]': no walk: one application.) -/
theorem Tryz.insertionSortCmpFunc_s {α : Type} [Inhabited α] (enc : α → Value) (cf : α → α → Int) (g : Nat) (cb : Array Value) (blk off cap a b : Nat) (d0 d : Array α) (w0 w : World) (eg : ∀ args w, (callFunc g args).run Tryz.prog w = .ok (.enter g args) w) (hcmp : CmpLays1 Tryz.prog g cb enc cf blk off d0.size w0) (R : Row1 enc w0 blk off d0) (hs : d0.size = d.size) (S : SW enc w0 blk off d w) (hab : a ≤ b) (hb : b ≤ d.size) (hsz : d.size < 4611686018427387904) :
    Calls Tryz.prog 81 #[.slice (some ⟨blk, off, none⟩) d.size cap, .int .i64 a, .int .i64 b, .func (.func g) #[] cb] w fun e w' => e = .returned (.tuple #[]) ∧ SW enc w0 blk off (Sort.insertionSort (ltOf cf) d a b) w' := Any.insertionSortCmpFunc_s Tryz.laysSlF20_f81 enc cf g cb blk off cap a b d0 d w0 w eg hcmp R hs S hab hb hsz
def Tryz.laysSlF57_f132_ren : Go.Shelf.Ren := ⟨fun | 57 => 132 | n => n, fun | 24 => 22 | 22 => 33 | 3 => 3 | 70 => 202 | 25 => 93 | 0 => 0 | 4 => 4 | n => n, fun | n => n⟩
theorem Tryz.laysSlF57_f132 : Go.Proofs.SlLaysF.n57 Tryz.prog Tryz.laysSlF57_f132_ren := {
  mixed := by kernel_rfl
  f57 := ⟨Tryz.f132.name, by decide, Tryz.func132.trans (congrArg some (by kernel_rfl))⟩
  t0 := Tryz.underlying0
  a0 := Tryz.isAgg0
  z0 := Tryz.sizeOf0
  v0 := Tryz.zeroValue0
  t3 := Tryz.underlying3
  a3 := Tryz.isAgg3
  z3 := Tryz.sizeOf3
  v3 := Tryz.zeroValue3
  t4 := Tryz.underlying4
  a4 := Tryz.isAgg4
  z4 := Tryz.sizeOf4
  v4 := Tryz.zeroValue4
  t22 := Tryz.underlying33
  a22 := Tryz.isAgg33
  z22 := Tryz.sizeOf33
  v22 := Tryz.zeroValue33
  a24 := Tryz.isAgg22
  z24 := Tryz.sizeOf22
  t25 := Tryz.underlying93
  a25 := Tryz.isAgg93
  z25 := Tryz.sizeOf93
  v25 := Tryz.zeroValue93
  t70 := Tryz.underlying202
  a70 := Tryz.isAgg202
  z70 := Tryz.sizeOf202
  v70 := Tryz.zeroValue202 }
open Go.RowKit Go.Lib Go.Sort in
/-- slices.order2CmpFunc at elements of one cell. (LAID AT THE INSTANCE 'slices.order2CmpFunc[[]int]': no walk: one application.) -/
theorem Tryz.order2CmpFunc {α : Type} [Inhabited α] (enc : α → Value) (cf : α → α → Int) (g : Nat) (cb : Array Value) (blk off cap a b c s : Nat) (d0 d : Array α) (w0 W : World) (eg : ∀ args w, (callFunc g args).run Tryz.prog w = .ok (.enter g args) w) (hcmp : CmpLays1 Tryz.prog g cb enc cf blk off d0.size w0) (R : Row1 enc w0 blk off d0) (hs : d0.size = d.size) (C : Cnt1 enc w0 blk off d c s W) (ha : a < d.size) (hb : b < d.size) (hsz : d.size < 4611686018427387904) (hss : s < 4611686018427387904) :
    Calls Tryz.prog 132 #[.slice (some ⟨blk, off, none⟩) d.size cap, .int .i64 a, .int .i64 b, .pointer (some ⟨c, 0, none⟩), .func (.func g) #[] cb] W fun e w' =>
      e = .returned (.tuple #[.int .i64 (order2 (ltOf cf) d a b s).1, .int .i64 (order2 (ltOf cf) d a b s).2.1]) ∧ Cnt1 enc w0 blk off d c (order2 (ltOf cf) d a b s).2.2 w' := Any.order2CmpFunc Tryz.laysSlF57_f132 enc cf g cb blk off cap a b c s d0 d w0 W eg hcmp R hs C ha hb hsz hss
def Tryz.laysSlF50_f117_ren : Go.Shelf.Ren := ⟨fun | 50 => 117 | 57 => 132 | n => n, fun | 24 => 22 | 22 => 33 | 3 => 3 | 70 => 202 | 25 => 93 | 77 => 219 | 0 => 0 | 4 => 4 | n => n, fun | n => n⟩
theorem Tryz.laysSlF50_f117 : Go.Proofs.SlLaysF.n50 Tryz.prog Tryz.laysSlF50_f117_ren := {
  mixed := by kernel_rfl
  f50 := ⟨Tryz.f117.name, by decide, Tryz.func117.trans (congrArg some (by kernel_rfl))⟩
  f57 := ⟨Tryz.f132.name, by decide, Tryz.func132.trans (congrArg some (by kernel_rfl))⟩
  t0 := Tryz.underlying0
  a0 := Tryz.isAgg0
  z0 := Tryz.sizeOf0
  v0 := Tryz.zeroValue0
  t3 := Tryz.underlying3
  a3 := Tryz.isAgg3
  z3 := Tryz.sizeOf3
  v3 := Tryz.zeroValue3
  t4 := Tryz.underlying4
  a4 := Tryz.isAgg4
  z4 := Tryz.sizeOf4
  v4 := Tryz.zeroValue4
  t22 := Tryz.underlying33
  a22 := Tryz.isAgg33
  z22 := Tryz.sizeOf33
  v22 := Tryz.zeroValue33
  a24 := Tryz.isAgg22
  z24 := Tryz.sizeOf22
  t25 := Tryz.underlying93
  a25 := Tryz.isAgg93
  z25 := Tryz.sizeOf93
  v25 := Tryz.zeroValue93
  t70 := Tryz.underlying202
  a70 := Tryz.isAgg202
  z70 := Tryz.sizeOf202
  v70 := Tryz.zeroValue202
  t77 := Tryz.underlying219
  a77 := Tryz.isAgg219
  z77 := Tryz.sizeOf219
  v77 := Tryz.zeroValue219 }
open Go.RowKit Go.Lib Go.Sort in
/-- slices.medianCmpFunc at elements of one cell. (LAID AT THE INSTANCE 'slices.medianCmpFunc[[]int]': no walk: one application.) -/
theorem Tryz.medianCmpFunc {α : Type} [Inhabited α] (enc : α → Value) (cf : α → α → Int) (g : Nat) (cb : Array Value) (blk off cap a b c' c s : Nat) (d0 d : Array α) (w0 W : World) (eg : ∀ args w, (callFunc g args).run Tryz.prog w = .ok (.enter g args) w) (hcmp : CmpLays1 Tryz.prog g cb enc cf blk off d0.size w0) (R : Row1 enc w0 blk off d0) (hs : d0.size = d.size) (C : Cnt1 enc w0 blk off d c s W) (ha : a < d.size) (hb : b < d.size) (hc : c' < d.size) (hsz : d.size < 4611686018427387904) (hss : s + 3 < 4611686018427387904) :
    Calls Tryz.prog 117 #[.slice (some ⟨blk, off, none⟩) d.size cap, .int .i64 a, .int .i64 b, .int .i64 c', .pointer (some ⟨c, 0, none⟩), .func (.func g) #[] cb] W fun e w' =>
      e = .returned (.int .i64 (median (ltOf cf) d a b c' s).1) ∧ Cnt1 enc w0 blk off d c (median (ltOf cf) d a b c' s).2 w' := Any.medianCmpFunc Tryz.laysSlF50_f117 enc cf g cb blk off cap a b c' c s d0 d w0 W eg hcmp R hs C ha hb hc hsz hss
def Tryz.laysSlF49_f116_ren : Go.Shelf.Ren := ⟨fun | 49 => 116 | 50 => 117 | 57 => 132 | n => n, fun | 24 => 22 | 22 => 33 | 3 => 3 | 70 => 202 | 25 => 93 | 77 => 219 | 0 => 0 | 4 => 4 | n => n, fun | n => n⟩
theorem Tryz.laysSlF49_f116 : Go.Proofs.SlLaysF.n49 Tryz.prog Tryz.laysSlF49_f116_ren := {
  mixed := by kernel_rfl
  f49 := ⟨Tryz.f116.name, by decide, Tryz.func116.trans (congrArg some (by kernel_rfl))⟩
  f50 := ⟨Tryz.f117.name, by decide, Tryz.func117.trans (congrArg some (by kernel_rfl))⟩
  f57 := ⟨Tryz.f132.name, by decide, Tryz.func132.trans (congrArg some (by kernel_rfl))⟩
  t0 := Tryz.underlying0
  a0 := Tryz.isAgg0
  z0 := Tryz.sizeOf0
  v0 := Tryz.zeroValue0
  t3 := Tryz.underlying3
  a3 := Tryz.isAgg3
  z3 := Tryz.sizeOf3
  v3 := Tryz.zeroValue3
  t4 := Tryz.underlying4
  a4 := Tryz.isAgg4
  z4 := Tryz.sizeOf4
  v4 := Tryz.zeroValue4
  t22 := Tryz.underlying33
  a22 := Tryz.isAgg33
  z22 := Tryz.sizeOf33
  v22 := Tryz.zeroValue33
  a24 := Tryz.isAgg22
  z24 := Tryz.sizeOf22
  t25 := Tryz.underlying93
  a25 := Tryz.isAgg93
  z25 := Tryz.sizeOf93
  v25 := Tryz.zeroValue93
  t70 := Tryz.underlying202
  a70 := Tryz.isAgg202
  z70 := Tryz.sizeOf202
  v70 := Tryz.zeroValue202
  t77 := Tryz.underlying219
  a77 := Tryz.isAgg219
  z77 := Tryz.sizeOf219
  v77 := Tryz.zeroValue219 }
open Go.RowKit Go.Lib Go.Sort in
/-- slices.medianAdjacentCmpFunc at elements of one cell. (LAID AT THE INSTANCE 'slices.medianAdjacentCmpFunc[[]int]': no walk: one application.) -/
theorem Tryz.medianAdjacentCmpFunc {α : Type} [Inhabited α] (enc : α → Value) (cf : α → α → Int) (g : Nat) (cb : Array Value) (blk off cap a c s : Nat) (d0 d : Array α) (w0 W : World) (eg : ∀ args w, (callFunc g args).run Tryz.prog w = .ok (.enter g args) w) (hcmp : CmpLays1 Tryz.prog g cb enc cf blk off d0.size w0) (R : Row1 enc w0 blk off d0) (hs : d0.size = d.size) (C : Cnt1 enc w0 blk off d c s W) (ha1 : 1 ≤ a) (ha2 : a + 1 < d.size) (hsz : d.size < 4611686018427387904) (hss : s + 3 < 4611686018427387904) :
    Calls Tryz.prog 116 #[.slice (some ⟨blk, off, none⟩) d.size cap, .int .i64 a, .pointer (some ⟨c, 0, none⟩), .func (.func g) #[] cb] W fun e w' =>
      e = .returned (.int .i64 (medianAdjacent (ltOf cf) d a s).1) ∧ Cnt1 enc w0 blk off d c (medianAdjacent (ltOf cf) d a s).2 w' := Any.medianAdjacentCmpFunc Tryz.laysSlF49_f116 enc cf g cb blk off cap a c s d0 d w0 W eg hcmp R hs C ha1 ha2 hsz hss
def Tryz.laysSlF23_f84_ren : Go.Shelf.Ren := ⟨fun | 23 => 84 | 49 => 116 | 50 => 117 | 57 => 132 | n => n, fun | 24 => 22 | 22 => 33 | 3 => 3 | 25 => 93 | 45 => 163 | 0 => 0 | 4 => 4 | 70 => 202 | 77 => 219 | n => n, fun | n => n⟩
theorem Tryz.laysSlF23_f84 : Go.Proofs.SlLaysF.n23 Tryz.prog Tryz.laysSlF23_f84_ren := {
  mixed := by kernel_rfl
  f23 := ⟨Tryz.f84.name, by decide, Tryz.func84.trans (congrArg some (by kernel_rfl))⟩
  f49 := ⟨Tryz.f116.name, by decide, Tryz.func116.trans (congrArg some (by kernel_rfl))⟩
  f50 := ⟨Tryz.f117.name, by decide, Tryz.func117.trans (congrArg some (by kernel_rfl))⟩
  f57 := ⟨Tryz.f132.name, by decide, Tryz.func132.trans (congrArg some (by kernel_rfl))⟩
  t0 := Tryz.underlying0
  a0 := Tryz.isAgg0
  z0 := Tryz.sizeOf0
  v0 := Tryz.zeroValue0
  t3 := Tryz.underlying3
  a3 := Tryz.isAgg3
  z3 := Tryz.sizeOf3
  v3 := Tryz.zeroValue3
  t4 := Tryz.underlying4
  a4 := Tryz.isAgg4
  z4 := Tryz.sizeOf4
  v4 := Tryz.zeroValue4
  t22 := Tryz.underlying33
  a22 := Tryz.isAgg33
  z22 := Tryz.sizeOf33
  v22 := Tryz.zeroValue33
  a24 := Tryz.isAgg22
  z24 := Tryz.sizeOf22
  t25 := Tryz.underlying93
  a25 := Tryz.isAgg93
  z25 := Tryz.sizeOf93
  v25 := Tryz.zeroValue93
  t45 := Tryz.underlying163
  a45 := Tryz.isAgg163
  z45 := Tryz.sizeOf163
  v45 := Tryz.zeroValue163
  t70 := Tryz.underlying202
  a70 := Tryz.isAgg202
  z70 := Tryz.sizeOf202
  v70 := Tryz.zeroValue202
  t77 := Tryz.underlying219
  a77 := Tryz.isAgg219
  z77 := Tryz.sizeOf219
  v77 := Tryz.zeroValue219 }
open Go.RowKit Go.Lib Go.Sort in
/-- slices.choosePivotCmpFunc at elements of one cell: THE LIBRARY's OWN TEXT COMPUTES 'Sort.choosePivot (ltOf cf) d a b'; the row is not turned. (After Derived/Shelf/SlSortFuncK/PivotK.lean, row for row; the counter's world by 'CntK'.) (LAID AT THE INSTANCE 'slices.choosePivotCmpFunc[[]int]': no walk: one application.) -/
theorem Tryz.choosePivotCmpFunc {α : Type} [Inhabited α] (enc : α → Value) (cf : α → α → Int) (g : Nat) (cb : Array Value) (blk off cap a b : Nat) (d0 d : Array α) (w0 W : World) (eg : ∀ args w, (callFunc g args).run Tryz.prog w = .ok (.enter g args) w) (hcmp : CmpLays1 Tryz.prog g cb enc cf blk off d0.size w0) (R : Row1 enc w0 blk off d0) (hs : d0.size = d.size) (S : SW enc w0 blk off d W) (hab : a < b) (hb : b ≤ d.size) (hsz : d.size < 4611686018427387904) :
    Calls Tryz.prog 84 #[.slice (some ⟨blk, off, none⟩) d.size cap, .int .i64 a, .int .i64 b, .func (.func g) #[] cb] W fun e w' =>
      e = .returned (.tuple #[.int .i64 (choosePivot (ltOf cf) d a b).1, .int .i64 (hintCode (choosePivot (ltOf cf) d a b).2)]) ∧ SW enc w0 blk off d w' := Any.choosePivotCmpFunc Tryz.laysSlF23_f84 enc cf g cb blk off cap a b d0 d w0 W eg hcmp R hs S hab hb hsz
def Tryz.laysSlF24_f85_ren : Go.Shelf.Ren := ⟨fun | 24 => 85 | n => n, fun | 24 => 22 | 22 => 33 | 3 => 3 | 25 => 93 | 4 => 4 | 0 => 0 | n => n, fun | n => n⟩
theorem Tryz.laysSlF24_f85 : Go.Proofs.SlLaysF.n24 Tryz.prog Tryz.laysSlF24_f85_ren := {
  mixed := by kernel_rfl
  f24 := ⟨Tryz.f85.name, by decide, Tryz.func85.trans (congrArg some (by kernel_rfl))⟩
  t0 := Tryz.underlying0
  a0 := Tryz.isAgg0
  z0 := Tryz.sizeOf0
  v0 := Tryz.zeroValue0
  t3 := Tryz.underlying3
  a3 := Tryz.isAgg3
  z3 := Tryz.sizeOf3
  v3 := Tryz.zeroValue3
  t4 := Tryz.underlying4
  a4 := Tryz.isAgg4
  z4 := Tryz.sizeOf4
  v4 := Tryz.zeroValue4
  t22 := Tryz.underlying33
  a22 := Tryz.isAgg33
  z22 := Tryz.sizeOf33
  v22 := Tryz.zeroValue33
  a24 := Tryz.isAgg22
  z24 := Tryz.sizeOf22
  t25 := Tryz.underlying93
  a25 := Tryz.isAgg93
  z25 := Tryz.sizeOf93
  v25 := Tryz.zeroValue93 }
open Go.RowKit Go.Lib Go.Sort in
/-- slices.reverseRangeCmpFunc at elements of one cell: it exchanges and does not compare. (LAID AT THE INSTANCE 'slices.reverseRangeCmpFunc[[]int]': no walk: one application.) -/
theorem Tryz.reverseRangeCmpFunc {α : Type} [Inhabited α] (enc : α → Value) (g : Nat) (cb : Array Value) (blk off cap a b : Nat) (d0 d : Array α) (w0 w : World) (R : Row1 enc w0 blk off d0) (hs : d0.size = d.size) (S : SW enc w0 blk off d w) (hab : a ≤ b) (hb : b ≤ d.size) (hsz : d.size < 4611686018427387904) :
    Calls Tryz.prog 85 #[.slice (some ⟨blk, off, none⟩) d.size cap, .int .i64 a, .int .i64 b, .func (.func g) #[] cb] w fun e w' => e = .returned (.tuple #[]) ∧ SW enc w0 blk off (reverseRange d a b) w' := Any.reverseRangeCmpFunc Tryz.laysSlF24_f85 enc g cb blk off cap a b d0 d w0 w R hs S hab hb hsz
def Tryz.laysSlF25_f86_ren : Go.Shelf.Ren := ⟨fun | 25 => 86 | n => n, fun | 24 => 22 | 22 => 33 | 3 => 3 | 25 => 93 | 4 => 4 | 0 => 0 | n => n, fun | n => n⟩
theorem Tryz.laysSlF25_f86 : Go.Proofs.SlLaysF.n25 Tryz.prog Tryz.laysSlF25_f86_ren := {
  mixed := by kernel_rfl
  f25 := ⟨Tryz.f86.name, by decide, Tryz.func86.trans (congrArg some (by kernel_rfl))⟩
  t0 := Tryz.underlying0
  a0 := Tryz.isAgg0
  z0 := Tryz.sizeOf0
  v0 := Tryz.zeroValue0
  t3 := Tryz.underlying3
  a3 := Tryz.isAgg3
  z3 := Tryz.sizeOf3
  v3 := Tryz.zeroValue3
  t4 := Tryz.underlying4
  a4 := Tryz.isAgg4
  z4 := Tryz.sizeOf4
  v4 := Tryz.zeroValue4
  t22 := Tryz.underlying33
  a22 := Tryz.isAgg33
  z22 := Tryz.sizeOf33
  v22 := Tryz.zeroValue33
  a24 := Tryz.isAgg22
  z24 := Tryz.sizeOf22
  t25 := Tryz.underlying93
  a25 := Tryz.isAgg93
  z25 := Tryz.sizeOf93
  v25 := Tryz.zeroValue93 }
open Go.RowKit Go.Lib Go.Sort in
/-- slices.partialInsertionSortCmpFunc at elements of one cell. (LAID AT THE INSTANCE 'slices.partialInsertionSortCmpFunc[[]int]': no walk: one application.) -/
theorem Tryz.partialInsertionSortCmpFunc {α : Type} [Inhabited α] (enc : α → Value) (cf : α → α → Int) (g : Nat) (cb : Array Value) (blk off cap a b : Nat) (d0 d : Array α) (w0 w : World) (eg : ∀ args w, (callFunc g args).run Tryz.prog w = .ok (.enter g args) w) (hcmp : CmpLays1 Tryz.prog g cb enc cf blk off d0.size w0) (R : Row1 enc w0 blk off d0) (hs : d0.size = d.size) (S : SW enc w0 blk off d w) (hab : a < b) (hb : b ≤ d.size) (hsz : d.size < 4611686018427387904) :
    Calls Tryz.prog 86 #[.slice (some ⟨blk, off, none⟩) d.size cap, .int .i64 a, .int .i64 b, .func (.func g) #[] cb] w fun e w' =>
      e = .returned (.bool (Sort.partialInsertionSort (ltOf cf) d a b).2) ∧ SW enc w0 blk off (Sort.partialInsertionSort (ltOf cf) d a b).1 w' := Any.partialInsertionSortCmpFunc Tryz.laysSlF25_f86 enc cf g cb blk off cap a b d0 d w0 w eg hcmp R hs S hab hb hsz
def Tryz.laysSlF26_f87_ren : Go.Shelf.Ren := ⟨fun | 26 => 87 | n => n, fun | 24 => 22 | 22 => 33 | 3 => 3 | 25 => 93 | 0 => 0 | 4 => 4 | n => n, fun | n => n⟩
theorem Tryz.laysSlF26_f87 : Go.Proofs.SlLaysF.n26 Tryz.prog Tryz.laysSlF26_f87_ren := {
  mixed := by kernel_rfl
  f26 := ⟨Tryz.f87.name, by decide, Tryz.func87.trans (congrArg some (by kernel_rfl))⟩
  t0 := Tryz.underlying0
  a0 := Tryz.isAgg0
  z0 := Tryz.sizeOf0
  v0 := Tryz.zeroValue0
  t3 := Tryz.underlying3
  a3 := Tryz.isAgg3
  z3 := Tryz.sizeOf3
  v3 := Tryz.zeroValue3
  t4 := Tryz.underlying4
  a4 := Tryz.isAgg4
  z4 := Tryz.sizeOf4
  v4 := Tryz.zeroValue4
  t22 := Tryz.underlying33
  a22 := Tryz.isAgg33
  z22 := Tryz.sizeOf33
  v22 := Tryz.zeroValue33
  a24 := Tryz.isAgg22
  z24 := Tryz.sizeOf22
  t25 := Tryz.underlying93
  a25 := Tryz.isAgg93
  z25 := Tryz.sizeOf93
  v25 := Tryz.zeroValue93 }
open Go.RowKit Go.Lib Go.Sort in
/-- slices.partitionEqualCmpFunc at elements of one cell. (After Derived/Shelf/SlSortFuncK/PartitionK.lean, row for row.) (LAID AT THE INSTANCE 'slices.partitionEqualCmpFunc[[]int]': no walk: one application.) -/
theorem Tryz.partitionEqualCmpFunc {α : Type} [Inhabited α] (enc : α → Value) (cf : α → α → Int) (g : Nat) (cb : Array Value) (blk off cap a b pivot : Nat) (d0 d : Array α) (w0 w : World) (eg : ∀ args w, (callFunc g args).run Tryz.prog w = .ok (.enter g args) w) (hcmp : CmpLays1 Tryz.prog g cb enc cf blk off d0.size w0) (R : Row1 enc w0 blk off d0) (hs : d0.size = d.size) (S : SW enc w0 blk off d w) (hap : a ≤ pivot) (hpb : pivot < b) (hb : b ≤ d.size) (hsz : d.size < 4611686018427387904) :
    Calls Tryz.prog 87 #[.slice (some ⟨blk, off, none⟩) d.size cap, .int .i64 a, .int .i64 b, .int .i64 pivot, .func (.func g) #[] cb] w fun e w' =>
      e = .returned (.int .i64 (Sort.partitionEqual (ltOf cf) d a b pivot).1) ∧ SW enc w0 blk off (Sort.partitionEqual (ltOf cf) d a b pivot).2 w' := Any.partitionEqualCmpFunc Tryz.laysSlF26_f87 enc cf g cb blk off cap a b pivot d0 d w0 w eg hcmp R hs S hap hpb hb hsz
def Tryz.laysSlF27_f88_ren : Go.Shelf.Ren := ⟨fun | 27 => 88 | n => n, fun | 24 => 22 | 22 => 33 | 3 => 3 | 25 => 93 | 4 => 4 | 0 => 0 | n => n, fun | n => n⟩
theorem Tryz.laysSlF27_f88 : Go.Proofs.SlLaysF.n27 Tryz.prog Tryz.laysSlF27_f88_ren := {
  mixed := by kernel_rfl
  f27 := ⟨Tryz.f88.name, by decide, Tryz.func88.trans (congrArg some (by kernel_rfl))⟩
  t0 := Tryz.underlying0
  a0 := Tryz.isAgg0
  z0 := Tryz.sizeOf0
  v0 := Tryz.zeroValue0
  t3 := Tryz.underlying3
  a3 := Tryz.isAgg3
  z3 := Tryz.sizeOf3
  v3 := Tryz.zeroValue3
  t4 := Tryz.underlying4
  a4 := Tryz.isAgg4
  z4 := Tryz.sizeOf4
  v4 := Tryz.zeroValue4
  t22 := Tryz.underlying33
  a22 := Tryz.isAgg33
  z22 := Tryz.sizeOf33
  v22 := Tryz.zeroValue33
  a24 := Tryz.isAgg22
  z24 := Tryz.sizeOf22
  t25 := Tryz.underlying93
  a25 := Tryz.isAgg93
  z25 := Tryz.sizeOf93
  v25 := Tryz.zeroValue93 }
open Go.RowKit Go.Lib Go.Sort in
/-- slices.partitionCmpFunc at elements of one cell. (After Derived/Shelf/SlSortFuncK/PartitionK.lean, row for row.) (LAID AT THE INSTANCE 'slices.partitionCmpFunc[[]int]': no walk: one application.) -/
theorem Tryz.partitionCmpFunc {α : Type} [Inhabited α] (enc : α → Value) (cf : α → α → Int) (g : Nat) (cb : Array Value) (blk off cap a b pivot : Nat) (d0 d : Array α) (w0 w : World) (eg : ∀ args w, (callFunc g args).run Tryz.prog w = .ok (.enter g args) w) (hcmp : CmpLays1 Tryz.prog g cb enc cf blk off d0.size w0) (R : Row1 enc w0 blk off d0) (hs : d0.size = d.size) (S : SW enc w0 blk off d w) (hap : a ≤ pivot) (hpb : pivot < b) (hb : b ≤ d.size) (hsz : d.size < 4611686018427387904) :
    Calls Tryz.prog 88 #[.slice (some ⟨blk, off, none⟩) d.size cap, .int .i64 a, .int .i64 b, .int .i64 pivot, .func (.func g) #[] cb] w fun e w' =>
      e = .returned (.tuple #[.int .i64 (Sort.partition (ltOf cf) d a b pivot).1, .bool (Sort.partition (ltOf cf) d a b pivot).2.1]) ∧ SW enc w0 blk off (Sort.partition (ltOf cf) d a b pivot).2.2 w' := Any.partitionCmpFunc Tryz.laysSlF27_f88 enc cf g cb blk off cap a b pivot d0 d w0 w eg hcmp R hs S hap hpb hb hsz
def Tryz.laysSlF14_f58_ren : Go.Shelf.Ren := ⟨fun | 14 => 58 | 20 => 81 | 21 => 82 | 22 => 83 | 23 => 84 | 24 => 85 | 25 => 86 | 26 => 87 | 27 => 88 | 46 => 115 | 47 => 111 | 48 => 112 | 49 => 116 | 50 => 117 | 15 => 57 | 57 => 132 | 28 => 79 | 29 => 80 | n => n, fun | 24 => 22 | 22 => 33 | 3 => 3 | 25 => 93 | 4 => 4 | 0 => 0 | 46 => 164 | 45 => 163 | 50 => 138 | 66 => 198 | 39 => 144 | 55 => 112 | 70 => 202 | 76 => 218 | 77 => 219 | 53 => 171 | 5 => 5 | 9 => 9 | n => n, fun | n => n⟩
theorem Tryz.laysSlF14_f58 : Go.Proofs.SlLaysF.n14 Tryz.prog Tryz.laysSlF14_f58_ren := {
  mixed := by kernel_rfl
  f14 := ⟨Tryz.f58.name, by decide, Tryz.func58.trans (congrArg some (by kernel_rfl))⟩
  f15 := Tryz.func57.trans (congrArg some (by kernel_rfl))
  f20 := ⟨Tryz.f81.name, by decide, Tryz.func81.trans (congrArg some (by kernel_rfl))⟩
  f21 := ⟨Tryz.f82.name, by decide, Tryz.func82.trans (congrArg some (by kernel_rfl))⟩
  f22 := ⟨Tryz.f83.name, by decide, Tryz.func83.trans (congrArg some (by kernel_rfl))⟩
  f23 := ⟨Tryz.f84.name, by decide, Tryz.func84.trans (congrArg some (by kernel_rfl))⟩
  f24 := ⟨Tryz.f85.name, by decide, Tryz.func85.trans (congrArg some (by kernel_rfl))⟩
  f25 := ⟨Tryz.f86.name, by decide, Tryz.func86.trans (congrArg some (by kernel_rfl))⟩
  f26 := ⟨Tryz.f87.name, by decide, Tryz.func87.trans (congrArg some (by kernel_rfl))⟩
  f27 := ⟨Tryz.f88.name, by decide, Tryz.func88.trans (congrArg some (by kernel_rfl))⟩
  f28 := Tryz.func79.trans (congrArg some (by kernel_rfl))
  f29 := Tryz.func80.trans (congrArg some (by kernel_rfl))
  f46 := ⟨Tryz.f115.name, by decide, Tryz.func115.trans (congrArg some (by kernel_rfl))⟩
  f47 := Tryz.func111.trans (congrArg some (by kernel_rfl))
  f48 := Tryz.func112.trans (congrArg some (by kernel_rfl))
  f49 := ⟨Tryz.f116.name, by decide, Tryz.func116.trans (congrArg some (by kernel_rfl))⟩
  f50 := ⟨Tryz.f117.name, by decide, Tryz.func117.trans (congrArg some (by kernel_rfl))⟩
  f57 := ⟨Tryz.f132.name, by decide, Tryz.func132.trans (congrArg some (by kernel_rfl))⟩
  t0 := Tryz.underlying0
  a0 := Tryz.isAgg0
  z0 := Tryz.sizeOf0
  v0 := Tryz.zeroValue0
  t3 := Tryz.underlying3
  a3 := Tryz.isAgg3
  z3 := Tryz.sizeOf3
  v3 := Tryz.zeroValue3
  t4 := Tryz.underlying4
  a4 := Tryz.isAgg4
  z4 := Tryz.sizeOf4
  v4 := Tryz.zeroValue4
  t5 := Tryz.underlying5
  a5 := Tryz.isAgg5
  z5 := Tryz.sizeOf5
  v5 := Tryz.zeroValue5
  t9 := Tryz.underlying9
  a9 := Tryz.isAgg9
  z9 := Tryz.sizeOf9
  v9 := Tryz.zeroValue9
  t22 := Tryz.underlying33
  a22 := Tryz.isAgg33
  z22 := Tryz.sizeOf33
  v22 := Tryz.zeroValue33
  a24 := Tryz.isAgg22
  z24 := Tryz.sizeOf22
  t25 := Tryz.underlying93
  a25 := Tryz.isAgg93
  z25 := Tryz.sizeOf93
  v25 := Tryz.zeroValue93
  t39 := Tryz.underlying144
  a39 := Tryz.isAgg144
  z39 := Tryz.sizeOf144
  v39 := Tryz.zeroValue144
  t45 := Tryz.underlying163
  a45 := Tryz.isAgg163
  z45 := Tryz.sizeOf163
  v45 := Tryz.zeroValue163
  t46 := Tryz.underlying164
  a46 := Tryz.isAgg164
  z46 := Tryz.sizeOf164
  v46 := Tryz.zeroValue164
  t50 := Tryz.underlying138
  a50 := Tryz.isAgg138
  z50 := Tryz.sizeOf138
  v50 := Tryz.zeroValue138
  t53 := Tryz.underlying171
  a53 := Tryz.isAgg171
  z53 := Tryz.sizeOf171
  v53 := Tryz.zeroValue171
  t55 := Tryz.underlying112
  a55 := Tryz.isAgg112
  z55 := Tryz.sizeOf112
  v55 := Tryz.zeroValue112
  t66 := Tryz.underlying198
  a66 := Tryz.isAgg198
  z66 := Tryz.sizeOf198
  v66 := Tryz.zeroValue198
  t70 := Tryz.underlying202
  a70 := Tryz.isAgg202
  z70 := Tryz.sizeOf202
  v70 := Tryz.zeroValue202
  t76 := Tryz.underlying218
  a76 := Tryz.isAgg218
  z76 := Tryz.sizeOf218
  v76 := Tryz.zeroValue218
  t77 := Tryz.underlying219
  a77 := Tryz.isAgg219
  z77 := Tryz.sizeOf219
  v77 := Tryz.zeroValue219 }
open Go.RowKit Go.Lib Go.Sort in
/-- slices.pdqsortCmpFunc at elements of one cell, WHOLE. (After Derived/Shelf/SlSortFuncK/PdqK.lean, row for row: the slots and the regions' numbers are this body's.) (LAID AT THE INSTANCE 'slices.pdqsortCmpFunc[[]int]': no walk: one application.) -/
theorem Tryz.pdqsortCmpFunc_all {α : Type} [Inhabited α] (enc : α → Value) (cf : α → α → Int) (g : Nat) (cb : Array Value) (hO : SWO (ltOf cf)) (blk off cap : Nat) (d0 : Array α) (w0 : World) (eg : ∀ args w, (callFunc g args).run Tryz.prog w = .ok (.enter g args) w) (hcmp : CmpLays1 Tryz.prog g cb enc cf blk off d0.size w0) (R : Row1 enc w0 blk off d0) :
    ∀ (N a b limit : Nat) (d : Array α) (w : World), b - a < N → d0.size = d.size → SW enc w0 blk off d w → a ≤ b → b ≤ d.size → d.size < 4611686018427387904 → limit < 4611686018427387904 → Below (ltOf cf) a b d →
    Calls Tryz.prog 58 #[.slice (some ⟨blk, off, none⟩) d.size cap, .int .i64 a, .int .i64 b, .int .i64 limit, .func (.func g) #[] cb] w fun e w' => e = .returned (.tuple #[]) ∧ SW enc w0 blk off (pdq (ltOf cf) d a b limit true true) w' := Any.pdqsortCmpFunc_all Tryz.laysSlF14_f58 enc cf g cb hO blk off cap d0 w0 eg hcmp R
def Tryz.laysSlF6_f41_ren : Go.Shelf.Ren := ⟨fun | 6 => 41 | 15 => 57 | 14 => 58 | 28 => 79 | 29 => 80 | 20 => 81 | 21 => 82 | 22 => 83 | 23 => 84 | 24 => 85 | 25 => 86 | 26 => 87 | 27 => 88 | 46 => 115 | 47 => 111 | 48 => 112 | 49 => 116 | 50 => 117 | 57 => 132 | n => n, fun | 22 => 33 | 24 => 22 | 25 => 93 | 3 => 3 | 39 => 144 | 0 => 0 | 53 => 171 | 55 => 112 | 4 => 4 | 46 => 164 | 45 => 163 | 50 => 138 | 5 => 5 | 9 => 9 | 66 => 198 | 70 => 202 | 76 => 218 | 77 => 219 | n => n, fun | n => n⟩
theorem Tryz.laysSlF6_f41 : Go.Proofs.SlLaysF.n6 Tryz.prog Tryz.laysSlF6_f41_ren := {
  mixed := by kernel_rfl
  f6 := ⟨Tryz.f41.name, by decide, Tryz.func41.trans (congrArg some (by kernel_rfl))⟩
  f14 := ⟨Tryz.f58.name, by decide, Tryz.func58.trans (congrArg some (by kernel_rfl))⟩
  f15 := Tryz.func57.trans (congrArg some (by kernel_rfl))
  f20 := ⟨Tryz.f81.name, by decide, Tryz.func81.trans (congrArg some (by kernel_rfl))⟩
  f21 := ⟨Tryz.f82.name, by decide, Tryz.func82.trans (congrArg some (by kernel_rfl))⟩
  f22 := ⟨Tryz.f83.name, by decide, Tryz.func83.trans (congrArg some (by kernel_rfl))⟩
  f23 := ⟨Tryz.f84.name, by decide, Tryz.func84.trans (congrArg some (by kernel_rfl))⟩
  f24 := ⟨Tryz.f85.name, by decide, Tryz.func85.trans (congrArg some (by kernel_rfl))⟩
  f25 := ⟨Tryz.f86.name, by decide, Tryz.func86.trans (congrArg some (by kernel_rfl))⟩
  f26 := ⟨Tryz.f87.name, by decide, Tryz.func87.trans (congrArg some (by kernel_rfl))⟩
  f27 := ⟨Tryz.f88.name, by decide, Tryz.func88.trans (congrArg some (by kernel_rfl))⟩
  f28 := Tryz.func79.trans (congrArg some (by kernel_rfl))
  f29 := Tryz.func80.trans (congrArg some (by kernel_rfl))
  f46 := ⟨Tryz.f115.name, by decide, Tryz.func115.trans (congrArg some (by kernel_rfl))⟩
  f47 := Tryz.func111.trans (congrArg some (by kernel_rfl))
  f48 := Tryz.func112.trans (congrArg some (by kernel_rfl))
  f49 := ⟨Tryz.f116.name, by decide, Tryz.func116.trans (congrArg some (by kernel_rfl))⟩
  f50 := ⟨Tryz.f117.name, by decide, Tryz.func117.trans (congrArg some (by kernel_rfl))⟩
  f57 := ⟨Tryz.f132.name, by decide, Tryz.func132.trans (congrArg some (by kernel_rfl))⟩
  t0 := Tryz.underlying0
  a0 := Tryz.isAgg0
  z0 := Tryz.sizeOf0
  v0 := Tryz.zeroValue0
  t3 := Tryz.underlying3
  a3 := Tryz.isAgg3
  z3 := Tryz.sizeOf3
  v3 := Tryz.zeroValue3
  t4 := Tryz.underlying4
  a4 := Tryz.isAgg4
  z4 := Tryz.sizeOf4
  v4 := Tryz.zeroValue4
  t5 := Tryz.underlying5
  a5 := Tryz.isAgg5
  z5 := Tryz.sizeOf5
  v5 := Tryz.zeroValue5
  t9 := Tryz.underlying9
  a9 := Tryz.isAgg9
  z9 := Tryz.sizeOf9
  v9 := Tryz.zeroValue9
  t22 := Tryz.underlying33
  a22 := Tryz.isAgg33
  z22 := Tryz.sizeOf33
  v22 := Tryz.zeroValue33
  a24 := Tryz.isAgg22
  z24 := Tryz.sizeOf22
  t25 := Tryz.underlying93
  a25 := Tryz.isAgg93
  z25 := Tryz.sizeOf93
  v25 := Tryz.zeroValue93
  t39 := Tryz.underlying144
  a39 := Tryz.isAgg144
  z39 := Tryz.sizeOf144
  v39 := Tryz.zeroValue144
  t45 := Tryz.underlying163
  a45 := Tryz.isAgg163
  z45 := Tryz.sizeOf163
  v45 := Tryz.zeroValue163
  t46 := Tryz.underlying164
  a46 := Tryz.isAgg164
  z46 := Tryz.sizeOf164
  v46 := Tryz.zeroValue164
  t50 := Tryz.underlying138
  a50 := Tryz.isAgg138
  z50 := Tryz.sizeOf138
  v50 := Tryz.zeroValue138
  t53 := Tryz.underlying171
  a53 := Tryz.isAgg171
  z53 := Tryz.sizeOf171
  v53 := Tryz.zeroValue171
  t55 := Tryz.underlying112
  a55 := Tryz.isAgg112
  z55 := Tryz.sizeOf112
  v55 := Tryz.zeroValue112
  t66 := Tryz.underlying198
  a66 := Tryz.isAgg198
  z66 := Tryz.sizeOf198
  v66 := Tryz.zeroValue198
  t70 := Tryz.underlying202
  a70 := Tryz.isAgg202
  z70 := Tryz.sizeOf202
  v70 := Tryz.zeroValue202
  t76 := Tryz.underlying218
  a76 := Tryz.isAgg218
  z76 := Tryz.sizeOf218
  v76 := Tryz.zeroValue218
  t77 := Tryz.underlying219
  a77 := Tryz.isAgg219
  z77 := Tryz.sizeOf219
  v77 := Tryz.zeroValue219 }
open Go.RowKit Go.Lib Go.Sort in
/-- **slices.SortFunc: WHAT THE ROW HOLDS, TO THE ELEMENT.** (LAID AT THE INSTANCE 'slices.SortFunc[[][]int,[]int]': no walk: one application.) -/
theorem Tryz.slices_SortFunc_eq {α : Type} [Inhabited α] (enc : α → Value) (h1 : OneCell enc) (cf : α → α → Int) (hO : SWO (ltOf cf)) (g : Nat) (cb : Array Value) (blk off cap : Nat) (d : Array α) (w : World) (eg : ∀ args w, (callFunc g args).run Tryz.prog w = .ok (.enter g args) w) (hcmp : CmpLays1 Tryz.prog g cb enc cf blk off d.size w) (hH : Holds enc w blk off d) (hblk : blk < w.heap.size) (hsz : d.size < 4611686018427387904) :
    Calls Tryz.prog 41 #[.slice (some ⟨blk, off, none⟩) d.size cap, .func (.func g) #[] cb] w fun e w' =>
      e = .returned (.tuple #[]) ∧ ∃ n os, w' = sortWorld enc w blk off n (pdq (ltOf cf) d 0 d.size (Lib.bitLen d.size) true true) os := Any.slices_SortFunc_eq Tryz.laysSlF6_f41 enc h1 cf hO g cb blk off cap d w eg hcmp hH hblk hsz
open Go.RowKit Go.Lib Go.Sort in
/-- **slices.SortFunc, IN THE DOCUMENTATION's OWN TERMS: A PERMUTATION OF WHAT THE ROW HELD, SORTED BY 'cmp(a, b) < 0'.** Which of two equals comes first is left open ("The sort is not guaranteed to be stable"). (LAID AT THE INSTANCE 'slices.SortFunc[[][]int,[]int]': no walk: one application.) -/
theorem Tryz.slices_SortFunc {α : Type} [Inhabited α] (enc : α → Value) (h1 : OneCell enc) (cf : α → α → Int) (hO : SWO (ltOf cf)) (g : Nat) (cb : Array Value) (blk off cap : Nat) (d : Array α) (w : World) (eg : ∀ args w, (callFunc g args).run Tryz.prog w = .ok (.enter g args) w) (hcmp : CmpLays1 Tryz.prog g cb enc cf blk off d.size w) (hH : Holds enc w blk off d) (hblk : blk < w.heap.size) (hsz : d.size < 4611686018427387904) :
    Calls Tryz.prog 41 #[.slice (some ⟨blk, off, none⟩) d.size cap, .func (.func g) #[] cb] w fun e w' =>
      e = .returned (.tuple #[]) ∧ ∃ d' n os, PermIn 0 d.size d d' ∧ SortedIn (ltOf cf) 0 d.size d' ∧ w' = sortWorld enc w blk off n d' os := Any.slices_SortFunc Tryz.laysSlF6_f41 enc h1 cf hO g cb blk off cap d w eg hcmp hH hblk hsz
def Tryz.laysSlF020_f81_ren : Go.Shelf.Ren := ⟨fun | 20 => 81 | n => n, fun | 24 => 22 | 22 => 33 | 3 => 3 | 25 => 93 | 4 => 4 | 0 => 0 | n => n, fun | n => n⟩
theorem Tryz.laysSlF020_f81 : Go.Proofs.SlLaysF0.n20 Tryz.prog Tryz.laysSlF020_f81_ren := {
  mixed := by kernel_rfl
  f20 := ⟨Tryz.f81.name, by decide, Tryz.func81.trans (congrArg some (by kernel_rfl))⟩
  t0 := Tryz.underlying0
  a0 := Tryz.isAgg0
  z0 := Tryz.sizeOf0
  v0 := Tryz.zeroValue0
  t3 := Tryz.underlying3
  a3 := Tryz.isAgg3
  z3 := Tryz.sizeOf3
  v3 := Tryz.zeroValue3
  t4 := Tryz.underlying4
  a4 := Tryz.isAgg4
  z4 := Tryz.sizeOf4
  v4 := Tryz.zeroValue4
  t22 := Tryz.underlying33
  a22 := Tryz.isAgg33
  z22 := Tryz.sizeOf33
  v22 := Tryz.zeroValue33
  t25 := Tryz.underlying93
  a25 := Tryz.isAgg93
  z25 := Tryz.sizeOf93
  v25 := Tryz.zeroValue93 }
open Go.RowKit Go.Lib Go.Sort in
theorem Tryz.insertionSortCmpFunc_none {α : Type} [Inhabited α] (p : Option Addr) (cap : Nat) (fv : Value) (w : World) :
    Calls Tryz.prog 81 #[.slice p 0 cap, .int .i64 0, .int .i64 0, fv] w fun e w' => e = .returned (.tuple #[]) ∧ w' = w := AnyF.insertionSortCmpFunc_none Tryz.laysSlF020_f81 p cap fv w
def Tryz.laysSlF014_f58_ren : Go.Shelf.Ren := ⟨fun | 14 => 58 | 20 => 81 | 21 => 82 | 22 => 83 | 23 => 84 | 24 => 85 | 25 => 86 | 26 => 87 | 27 => 88 | 46 => 115 | 47 => 111 | 48 => 112 | 49 => 116 | 50 => 117 | 15 => 57 | 57 => 132 | 28 => 79 | 29 => 80 | n => n, fun | 24 => 22 | 22 => 33 | 3 => 3 | 25 => 93 | 4 => 4 | 0 => 0 | 46 => 164 | 45 => 163 | 50 => 138 | 66 => 198 | 39 => 144 | 55 => 112 | 70 => 202 | 76 => 218 | 77 => 219 | 53 => 171 | 5 => 5 | 9 => 9 | n => n, fun | n => n⟩
theorem Tryz.laysSlF014_f58 : Go.Proofs.SlLaysF0.n14 Tryz.prog Tryz.laysSlF014_f58_ren := {
  mixed := by kernel_rfl
  f14 := ⟨Tryz.f58.name, by decide, Tryz.func58.trans (congrArg some (by kernel_rfl))⟩
  f15 := Tryz.func57.trans (congrArg some (by kernel_rfl))
  f20 := ⟨Tryz.f81.name, by decide, Tryz.func81.trans (congrArg some (by kernel_rfl))⟩
  f21 := ⟨Tryz.f82.name, by decide, Tryz.func82.trans (congrArg some (by kernel_rfl))⟩
  f22 := ⟨Tryz.f83.name, by decide, Tryz.func83.trans (congrArg some (by kernel_rfl))⟩
  f23 := ⟨Tryz.f84.name, by decide, Tryz.func84.trans (congrArg some (by kernel_rfl))⟩
  f24 := ⟨Tryz.f85.name, by decide, Tryz.func85.trans (congrArg some (by kernel_rfl))⟩
  f25 := ⟨Tryz.f86.name, by decide, Tryz.func86.trans (congrArg some (by kernel_rfl))⟩
  f26 := ⟨Tryz.f87.name, by decide, Tryz.func87.trans (congrArg some (by kernel_rfl))⟩
  f27 := ⟨Tryz.f88.name, by decide, Tryz.func88.trans (congrArg some (by kernel_rfl))⟩
  f28 := Tryz.func79.trans (congrArg some (by kernel_rfl))
  f29 := Tryz.func80.trans (congrArg some (by kernel_rfl))
  f46 := ⟨Tryz.f115.name, by decide, Tryz.func115.trans (congrArg some (by kernel_rfl))⟩
  f47 := Tryz.func111.trans (congrArg some (by kernel_rfl))
  f48 := Tryz.func112.trans (congrArg some (by kernel_rfl))
  f49 := ⟨Tryz.f116.name, by decide, Tryz.func116.trans (congrArg some (by kernel_rfl))⟩
  f50 := ⟨Tryz.f117.name, by decide, Tryz.func117.trans (congrArg some (by kernel_rfl))⟩
  f57 := ⟨Tryz.f132.name, by decide, Tryz.func132.trans (congrArg some (by kernel_rfl))⟩
  t0 := Tryz.underlying0
  a0 := Tryz.isAgg0
  z0 := Tryz.sizeOf0
  v0 := Tryz.zeroValue0
  t3 := Tryz.underlying3
  a3 := Tryz.isAgg3
  z3 := Tryz.sizeOf3
  v3 := Tryz.zeroValue3
  t4 := Tryz.underlying4
  a4 := Tryz.isAgg4
  z4 := Tryz.sizeOf4
  v4 := Tryz.zeroValue4
  t5 := Tryz.underlying5
  a5 := Tryz.isAgg5
  z5 := Tryz.sizeOf5
  v5 := Tryz.zeroValue5
  t9 := Tryz.underlying9
  a9 := Tryz.isAgg9
  z9 := Tryz.sizeOf9
  v9 := Tryz.zeroValue9
  t22 := Tryz.underlying33
  a22 := Tryz.isAgg33
  z22 := Tryz.sizeOf33
  v22 := Tryz.zeroValue33
  t25 := Tryz.underlying93
  a25 := Tryz.isAgg93
  z25 := Tryz.sizeOf93
  v25 := Tryz.zeroValue93
  t39 := Tryz.underlying144
  a39 := Tryz.isAgg144
  z39 := Tryz.sizeOf144
  v39 := Tryz.zeroValue144
  t45 := Tryz.underlying163
  a45 := Tryz.isAgg163
  z45 := Tryz.sizeOf163
  v45 := Tryz.zeroValue163
  t46 := Tryz.underlying164
  a46 := Tryz.isAgg164
  z46 := Tryz.sizeOf164
  v46 := Tryz.zeroValue164
  t50 := Tryz.underlying138
  a50 := Tryz.isAgg138
  z50 := Tryz.sizeOf138
  v50 := Tryz.zeroValue138
  t53 := Tryz.underlying171
  a53 := Tryz.isAgg171
  z53 := Tryz.sizeOf171
  v53 := Tryz.zeroValue171
  t55 := Tryz.underlying112
  a55 := Tryz.isAgg112
  z55 := Tryz.sizeOf112
  v55 := Tryz.zeroValue112
  t66 := Tryz.underlying198
  a66 := Tryz.isAgg198
  z66 := Tryz.sizeOf198
  v66 := Tryz.zeroValue198
  t70 := Tryz.underlying202
  a70 := Tryz.isAgg202
  z70 := Tryz.sizeOf202
  v70 := Tryz.zeroValue202
  t76 := Tryz.underlying218
  a76 := Tryz.isAgg218
  z76 := Tryz.sizeOf218
  v76 := Tryz.zeroValue218
  t77 := Tryz.underlying219
  a77 := Tryz.isAgg219
  z77 := Tryz.sizeOf219
  v77 := Tryz.zeroValue219 }
open Go.RowKit Go.Lib Go.Sort in
theorem Tryz.pdqsortCmpFunc_none {α : Type} [Inhabited α] (p : Option Addr) (cap : Nat) (lim : Int) (fv : Value) (w : World) :
    Calls Tryz.prog 58 #[.slice p 0 cap, .int .i64 0, .int .i64 0, .int .i64 lim, fv] w fun e w' => e = .returned (.tuple #[]) ∧ w' = w := AnyF.pdqsortCmpFunc_none Tryz.laysSlF014_f58 p cap lim fv w
def Tryz.laysSlF06_f41_ren : Go.Shelf.Ren := ⟨fun | 6 => 41 | 15 => 57 | 14 => 58 | 28 => 79 | 29 => 80 | 20 => 81 | 21 => 82 | 22 => 83 | 23 => 84 | 24 => 85 | 25 => 86 | 26 => 87 | 27 => 88 | 46 => 115 | 47 => 111 | 48 => 112 | 49 => 116 | 50 => 117 | 57 => 132 | n => n, fun | 22 => 33 | 24 => 22 | 25 => 93 | 3 => 3 | 39 => 144 | 0 => 0 | 53 => 171 | 55 => 112 | 4 => 4 | 46 => 164 | 45 => 163 | 50 => 138 | 5 => 5 | 9 => 9 | 66 => 198 | 70 => 202 | 76 => 218 | 77 => 219 | n => n, fun | n => n⟩
theorem Tryz.laysSlF06_f41 : Go.Proofs.SlLaysF0.n6 Tryz.prog Tryz.laysSlF06_f41_ren := {
  mixed := by kernel_rfl
  f6 := ⟨Tryz.f41.name, by decide, Tryz.func41.trans (congrArg some (by kernel_rfl))⟩
  f14 := ⟨Tryz.f58.name, by decide, Tryz.func58.trans (congrArg some (by kernel_rfl))⟩
  f15 := Tryz.func57.trans (congrArg some (by kernel_rfl))
  f20 := ⟨Tryz.f81.name, by decide, Tryz.func81.trans (congrArg some (by kernel_rfl))⟩
  f21 := ⟨Tryz.f82.name, by decide, Tryz.func82.trans (congrArg some (by kernel_rfl))⟩
  f22 := ⟨Tryz.f83.name, by decide, Tryz.func83.trans (congrArg some (by kernel_rfl))⟩
  f23 := ⟨Tryz.f84.name, by decide, Tryz.func84.trans (congrArg some (by kernel_rfl))⟩
  f24 := ⟨Tryz.f85.name, by decide, Tryz.func85.trans (congrArg some (by kernel_rfl))⟩
  f25 := ⟨Tryz.f86.name, by decide, Tryz.func86.trans (congrArg some (by kernel_rfl))⟩
  f26 := ⟨Tryz.f87.name, by decide, Tryz.func87.trans (congrArg some (by kernel_rfl))⟩
  f27 := ⟨Tryz.f88.name, by decide, Tryz.func88.trans (congrArg some (by kernel_rfl))⟩
  f28 := Tryz.func79.trans (congrArg some (by kernel_rfl))
  f29 := Tryz.func80.trans (congrArg some (by kernel_rfl))
  f46 := ⟨Tryz.f115.name, by decide, Tryz.func115.trans (congrArg some (by kernel_rfl))⟩
  f47 := Tryz.func111.trans (congrArg some (by kernel_rfl))
  f48 := Tryz.func112.trans (congrArg some (by kernel_rfl))
  f49 := ⟨Tryz.f116.name, by decide, Tryz.func116.trans (congrArg some (by kernel_rfl))⟩
  f50 := ⟨Tryz.f117.name, by decide, Tryz.func117.trans (congrArg some (by kernel_rfl))⟩
  f57 := ⟨Tryz.f132.name, by decide, Tryz.func132.trans (congrArg some (by kernel_rfl))⟩
  t0 := Tryz.underlying0
  a0 := Tryz.isAgg0
  z0 := Tryz.sizeOf0
  v0 := Tryz.zeroValue0
  t3 := Tryz.underlying3
  a3 := Tryz.isAgg3
  z3 := Tryz.sizeOf3
  v3 := Tryz.zeroValue3
  t4 := Tryz.underlying4
  a4 := Tryz.isAgg4
  z4 := Tryz.sizeOf4
  v4 := Tryz.zeroValue4
  t5 := Tryz.underlying5
  a5 := Tryz.isAgg5
  z5 := Tryz.sizeOf5
  v5 := Tryz.zeroValue5
  t9 := Tryz.underlying9
  a9 := Tryz.isAgg9
  z9 := Tryz.sizeOf9
  v9 := Tryz.zeroValue9
  t22 := Tryz.underlying33
  a22 := Tryz.isAgg33
  z22 := Tryz.sizeOf33
  v22 := Tryz.zeroValue33
  t25 := Tryz.underlying93
  a25 := Tryz.isAgg93
  z25 := Tryz.sizeOf93
  v25 := Tryz.zeroValue93
  t39 := Tryz.underlying144
  a39 := Tryz.isAgg144
  z39 := Tryz.sizeOf144
  v39 := Tryz.zeroValue144
  t45 := Tryz.underlying163
  a45 := Tryz.isAgg163
  z45 := Tryz.sizeOf163
  v45 := Tryz.zeroValue163
  t46 := Tryz.underlying164
  a46 := Tryz.isAgg164
  z46 := Tryz.sizeOf164
  v46 := Tryz.zeroValue164
  t50 := Tryz.underlying138
  a50 := Tryz.isAgg138
  z50 := Tryz.sizeOf138
  v50 := Tryz.zeroValue138
  t53 := Tryz.underlying171
  a53 := Tryz.isAgg171
  z53 := Tryz.sizeOf171
  v53 := Tryz.zeroValue171
  t55 := Tryz.underlying112
  a55 := Tryz.isAgg112
  z55 := Tryz.sizeOf112
  v55 := Tryz.zeroValue112
  t66 := Tryz.underlying198
  a66 := Tryz.isAgg198
  z66 := Tryz.sizeOf198
  v66 := Tryz.zeroValue198
  t70 := Tryz.underlying202
  a70 := Tryz.isAgg202
  z70 := Tryz.sizeOf202
  v70 := Tryz.zeroValue202
  t76 := Tryz.underlying218
  a76 := Tryz.isAgg218
  z76 := Tryz.sizeOf218
  v76 := Tryz.zeroValue218
  t77 := Tryz.underlying219
  a77 := Tryz.isAgg219
  z77 := Tryz.sizeOf219
  v77 := Tryz.zeroValue219 }
open Go.RowKit Go.Lib Go.Sort in
/-- **slices.SortFunc AT NO ELEMENT, A nil SLICE TOO: nothing turns.** (LAID AT THE INSTANCE 'slices.SortFunc[[][]int,[]int]': no walk: one application.) -/
theorem Tryz.slices_SortFunc_none {α : Type} [Inhabited α] (p : Option Addr) (cap : Nat) (fv : Value) (w : World) :
    Calls Tryz.prog 41 #[.slice p 0 cap, fv] w fun e w' => e = .returned (.tuple #[]) ∧ w' = w := AnyF.slices_SortFunc_none Tryz.laysSlF06_f41 p cap fv w
open Go.RowKit Go.Lib Go.Sort in
/-- **slices.SortFunc AT ONE CELL, UNDER A 'cmp' THAT PARTS WHATEVER TWO THAT ARE NOT ONE: THE ROW HOLDS core's 'mergeSort'.** (LAID AT THE INSTANCE 'slices.SortFunc[[][]int,[]int]': no walk: one application.) -/
theorem Tryz.slices_SortFunc_total {α : Type} [Inhabited α] (enc : α → Value) (h1 : OneCell enc) (cf : α → α → Int) (hO : SWO (ltOf cf)) (g : Nat) (cb : Array Value) (blk off cap : Nat) (d : Array α) (w : World) (eg : ∀ args w, (callFunc g args).run Tryz.prog w = .ok (.enter g args) w) (hcmp : CmpLays1 Tryz.prog g cb enc cf blk off d.size w) (hH : Holds enc w blk off d) (hblk : blk < w.heap.size) (hsz : d.size < 4611686018427387904) (hT : ∀ x y, (ltOf cf) x y = false → (ltOf cf) y x = false → x = y) :
    Calls Tryz.prog 41 #[.slice (some ⟨blk, off, none⟩) d.size cap, .func (.func g) #[] cb] w fun e w' =>
      e = .returned (.tuple #[]) ∧ ∃ n os, w' = sortWorld enc w blk off n (d.toList.mergeSort fun x y => !(ltOf cf) y x).toArray os := Any.slices_SortFunc_total Tryz.laysSlF6_f41 enc h1 cf hO g cb blk off cap d w eg hcmp hH hblk hsz hT
end Go.Proofs
