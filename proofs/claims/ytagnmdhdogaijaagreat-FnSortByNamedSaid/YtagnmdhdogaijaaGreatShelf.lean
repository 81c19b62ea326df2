/-
  DERIVED: THE SHELF's CONTRACTS AT THIS DUMP, IN PLAIN WORDS (tools/lay-plain.mjs out of 'TryzShelf.lean', which tools/lay-shelf.mjs wrote): THE SAME DECLARATIONS UNDER THE SAME NAMES: 'import', 'namespace', 'open', 'def', 'theorem' AND NOTHING ELSE: no command of the shelf's: FOR A HAND-IN. Each laying: the table of numbers ('.._ren') and one theorem, a field a fact of the dump's own or the kernel's comparison; each contract: ONE APPLICATION.
-/
import Derived.Shelf.Small.Bits
import Derived.Shelf.Small.Wraps
import Derived.Shelf.Strconv.Itoa0
import Derived.Shelf.Sort.Plain
import Derived.Shelf.Slices.Turned
import Derived.Shelf.Slices.Reverse
import Derived.Shelf.Slices.Equal
import Derived.Ground.Names2Prog
import Derived.Shelf.Slices.Clone
import Derived.Shelf.Slices.CompactI
import Derived.Shelf.Slices.SearchI
import Derived.Shelf.Slices.Cells
import Derived.Shelf.Slices.In.SortNone
import Derived.Shelf.Slices.Empties2
import Derived.Ground.SlgnProg
import Derived.Shelf.SlicesG.SearchI
import Derived.Shelf.SlicesE.Reverse
import Derived.Shelf.SlicesE.Equal
import Derived.Shelf.SlicesE.Compact
import Derived.Shelf.SlicesE.Clone
import Derived.Ground.SlgcProg
import Derived.Shelf.SlicesG.Cmp
import Derived.Ground.SlgmProg
import Derived.Shelf.SortM.Plain
import Derived.Shelf.SortM.SortNone
import Derived.Test.YtagnmdhdogaijaaGreatProg
namespace Go.Proofs
open Go.Shelf
def Tryz.lays128_ren : Go.Shelf.Ren := ⟨fun | 128 => 78 | n => n, fun | 51 => 133 | 3 => 3 | 4 => 4 | 46 => 94 | 5 => 5 | 9 => 9 | n => n, fun | n => n⟩
theorem Tryz.lays128 : Go.Proofs.Lays.n128 Tryz.prog Tryz.lays128_ren := {
  mixed := by kernel_rfl
  f128 := Tryz.func78.trans (congrArg some (by kernel_rfl))
  t3 := Tryz.underlying3
  a3 := Tryz.isAgg3
  z3 := Tryz.sizeOf3
  v3 := Tryz.zeroValue3
  t4 := Tryz.underlying4
  a4 := Tryz.isAgg4
  z4 := Tryz.sizeOf4
  v4 := Tryz.zeroValue4
  t5 := Tryz.underlying5
  a5 := Tryz.isAgg5
  z5 := Tryz.sizeOf5
  v5 := Tryz.zeroValue5
  t9 := Tryz.underlying9
  a9 := Tryz.isAgg9
  z9 := Tryz.sizeOf9
  v9 := Tryz.zeroValue9
  t46 := Tryz.underlying94
  a46 := Tryz.isAgg94
  z46 := Tryz.sizeOf94
  v46 := Tryz.zeroValue94
  t51 := Tryz.underlying133
  a51 := Tryz.isAgg133
  z51 := Tryz.sizeOf133
  v51 := Tryz.zeroValue133 }
/-- bits.Len32: "Len32 returns the minimum number of bits required to represent x; the result is 0 for x == 0.": IT RETURNS 'Lib.bitLen x'; the world is as it was. ('h0', 'h1': x is a uint32.) (LAID: no walk: one application.) -/
theorem Tryz.bits_Len32 (x : Int) (w : World) (h0 : 0 ≤ x) (h1 : x ≤ 4294967295) :
    Calls Tryz.prog 78 #[.int .u32 x] w fun e w' => e = .returned (.int .i64 (Lib.bitLen x.toNat)) ∧ w' = w := Any.bits_Len32 Tryz.lays128 x w h0 h1
def Tryz.lays125_ren : Go.Shelf.Ren := ⟨fun | 125 => 48 | 128 => 78 | 129 => 79 | n => n, fun | 46 => 94 | 3 => 3 | 51 => 133 | 53 => 135 | 4 => 4 | 5 => 5 | 9 => 9 | n => n, fun | n => n⟩
theorem Tryz.lays125 : Go.Proofs.Lays.n125 Tryz.prog Tryz.lays125_ren := {
  mixed := by kernel_rfl
  f125 := Tryz.func48.trans (congrArg some (by kernel_rfl))
  f128 := Tryz.func78.trans (congrArg some (by kernel_rfl))
  f129 := Tryz.func79.trans (congrArg some (by kernel_rfl))
  t3 := Tryz.underlying3
  a3 := Tryz.isAgg3
  z3 := Tryz.sizeOf3
  v3 := Tryz.zeroValue3
  t4 := Tryz.underlying4
  a4 := Tryz.isAgg4
  z4 := Tryz.sizeOf4
  v4 := Tryz.zeroValue4
  t5 := Tryz.underlying5
  a5 := Tryz.isAgg5
  z5 := Tryz.sizeOf5
  v5 := Tryz.zeroValue5
  t9 := Tryz.underlying9
  a9 := Tryz.isAgg9
  z9 := Tryz.sizeOf9
  v9 := Tryz.zeroValue9
  t46 := Tryz.underlying94
  a46 := Tryz.isAgg94
  z46 := Tryz.sizeOf94
  v46 := Tryz.zeroValue94
  t51 := Tryz.underlying133
  a51 := Tryz.isAgg133
  z51 := Tryz.sizeOf133
  v51 := Tryz.zeroValue133
  t53 := Tryz.underlying135
  a53 := Tryz.isAgg135
  z53 := Tryz.sizeOf135
  v53 := Tryz.zeroValue135 }
/-- bits.Len: "Len returns the minimum number of bits required to represent x; the result is 0 for x == 0.": IT RETURNS 'Lib.bitLen x'; the world is as it was. (A uint has 64 bits in the model.) ITS CALLEE bits.Len64 IS MET BY ITS OWN CONTRACT OFF THE SHELF (lay that first). (LAID: no walk: one application.) -/
theorem Tryz.bits_Len (x : Int) (w : World) (h0 : 0 ≤ x) (h1 : x ≤ 18446744073709551615) :
    Calls Tryz.prog 48 #[.int .u64 x] w fun e w' => e = .returned (.int .i64 (Lib.bitLen x.toNat)) ∧ w' = w := Any.bits_Len Tryz.lays125 x w h0 h1
def Tryz.lays215_ren : Go.Shelf.Ren := ⟨fun | 215 => 103 | n => n, fun | 3 => 3 | 4 => 4 | n => n, fun | n => n⟩
theorem Tryz.lays215 : Go.Proofs.Lays.n215 Tryz.prog Tryz.lays215_ren := {
  mixed := by kernel_rfl
  f215 := Tryz.func103.trans (congrArg some (by kernel_rfl))
  t3 := Tryz.underlying3
  a3 := Tryz.isAgg3
  z3 := Tryz.sizeOf3
  v3 := Tryz.zeroValue3
  t4 := Tryz.underlying4
  a4 := Tryz.isAgg4
  z4 := Tryz.sizeOf4
  v4 := Tryz.zeroValue4 }
open Go.RowKit in
/-- cmp.isNaN at int: 'x != x': false. (LAID: no walk: one application.) -/
theorem Tryz.cmp_isNaN_int (x : Int) (w : World) :
    Calls Tryz.prog 103 #[.int .i64 x] w fun e w' => e = .returned (.bool false) ∧ w' = w := Any.cmp_isNaN_int Tryz.lays215 x w
def Tryz.lays129_ren : Go.Shelf.Ren := ⟨fun | 129 => 79 | n => n, fun | 53 => 135 | 3 => 3 | 4 => 4 | 46 => 94 | 5 => 5 | 9 => 9 | n => n, fun | n => n⟩
theorem Tryz.lays129 : Go.Proofs.Lays.n129 Tryz.prog Tryz.lays129_ren := {
  mixed := by kernel_rfl
  f129 := Tryz.func79.trans (congrArg some (by kernel_rfl))
  t3 := Tryz.underlying3
  a3 := Tryz.isAgg3
  z3 := Tryz.sizeOf3
  v3 := Tryz.zeroValue3
  t4 := Tryz.underlying4
  a4 := Tryz.isAgg4
  z4 := Tryz.sizeOf4
  v4 := Tryz.zeroValue4
  t5 := Tryz.underlying5
  a5 := Tryz.isAgg5
  z5 := Tryz.sizeOf5
  v5 := Tryz.zeroValue5
  t9 := Tryz.underlying9
  a9 := Tryz.isAgg9
  z9 := Tryz.sizeOf9
  v9 := Tryz.zeroValue9
  t46 := Tryz.underlying94
  a46 := Tryz.isAgg94
  z46 := Tryz.sizeOf94
  v46 := Tryz.zeroValue94
  t53 := Tryz.underlying135
  a53 := Tryz.isAgg135
  z53 := Tryz.sizeOf135
  v53 := Tryz.zeroValue135 }
/-- bits.Len64: "Len64 returns the minimum number of bits required to represent x; the result is 0 for x == 0.": IT RETURNS 'Lib.bitLen x'; the world is as it was. ('h0', 'h1': x is a uint64.) (LAID: no walk: one application.) -/
theorem Tryz.bits_Len64 (x : Int) (w : World) (h0 : 0 ≤ x) (h1 : x ≤ 18446744073709551615) :
    Calls Tryz.prog 79 #[.int .u64 x] w fun e w' => e = .returned (.int .i64 (Lib.bitLen x.toNat)) ∧ w' = w := Any.bits_Len64 Tryz.lays129 x w h0 h1
def Tryz.lays189_ren : Go.Shelf.Ren := ⟨fun | 189 => 27 | 125 => 48 | 257 => 47 | 128 => 78 | 129 => 79 | 294 => 69 | 295 => 70 | 296 => 71 | 297 => 72 | 298 => 73 | 299 => 74 | 216 => 75 | 300 => 76 | 301 => 77 | 328 => 98 | 329 => 99 | 330 => 100 | 331 => 101 | 332 => 102 | 215 => 103 | 343 => 121 | n => n, fun | 28 => 22 | 3 => 3 | 46 => 94 | 0 => 0 | 51 => 133 | 53 => 135 | 4 => 4 | 183 => 126 | 182 => 125 | 131 => 76 | 5 => 5 | 9 => 9 | 218 => 155 | 222 => 159 | 228 => 177 | 229 => 178 | n => n, fun | n => n⟩
theorem Tryz.lays189 : Go.Proofs.Lays.n189 Tryz.prog Tryz.lays189_ren := {
  mixed := by kernel_rfl
  f125 := Tryz.func48.trans (congrArg some (by kernel_rfl))
  f128 := Tryz.func78.trans (congrArg some (by kernel_rfl))
  f129 := Tryz.func79.trans (congrArg some (by kernel_rfl))
  f189 := Tryz.func27.trans (congrArg some (by kernel_rfl))
  f215 := Tryz.func103.trans (congrArg some (by kernel_rfl))
  f216 := Tryz.func75.trans (congrArg some (by kernel_rfl))
  f257 := Tryz.func47.trans (congrArg some (by kernel_rfl))
  f294 := Tryz.func69.trans (congrArg some (by kernel_rfl))
  f295 := Tryz.func70.trans (congrArg some (by kernel_rfl))
  f296 := Tryz.func71.trans (congrArg some (by kernel_rfl))
  f297 := Tryz.func72.trans (congrArg some (by kernel_rfl))
  f298 := Tryz.func73.trans (congrArg some (by kernel_rfl))
  f299 := Tryz.func74.trans (congrArg some (by kernel_rfl))
  f300 := Tryz.func76.trans (congrArg some (by kernel_rfl))
  f301 := Tryz.func77.trans (congrArg some (by kernel_rfl))
  f328 := Tryz.func98.trans (congrArg some (by kernel_rfl))
  f329 := Tryz.func99.trans (congrArg some (by kernel_rfl))
  f330 := Tryz.func100.trans (congrArg some (by kernel_rfl))
  f331 := Tryz.func101.trans (congrArg some (by kernel_rfl))
  f332 := Tryz.func102.trans (congrArg some (by kernel_rfl))
  f343 := Tryz.func121.trans (congrArg some (by kernel_rfl))
  t0 := Tryz.underlying0
  a0 := Tryz.isAgg0
  z0 := Tryz.sizeOf0
  v0 := Tryz.zeroValue0
  t3 := Tryz.underlying3
  a3 := Tryz.isAgg3
  z3 := Tryz.sizeOf3
  v3 := Tryz.zeroValue3
  t4 := Tryz.underlying4
  a4 := Tryz.isAgg4
  z4 := Tryz.sizeOf4
  v4 := Tryz.zeroValue4
  t5 := Tryz.underlying5
  a5 := Tryz.isAgg5
  z5 := Tryz.sizeOf5
  v5 := Tryz.zeroValue5
  t9 := Tryz.underlying9
  a9 := Tryz.isAgg9
  z9 := Tryz.sizeOf9
  v9 := Tryz.zeroValue9
  t28 := Tryz.underlying22
  a28 := Tryz.isAgg22
  z28 := Tryz.sizeOf22
  v28 := Tryz.zeroValue22
  t46 := Tryz.underlying94
  a46 := Tryz.isAgg94
  z46 := Tryz.sizeOf94
  v46 := Tryz.zeroValue94
  t51 := Tryz.underlying133
  a51 := Tryz.isAgg133
  z51 := Tryz.sizeOf133
  v51 := Tryz.zeroValue133
  t53 := Tryz.underlying135
  a53 := Tryz.isAgg135
  z53 := Tryz.sizeOf135
  v53 := Tryz.zeroValue135
  t131 := Tryz.underlying76
  a131 := Tryz.isAgg76
  z131 := Tryz.sizeOf76
  v131 := Tryz.zeroValue76
  t182 := Tryz.underlying125
  a182 := Tryz.isAgg125
  z182 := Tryz.sizeOf125
  v182 := Tryz.zeroValue125
  t183 := Tryz.underlying126
  a183 := Tryz.isAgg126
  z183 := Tryz.sizeOf126
  v183 := Tryz.zeroValue126
  t218 := Tryz.underlying155
  a218 := Tryz.isAgg155
  z218 := Tryz.sizeOf155
  v218 := Tryz.zeroValue155
  t222 := Tryz.underlying159
  a222 := Tryz.isAgg159
  z222 := Tryz.sizeOf159
  v222 := Tryz.zeroValue159
  t228 := Tryz.underlying177
  a228 := Tryz.isAgg177
  z228 := Tryz.sizeOf177
  v228 := Tryz.zeroValue177
  t229 := Tryz.underlying178
  a229 := Tryz.isAgg178
  z229 := Tryz.sizeOf178
  v229 := Tryz.zeroValue178 }
open Go.Sort Go.RowKit in
theorem Tryz.slices_Sort_int (blk off cap : Nat) (zs : List Int) (w : World) (hH : Holds (Value.int .i64) w blk off zs.toArray) (hblk : blk < w.heap.size) (hsz : zs.length < 4611686018427387904) :
    Calls Tryz.prog 27 #[.slice (some ⟨blk, off, none⟩) zs.length cap] w fun e w' =>
      e = .returned (.tuple #[]) ∧ ∃ n os, w' = grow (putRow (Value.int .i64) (Sort.ahead w n) blk off (zs.mergeSort fun x y => decide (x ≤ y)).toArray) os := Any.slices_Sort_int Tryz.lays189 blk off cap zs w hH hblk hsz
def Tryz.lays108_ren : Go.Shelf.Ren := ⟨fun | 108 => 40 | n => n, fun | 28 => 22 | 3 => 3 | 0 => 0 | 4 => 4 | n => n, fun | n => n⟩
theorem Tryz.lays108 : Go.Proofs.Lays.n108 Tryz.prog Tryz.lays108_ren := {
  mixed := by kernel_rfl
  f108 := Tryz.func40.trans (congrArg some (by kernel_rfl))
  t0 := Tryz.underlying0
  a0 := Tryz.isAgg0
  z0 := Tryz.sizeOf0
  v0 := Tryz.zeroValue0
  t3 := Tryz.underlying3
  a3 := Tryz.isAgg3
  z3 := Tryz.sizeOf3
  v3 := Tryz.zeroValue3
  t4 := Tryz.underlying4
  a4 := Tryz.isAgg4
  z4 := Tryz.sizeOf4
  v4 := Tryz.zeroValue4
  t28 := Tryz.underlying22
  a28 := Tryz.isAgg22
  z28 := Tryz.sizeOf22
  v28 := Tryz.zeroValue22 }
open Go.Lib in
/-- slices.Index at []int: "Index returns the index of the first occurrence of v in s, or -1 if not present.": IT RETURNS 'Lib.idxOf (the elements) v'; the world is as it was. 'zs': what the cells behind the slice's address hold (its spare capacity too, if you have it); 'zs.take n': its elements. (LAID: no walk: one application.) -/
theorem Tryz.slices_Index_int (b off n c : Nat) (zs : List Int) (x : Int) (w : World) (hz : n ≤ zs.length) (hbig : n ≤ 9223372036854775807) (hc : ∀ j, j < zs.length → w.cell? ⟨b, off + j, none⟩ = some (.int .i64 (zs.getD j 0))) :
    Calls Tryz.prog 40 #[.slice (some ⟨b, off, none⟩) n c, .int .i64 x] w fun e w' => e = .returned (.int .i64 (Lib.idxOf (zs.take n) x)) ∧ w' = w := Any.slices_Index_int Tryz.lays108 b off n c zs x w hz hbig hc
open Go.Lib in
/-- The same at a slice of length 0, a nil one too: no cell is known, none is asked for. (LAID: no walk: one application.) -/
theorem Tryz.slices_Index_int_empty (a : Option Addr) (c : Nat) (x : Int) (w : World) :
    Calls Tryz.prog 40 #[.slice a 0 c, .int .i64 x] w fun e w' => e = .returned (.int .i64 (Lib.idxOf [] x)) ∧ w' = w := Any.slices_Index_int_empty Tryz.lays108 a c x w
def Tryz.lays112_ren : Go.Shelf.Ren := ⟨fun | 112 => 59 | n => n, fun | 28 => 22 | 3 => 3 | 4 => 4 | 0 => 0 | n => n, fun | n => n⟩
theorem Tryz.lays112 : Go.Proofs.Lays.n112 Tryz.prog Tryz.lays112_ren := {
  mixed := by kernel_rfl
  f112 := Tryz.func59.trans (congrArg some (by kernel_rfl))
  t0 := Tryz.underlying0
  a0 := Tryz.isAgg0
  z0 := Tryz.sizeOf0
  v0 := Tryz.zeroValue0
  t3 := Tryz.underlying3
  a3 := Tryz.isAgg3
  z3 := Tryz.sizeOf3
  v3 := Tryz.zeroValue3
  t4 := Tryz.underlying4
  a4 := Tryz.isAgg4
  z4 := Tryz.sizeOf4
  v4 := Tryz.zeroValue4
  t28 := Tryz.underlying22
  a28 := Tryz.isAgg22
  z28 := Tryz.sizeOf22
  v28 := Tryz.zeroValue22 }
open Go.RowKit Go.Lib Go.Sort in
/-- slices.Reverse at []int, over an array: Go's loop from the two ends inward is walked; it makes 'Sort.reverseLoop 0 (len - 1)', which is 'Array.reverse' (Derived/Lib/SlicesMore.lean). (LAID: no walk: one application.) -/
theorem Tryz.slices_Reverse_int_arr (blk off cap : Nat) (d : Array Int) (w : World) (hH : Holds encI w blk off d) (hsz : d.size ≤ 9223372036854775807) :
    Calls Tryz.prog 59 #[.slice (some ⟨blk, off, none⟩) d.size cap] w fun e w' => e = .returned (.tuple #[]) ∧ ∃ n, w' = putRow encI (Sort.ahead w n) blk off d.reverse := Any.slices_Reverse_int_arr Tryz.lays112 blk off cap d w hH hsz
open Go.RowKit Go.Lib Go.Sort in
/-- slices.Reverse at []int: "Reverse reverses the elements of the slice in place.": THE SLICE's CELLS HOLD 'zs.reverse' BEHIND THE CALL; all else is as it was, but for the count of draws (the exchange 's[i], s[j] = s[j], s[i]' draws its order, once a round). IN THE WORDS OF slices.Sort's CONTRACT: 'Holds': the cells hold zs and none is frozen; 'putRow': the world with those cells holding another array. A slice of length 0 that is not nil is among them ('zs = []'); nil: '.._nil'. (LAID: no walk: one application.) -/
theorem Tryz.slices_Reverse_int (blk off cap : Nat) (zs : List Int) (w : World) (hH : Holds (Value.int .i64) w blk off zs.toArray) (hsz : zs.length ≤ 9223372036854775807) :
    Calls Tryz.prog 59 #[.slice (some ⟨blk, off, none⟩) zs.length cap] w fun e w' => e = .returned (.tuple #[]) ∧ ∃ n, w' = putRow (Value.int .i64) (Sort.ahead w n) blk off zs.reverse.toArray := Any.slices_Reverse_int Tryz.lays112 blk off cap zs w hH hsz
open Go.RowKit Go.Lib Go.Sort in
/-- The same at a slice of length 0, a nil one too: nothing is read, nothing written, nothing drawn. (LAID: no walk: one application.) -/
theorem Tryz.slices_Reverse_int_empty (a : Option Addr) (cap : Nat) (w : World) :
    Calls Tryz.prog 59 #[.slice a 0 cap] w fun e w' => e = .returned (.tuple #[]) ∧ w' = w := Any.slices_Reverse_int_empty Tryz.lays112 a cap w
def Tryz.lays111_ren : Go.Shelf.Ren := ⟨fun | 111 => 17 | n => n, fun | 28 => 22 | 3 => 3 | 4 => 4 | 0 => 0 | n => n, fun | n => n⟩
theorem Tryz.lays111 : Go.Proofs.Lays.n111 Tryz.prog Tryz.lays111_ren := {
  mixed := by kernel_rfl
  f111 := Tryz.func17.trans (congrArg some (by kernel_rfl))
  t0 := Tryz.underlying0
  a0 := Tryz.isAgg0
  z0 := Tryz.sizeOf0
  v0 := Tryz.zeroValue0
  t3 := Tryz.underlying3
  a3 := Tryz.isAgg3
  z3 := Tryz.sizeOf3
  v3 := Tryz.zeroValue3
  t4 := Tryz.underlying4
  a4 := Tryz.isAgg4
  z4 := Tryz.sizeOf4
  v4 := Tryz.zeroValue4
  t28 := Tryz.underlying22
  a28 := Tryz.isAgg22
  z28 := Tryz.sizeOf22
  v28 := Tryz.zeroValue22 }
open Go.RowKit Go.Lib in
/-- slices.Equal at []int: "Equal reports whether two slices are equal: the same length and all elements equal. If the lengths are different, Equal returns false. Otherwise, the elements are compared in increasing index order, and the comparison stops at the first unequal pair. Empty and nil slices are considered equal.": IT RETURNS WHETHER THE TWO LISTS OF ELEMENTS ARE ONE; the world is as it was but for the count of draws (the test 's1[i] != s2[i]' has two reads, whose order the model draws, once a round). 'xs', 'ys': what the cells behind the two addresses hold (the spare capacity too, if you have it); 'xs.take n', 'ys.take m': the elements. THE TWO SLICES MAY OVERLAP. (LAID: no walk: one application.) -/
theorem Tryz.slices_Equal_int (b1 o1 n c b2 o2 m d : Nat) (xs ys : List Int) (w : World) (hx : n ≤ xs.length) (hy : m ≤ ys.length) (hbig : n ≤ 9223372036854775807) (hbig2 : m ≤ 9223372036854775807) (hc1 : ∀ j, j < xs.length → w.cell? ⟨b1, o1 + j, none⟩ = some (.int .i64 (xs.getD j 0))) (hc2 : ∀ j, j < ys.length → w.cell? ⟨b2, o2 + j, none⟩ = some (.int .i64 (ys.getD j 0))) :
    Calls Tryz.prog 17 #[.slice (some ⟨b1, o1, none⟩) n c, .slice (some ⟨b2, o2, none⟩) m d] w fun e w' => e = .returned (.bool (xs.take n == ys.take m)) ∧ ∃ q, w' = w.drewN q := Any.slices_Equal_int Tryz.lays111 b1 o1 n c b2 o2 m d xs ys w hx hy hbig hbig2 hc1 hc2
open Go.RowKit Go.Lib in
/-- The same where the first is of length 0 (a nil one too): no cell is asked for. (LAID: no walk: one application.) -/
theorem Tryz.slices_Equal_int_empty (a1 a2 : Option Addr) (c m d : Nat) (w : World) (hbig2 : m ≤ 9223372036854775807) :
    Calls Tryz.prog 17 #[.slice a1 0 c, .slice a2 m d] w fun e w' => e = .returned (.bool (decide (m = 0))) ∧ w' = w := Any.slices_Equal_int_empty Tryz.lays111 a1 a2 c m d w hbig2
def Tryz.laysNm215_ren : Go.Shelf.Ren := ⟨fun | 15 => 42 | n => n, fun | 22 => 22 | 3 => 3 | 4 => 4 | n => n, fun | n => n⟩
theorem Tryz.laysNm215 : Go.Proofs.Lays2.n15 Tryz.prog Tryz.laysNm215_ren := {
  mixed := by kernel_rfl
  f15 := Tryz.func42.trans (congrArg some (by kernel_rfl))
  t3 := Tryz.underlying3
  a3 := Tryz.isAgg3
  z3 := Tryz.sizeOf3
  v3 := Tryz.zeroValue3
  t4 := Tryz.underlying4
  a4 := Tryz.isAgg4
  z4 := Tryz.sizeOf4
  v4 := Tryz.zeroValue4
  t22 := Tryz.underlying22
  a22 := Tryz.isAgg22
  z22 := Tryz.sizeOf22
  v22 := Tryz.zeroValue22
  i3 := by kernel_rfl }
open Go.RowKit Go.Lib in
/-- slices.Clone at []int: "Clone returns a copy of the slice. The elements are copied using assignment, so this is a shallow clone. The result may have additional unused capacity. The result preserves the nilness of s.": OF A SLICE THAT IS NOT nil IT RETURNS A SLICE THAT IS NOT nil, OF THE SAME ELEMENTS, IN MEMORY OF THE CALL's OWN: in the how-to's words (6f): 'w'.ownsRow B e 1 v' n cells': v' begins at the head of a row among the blocks from B on (B: the heap's size at the call), not frozen, whose first cells are the elements · 'Below B w w'': below B all is as it was. The capacity is whatever the run-time gives. 'zs': what the cells behind the slice's address hold; 'zs.take n': its elements. (LAID: no walk: one application.) -/
theorem Tryz.slices_Clone_int (b off n c : Nat) (zs : List Int) (w : World) (hz : n ≤ zs.length) (hbig : n * 8 ≤ 140737488355328) (hc : ∀ j, j < zs.length → w.cell? ⟨b, off + j, none⟩ = some (.int .i64 (zs.getD j 0))) :
    Calls Tryz.prog 42 #[.slice (some ⟨b, off, none⟩) n c] w fun e w' => ∃ v', e = .returned v' ∧ w'.ownsRow w.heap.size 3 1 v' n ((zs.take n).map (Value.int .i64)) ∧ v' ≠ .slice none 0 0 ∧ Below w.heap.size w w' := Any.slices_Clone_int Tryz.laysNm215 b off n c zs w hz hbig hc
open Go.RowKit Go.Lib in
/-- The same at nil: nil comes back; the world is as it was. (LAID: no walk: one application.) -/
theorem Tryz.slices_Clone_int_nil (n c : Nat) (w : World) :
    Calls Tryz.prog 42 #[.slice none n c] w fun e w' => e = .returned (.slice none 0 0) ∧ w' = w := Any.slices_Clone_int_nil Tryz.laysNm215 n c w
open Go.RowKit Go.Lib in
/-- The same at a slice of length 0 that is not nil, WHATEVER ITS ADDRESS (no cell is asked for): a slice that is not nil and owns nothing comes back. (LAID: no walk: one application.) -/
theorem Tryz.slices_Clone_int_zero (a : Addr) (c : Nat) (w : World) :
    Calls Tryz.prog 42 #[.slice (some a) 0 c] w fun e w' => ∃ v', e = .returned v' ∧ w'.ownsRow w.heap.size 3 1 v' 0 [] ∧ v' ≠ .slice none 0 0 ∧ Below w.heap.size w w' := Any.slices_Clone_int_zero Tryz.laysNm215 a c w
def Tryz.laysNm220_ren : Go.Shelf.Ren := ⟨fun | 20 => 56 | n => n, fun | 22 => 22 | 3 => 3 | 4 => 4 | 0 => 0 | n => n, fun | n => n⟩
theorem Tryz.laysNm220 : Go.Proofs.Lays2.n20 Tryz.prog Tryz.laysNm220_ren := {
  mixed := by kernel_rfl
  f20 := Tryz.func56.trans (congrArg some (by kernel_rfl))
  t0 := Tryz.underlying0
  a0 := Tryz.isAgg0
  z0 := Tryz.sizeOf0
  v0 := Tryz.zeroValue0
  t3 := Tryz.underlying3
  a3 := Tryz.isAgg3
  z3 := Tryz.sizeOf3
  v3 := Tryz.zeroValue3
  t4 := Tryz.underlying4
  a4 := Tryz.isAgg4
  z4 := Tryz.sizeOf4
  v4 := Tryz.zeroValue4
  t22 := Tryz.underlying22
  a22 := Tryz.isAgg22
  z22 := Tryz.sizeOf22
  v22 := Tryz.zeroValue22
  i3 := by kernel_rfl }
open Go.RowKit Go.Lib Go.Sort in
/-- slices.Compact at []int, over an array: the library's two loops are walked. (LAID: no walk: one application.) -/
theorem Tryz.slices_Compact_int_arr (blk off cap : Nat) (d : Array Int) (w : World) (hH : Holds encI w blk off d) (hsz : d.size ≤ 9223372036854775807) (hcap : d.size ≤ cap) :
    Calls Tryz.prog 56 #[.slice (some ⟨blk, off, none⟩) d.size cap] w fun e w' => e = .returned (.slice (some ⟨blk, off, none⟩) (compactUpTo d d.size).length cap) ∧ ∃ q, w' = putRow encI (Sort.ahead w q) blk off (compactUpTo d d.size ++ List.replicate (d.size - (compactUpTo d d.size).length) 0).toArray := Any.slices_Compact_int_arr Tryz.laysNm220 blk off cap d w hH hsz hcap
open Go.RowKit Go.Lib Go.Sort in
/-- slices.Compact at []int: "Compact replaces consecutive runs of equal elements with a single copy. This is like the uniq command found on Unix. Compact modifies the contents of the slice s and returns the modified slice, which may have a smaller length. Compact zeroes the elements between the new length and the original length. The result preserves the nilness of s.": IT RETURNS THE SLICE CUT TO 'Lib.compact zs'; ITS CELLS HOLD 'Lib.compact zs', THEN ZERO VALUES up to the old length; all else is as it was, but for the count of draws. IN THE WORDS OF slices.Sort's CONTRACT ('Holds', 'putRow'): so the everyday 'slices.Sort(xs); xs = slices.Compact(xs)' goes from the one contract to the other. It asks 'zs.length ≤ cap' (every slice's: the reslicing 's[:k]' looks at it). Length 0, nil: '.._empty'. (LAID: no walk: one application.) -/
theorem Tryz.slices_Compact_int (blk off cap : Nat) (zs : List Int) (w : World) (hH : Holds (Value.int .i64) w blk off zs.toArray) (hsz : zs.length ≤ 9223372036854775807) (hcap : zs.length ≤ cap) :
    Calls Tryz.prog 56 #[.slice (some ⟨blk, off, none⟩) zs.length cap] w fun e w' => e = .returned (.slice (some ⟨blk, off, none⟩) (Lib.compact zs).length cap) ∧ ∃ q, w' = putRow (Value.int .i64) (Sort.ahead w q) blk off (Lib.compact zs ++ List.replicate (zs.length - (Lib.compact zs).length) 0).toArray := Any.slices_Compact_int Tryz.laysNm220 blk off cap zs w hH hsz hcap
open Go.RowKit Go.Lib Go.Sort in
/-- The same at a slice of length 0, a nil one too: it comes back as it is. (LAID: no walk: one application.) -/
theorem Tryz.slices_Compact_int_empty (a : Option Addr) (cap : Nat) (w : World) :
    Calls Tryz.prog 56 #[.slice a 0 cap] w fun e w' => e = .returned (.slice a 0 cap) ∧ w' = w := Any.slices_Compact_int_empty Tryz.laysNm220 a cap w
def Tryz.laysNm237_ren : Go.Shelf.Ren := ⟨fun | 37 => 103 | n => n, fun | 3 => 3 | 4 => 4 | n => n, fun | n => n⟩
theorem Tryz.laysNm237 : Go.Proofs.Lays2.n37 Tryz.prog Tryz.laysNm237_ren := {
  mixed := by kernel_rfl
  f37 := Tryz.func103.trans (congrArg some (by kernel_rfl))
  t3 := Tryz.underlying3
  a3 := Tryz.isAgg3
  z3 := Tryz.sizeOf3
  v3 := Tryz.zeroValue3
  t4 := Tryz.underlying4
  a4 := Tryz.isAgg4
  z4 := Tryz.sizeOf4
  v4 := Tryz.zeroValue4 }
open Go.RowKit Go.Lib in
/-- cmp.isNaN[int]: 'x != x': false. (LAID: no walk: one application.) -/
theorem Tryz.cmp_isNaN_int2 (x : Int) (w : World) :
    Calls Tryz.prog 103 #[.int .i64 x] w fun e w' => e = .returned (.bool false) ∧ w' = w := Any.cmp_isNaN_int2 Tryz.laysNm237 x w
def Tryz.laysNm231_ren : Go.Shelf.Ren := ⟨fun | 31 => 75 | 37 => 103 | n => n, fun | 3 => 3 | 4 => 4 | n => n, fun | n => n⟩
theorem Tryz.laysNm231 : Go.Proofs.Lays2.n31 Tryz.prog Tryz.laysNm231_ren := {
  mixed := by kernel_rfl
  f31 := Tryz.func75.trans (congrArg some (by kernel_rfl))
  f37 := Tryz.func103.trans (congrArg some (by kernel_rfl))
  t3 := Tryz.underlying3
  a3 := Tryz.isAgg3
  z3 := Tryz.sizeOf3
  v3 := Tryz.zeroValue3
  t4 := Tryz.underlying4
  a4 := Tryz.isAgg4
  z4 := Tryz.sizeOf4
  v4 := Tryz.zeroValue4 }
open Go.RowKit Go.Lib in
/-- cmp.Less[int]: "Less reports whether x is less than y.": 'x < y'; the world is as it was. (LAID: no walk: one application.) -/
theorem Tryz.cmp_Less_int2 (x y : Int) (w : World) :
    Calls Tryz.prog 75 #[.int .i64 x, .int .i64 y] w fun e w' => e = .returned (.bool (decide (x < y))) ∧ w' = w := Any.cmp_Less_int2 Tryz.laysNm231 x y w
open Go.RowKit Go.Lib Go.Sort in
/-- slices.Reverse at []int, of an argument: the n cells hold the elements in reverse. (LAID: no walk: one application.) -/
theorem Tryz.slices_Reverse_int_cells (b off n c : Nat) (zs : List Int) (w : World) (hz : n ≤ zs.length) (hbig : n ≤ 9223372036854775807) (hc : ∀ j, j < zs.length → w.cell? ⟨b, off + j, none⟩ = some (.int .i64 (zs.getD j 0))) (hf : ∀ j, j < n → w.frozen? ⟨b, off + j, none⟩ = false) :
    Calls Tryz.prog 59 #[.slice (some ⟨b, off, none⟩) n c] w fun e w' => e = .returned (.tuple #[]) ∧ ∃ q, w' = (w.drewN q).setCells b off ((zs.take n).reverse.map (Value.int .i64)) := Any.slices_Reverse_int_cells Tryz.lays112 b off n c zs w hz hbig hc hf
open Go.RowKit Go.Lib Go.Sort in
/-- slices.Compact at []int, of an argument: the slice cut to 'Lib.compact (elements)'; the n cells hold that, then zeros. (LAID: no walk: one application.) -/
theorem Tryz.slices_Compact_int_cells (b off n c : Nat) (zs : List Int) (w : World) (hz : n ≤ zs.length) (hbig : n ≤ 9223372036854775807) (hcap : n ≤ c) (hc : ∀ j, j < zs.length → w.cell? ⟨b, off + j, none⟩ = some (.int .i64 (zs.getD j 0))) (hf : ∀ j, j < n → w.frozen? ⟨b, off + j, none⟩ = false) :
    Calls Tryz.prog 56 #[.slice (some ⟨b, off, none⟩) n c] w fun e w' => e = .returned (.slice (some ⟨b, off, none⟩) (Lib.compact (zs.take n)).length c) ∧ ∃ q, w' = (w.drewN q).setCells b off ((Lib.compact (zs.take n) ++ List.replicate (n - (Lib.compact (zs.take n)).length) 0).map (Value.int .i64)) := Any.slices_Compact_int_cells Tryz.laysNm220 b off n c zs w hz hbig hcap hc hf
open Go.RowKit Go.Sort in
/-- .. and plain. (LAID: no walk: one application.) -/
theorem Tryz.slices_Sort_int_none (p : Option Addr) (cap : Nat) (w : World) :
    Calls Tryz.prog 27 #[.slice p 0 cap] w fun e w' => e = .returned (.tuple #[]) ∧ w' = w := Any.slices_Sort_int_none Tryz.lays189 p cap w
open Go.RowKit Go.Lib in
theorem Tryz.slices_Equal_int_lens (a1 a2 : Option Addr) (n c m d : Nat) (w : World) (hnm : n ≠ m) :
    Calls Tryz.prog 17 #[.slice a1 n c, .slice a2 m d] w fun e w' => e = .returned (.bool false) ∧ w' = w := Any.slices_Equal_int_lens Tryz.lays111 a1 a2 n c m d w hnm
def Tryz.laysSlN68_f106_ren : Go.Shelf.Ren := ⟨fun | 68 => 106 | n => n, fun | 23 => 2 | 4 => 4 | n => n, fun | n => n⟩
theorem Tryz.laysSlN68_f106 : Go.Proofs.SlLaysN.n68 Tryz.prog Tryz.laysSlN68_f106_ren := {
  mixed := by kernel_rfl
  f68 := ⟨Tryz.f106.name, by decide, Tryz.func106.trans (congrArg some (by kernel_rfl))⟩
  t4 := Tryz.underlying4
  a4 := Tryz.isAgg4
  z4 := Tryz.sizeOf4
  v4 := Tryz.zeroValue4
  t23 := Tryz.underlying2
  a23 := Tryz.isAgg2
  z23 := Tryz.sizeOf2
  v23 := Tryz.zeroValue2 }
open Go.RowKit Go.Lib in
/-- cmp.isNaN[int]: 'x != x': false. (LAID AT THE INSTANCE 'cmp.isNaN[int64]': no walk: one application.) -/
theorem Tryz.cmp_isNaN_int2_f106 (x : Int) (w : World) :
    Calls Tryz.prog 106 #[.int .i64 x] w fun e w' => e = .returned (.bool false) ∧ w' = w := AnyG.cmp_isNaN_int2 Tryz.laysSlN68_f106 x w
def Tryz.laysSlN60_f84_ren : Go.Shelf.Ren := ⟨fun | 60 => 84 | n => n, fun | 23 => 2 | 4 => 4 | n => n, fun | n => n⟩
theorem Tryz.laysSlN60_f84 : Go.Proofs.SlLaysN.n60 Tryz.prog Tryz.laysSlN60_f84_ren := {
  mixed := by kernel_rfl
  f60 := ⟨Tryz.f84.name, by decide, Tryz.func84.trans (congrArg some (by kernel_rfl))⟩
  t4 := Tryz.underlying4
  a4 := Tryz.isAgg4
  z4 := Tryz.sizeOf4
  v4 := Tryz.zeroValue4
  t23 := Tryz.underlying2
  a23 := Tryz.isAgg2
  z23 := Tryz.sizeOf2
  v23 := Tryz.zeroValue2 }
open Go.RowKit Go.Lib in
/-- slices.isNaN[int]: 'x != x': false. (LAID AT THE INSTANCE 'slices.isNaN[int64]': no walk: one application.) -/
theorem Tryz.slices_isNaN_int2 (x : Int) (w : World) :
    Calls Tryz.prog 84 #[.int .i64 x] w fun e w' => e = .returned (.bool false) ∧ w' = w := AnyG.slices_isNaN_int2 Tryz.laysSlN60_f84 x w
def Tryz.laysSlN59_f83_ren : Go.Shelf.Ren := ⟨fun | 59 => 83 | 68 => 106 | n => n, fun | 23 => 2 | 4 => 4 | n => n, fun | n => n⟩
theorem Tryz.laysSlN59_f83 : Go.Proofs.SlLaysN.n59 Tryz.prog Tryz.laysSlN59_f83_ren := {
  mixed := by kernel_rfl
  f59 := ⟨Tryz.f83.name, by decide, Tryz.func83.trans (congrArg some (by kernel_rfl))⟩
  f68 := ⟨Tryz.f106.name, by decide, Tryz.func106.trans (congrArg some (by kernel_rfl))⟩
  t4 := Tryz.underlying4
  a4 := Tryz.isAgg4
  z4 := Tryz.sizeOf4
  v4 := Tryz.zeroValue4
  t23 := Tryz.underlying2
  a23 := Tryz.isAgg2
  z23 := Tryz.sizeOf2
  v23 := Tryz.zeroValue2 }
open Go.RowKit Go.Lib in
/-- cmp.Less[int]: "Less reports whether x is less than y.": 'x < y'; the world is as it was. (LAID AT THE INSTANCE 'cmp.Less[int64]': no walk: one application.) -/
theorem Tryz.cmp_Less_int2_f83 (x y : Int) (w : World) :
    Calls Tryz.prog 83 #[.int .i64 x, .int .i64 y] w fun e w' => e = .returned (.bool (decide (x < y))) ∧ w' = w := AnyG.cmp_Less_int2 Tryz.laysSlN59_f83 x y w
def Tryz.laysSlN49_f57_ren : Go.Shelf.Ren := ⟨fun | 49 => 57 | 59 => 83 | 60 => 84 | 68 => 106 | n => n, fun | 22 => 72 | 23 => 2 | 3 => 3 | 4 => 4 | 51 => 94 | 0 => 0 | n => n, fun | n => n⟩
theorem Tryz.laysSlN49_f57 : Go.Proofs.SlLaysN.n49 Tryz.prog Tryz.laysSlN49_f57_ren := {
  mixed := by kernel_rfl
  f49 := ⟨Tryz.f57.name, by decide, Tryz.func57.trans (congrArg some (by kernel_rfl))⟩
  f59 := ⟨Tryz.f83.name, by decide, Tryz.func83.trans (congrArg some (by kernel_rfl))⟩
  f60 := ⟨Tryz.f84.name, by decide, Tryz.func84.trans (congrArg some (by kernel_rfl))⟩
  f68 := ⟨Tryz.f106.name, by decide, Tryz.func106.trans (congrArg some (by kernel_rfl))⟩
  t0 := Tryz.underlying0
  a0 := Tryz.isAgg0
  z0 := Tryz.sizeOf0
  v0 := Tryz.zeroValue0
  t3 := Tryz.underlying3
  a3 := Tryz.isAgg3
  z3 := Tryz.sizeOf3
  v3 := Tryz.zeroValue3
  t4 := Tryz.underlying4
  a4 := Tryz.isAgg4
  z4 := Tryz.sizeOf4
  v4 := Tryz.zeroValue4
  t22 := Tryz.underlying72
  a22 := Tryz.isAgg72
  z22 := Tryz.sizeOf72
  v22 := Tryz.zeroValue72
  t23 := Tryz.underlying2
  a23 := Tryz.isAgg2
  z23 := Tryz.sizeOf2
  v23 := Tryz.zeroValue2
  t51 := Tryz.underlying94
  a51 := Tryz.isAgg94
  z51 := Tryz.sizeOf94
  v51 := Tryz.zeroValue94 }
open Go.RowKit Go.Lib in
/-- slices.BinarySearch at []int: "BinarySearch searches for target in a sorted slice and returns the earliest position where target is found, or the position where target would appear in the sort order; it also returns a bool saying whether the target is really found in the slice. The slice must be sorted in increasing order.": OF A SORTED SLICE IT RETURNS how many elements are less than the target, and whether the target is among the elements; the world is as it was but for the count of draws. 'zs': what the cells behind the slice's address hold; 'zs.take n': its elements. (Of a slice that is not sorted: no contract here.) (LAID AT THE INSTANCE 'slices.BinarySearch[[]int64,int64]': no walk: one application.) -/
theorem Tryz.slices_BinarySearch_int (b off n c : Nat) (zs : List Int) (x : Int) (w : World) (hz : n ≤ zs.length) (hbig : n < 4611686018427387904) (hc : ∀ j, j < zs.length → w.cell? ⟨b, off + j, none⟩ = some (.int .i64 (zs.getD j 0))) (hs : (zs.take n).Pairwise (· ≤ ·)) :
    Calls Tryz.prog 57 #[.slice (some ⟨b, off, none⟩) n c, .int .i64 x] w fun e w' => e = .returned (.tuple #[.int .i64 ((zs.take n).countP (· < x) : Nat), .bool ((zs.take n).contains x)]) ∧ ∃ q, w' = w.drewN q := AnyG.slices_BinarySearch_int Tryz.laysSlN49_f57 b off n c zs x w hz hbig hc hs
def Tryz.laysSlE35_f59_ren : Go.Shelf.Ren := ⟨fun | 35 => 59 | n => n, fun | 22 => 22 | 23 => 3 | 3 => 3 | 4 => 4 | 0 => 0 | n => n, fun | n => n⟩
theorem Tryz.laysSlE35_f59 : Go.Proofs.SlLaysE.n35 Tryz.prog Tryz.laysSlE35_f59_ren := {
  mixed := by kernel_rfl
  f35 := ⟨Tryz.f59.name, by decide, Tryz.func59.trans (congrArg some (by kernel_rfl))⟩
  t0 := Tryz.underlying0
  a0 := Tryz.isAgg0
  z0 := Tryz.sizeOf0
  v0 := Tryz.zeroValue0
  t3 := Tryz.underlying3
  a3 := Tryz.isAgg3
  z3 := Tryz.sizeOf3
  v3 := Tryz.zeroValue3
  t4 := Tryz.underlying4
  a4 := Tryz.isAgg4
  z4 := Tryz.sizeOf4
  v4 := Tryz.zeroValue4
  t22 := Tryz.underlying22
  a22 := Tryz.isAgg22
  z22 := Tryz.sizeOf22
  v22 := Tryz.zeroValue22
  a23 := Tryz.isAgg3
  z23 := Tryz.sizeOf3 }
open Go.RowKit Go.Lib Go.Sort in
/-- slices.Reverse, over an array: Go's loop from the two ends inward is walked; it makes 'Sort.reverseLoop 0 (len - 1)', which is 'Array.reverse' (Derived/Lib/SlicesMore.lean). (LAID AT THE INSTANCE 'slices.Reverse[[]int,int]': no walk: one application.) -/
theorem Tryz.slices_Reverse_arr {α : Type} [Inhabited α] (enc : α → Value) (h1 : OneCell enc) (blk off cap : Nat) (d : Array α) (w : World) (hH : Holds enc w blk off d) (hsz : d.size ≤ 9223372036854775807) :
    Calls Tryz.prog 59 #[.slice (some ⟨blk, off, none⟩) d.size cap] w fun e w' => e = .returned (.tuple #[]) ∧ ∃ n, w' = putRow enc (Sort.ahead w n) blk off d.reverse := AnyE.slices_Reverse_arr Tryz.laysSlE35_f59 enc h1 blk off cap d w hH hsz
open Go.RowKit Go.Lib Go.Sort in
/-- slices.Reverse: "Reverse reverses the elements of the slice in place.": THE SLICE's CELLS HOLD 'zs.reverse' BEHIND THE CALL; all else is as it was, but for the count of draws (the exchange 's[i], s[j] = s[j], s[i]' draws its order, once a round). IN THE WORDS OF slices.Sort's CONTRACT: 'Holds': the cells hold zs and none is frozen; 'putRow': the world with those cells holding another array. A slice of length 0 that is not nil is among them ('zs = []'); nil: '.._nil'. (LAID AT THE INSTANCE 'slices.Reverse[[]int,int]': no walk: one application.) -/
theorem Tryz.slices_Reverse {α : Type} [Inhabited α] (enc : α → Value) (h1 : OneCell enc) (blk off cap : Nat) (zs : List α) (w : World) (hH : Holds enc w blk off zs.toArray) (hsz : zs.length ≤ 9223372036854775807) :
    Calls Tryz.prog 59 #[.slice (some ⟨blk, off, none⟩) zs.length cap] w fun e w' => e = .returned (.tuple #[]) ∧ ∃ n, w' = putRow enc (Sort.ahead w n) blk off zs.reverse.toArray := AnyE.slices_Reverse Tryz.laysSlE35_f59 enc h1 blk off cap zs w hH hsz
open Go.RowKit Go.Lib Go.Sort in
/-- The same at a slice of length 0, a nil one too: nothing is read, nothing written, nothing drawn. (LAID AT THE INSTANCE 'slices.Reverse[[]int,int]': no walk: one application.) -/
theorem Tryz.slices_Reverse_empty {α : Type} [Inhabited α] (a : Option Addr) (cap : Nat) (w : World) :
    Calls Tryz.prog 59 #[.slice a 0 cap] w fun e w' => e = .returned (.tuple #[]) ∧ w' = w := AnyE.slices_Reverse_empty Tryz.laysSlE35_f59 a cap w
def Tryz.laysSlE33_f17_ren : Go.Shelf.Ren := ⟨fun | 33 => 17 | n => n, fun | 22 => 22 | 23 => 3 | 4 => 4 | 3 => 3 | 0 => 0 | n => n, fun | n => n⟩
theorem Tryz.laysSlE33_f17 : Go.Proofs.SlLaysE.n33 Tryz.prog Tryz.laysSlE33_f17_ren := {
  mixed := by kernel_rfl
  f33 := ⟨Tryz.f17.name, by decide, Tryz.func17.trans (congrArg some (by kernel_rfl))⟩
  t0 := Tryz.underlying0
  a0 := Tryz.isAgg0
  z0 := Tryz.sizeOf0
  v0 := Tryz.zeroValue0
  t3 := Tryz.underlying3
  a3 := Tryz.isAgg3
  z3 := Tryz.sizeOf3
  v3 := Tryz.zeroValue3
  t4 := Tryz.underlying4
  a4 := Tryz.isAgg4
  z4 := Tryz.sizeOf4
  v4 := Tryz.zeroValue4
  t22 := Tryz.underlying22
  a22 := Tryz.isAgg22
  z22 := Tryz.sizeOf22
  v22 := Tryz.zeroValue22
  a23 := Tryz.isAgg3
  z23 := Tryz.sizeOf3 }
open Go.RowKit Go.Lib in
/-- slices.Equal: "Equal reports whether two slices are equal: the same length and all elements equal. .. Empty and nil slices are considered equal. Floating point NaNs are not considered equal.": IT RETURNS 'Lib.allEq eq (the one's elements) (the other's)'; the world is as it was but for the count of draws. (LAID AT THE INSTANCE 'slices.Equal[[]int,int]': no walk: one application.) -/
theorem Tryz.slices_Equal {α : Type} [Inhabited α] (enc : α → Value) (eq : α → α → Bool) (hne : NeqAt Tryz.prog 3 enc eq) (b1 o1 n c b2 o2 m d : Nat) (xs ys : List α) (w : World) (hx : n ≤ xs.length) (hy : m ≤ ys.length) (hbig : n ≤ 9223372036854775807) (hbig2 : m ≤ 9223372036854775807) (hc1 : ∀ j, j < xs.length → w.cell? ⟨b1, o1 + j, none⟩ = some (enc xs[j]!)) (hc2 : ∀ j, j < ys.length → w.cell? ⟨b2, o2 + j, none⟩ = some (enc ys[j]!)) :
    Calls Tryz.prog 17 #[.slice (some ⟨b1, o1, none⟩) n c, .slice (some ⟨b2, o2, none⟩) m d] w fun e w' => e = .returned (.bool (Lib.allEq eq (xs.take n) (ys.take m))) ∧ ∃ q, w' = w.drewN q := AnyE.slices_Equal Tryz.laysSlE33_f17 enc eq hne b1 o1 n c b2 o2 m d xs ys w hx hy hbig hbig2 hc1 hc2
def Tryz.laysSlE43_f56_ren : Go.Shelf.Ren := ⟨fun | 43 => 56 | n => n, fun | 22 => 22 | 23 => 3 | 3 => 3 | 4 => 4 | 0 => 0 | n => n, fun | n => n⟩
theorem Tryz.laysSlE43_f56 : Go.Proofs.SlLaysE.n43 Tryz.prog Tryz.laysSlE43_f56_ren := {
  mixed := by kernel_rfl
  f43 := ⟨Tryz.f56.name, by decide, Tryz.func56.trans (congrArg some (by kernel_rfl))⟩
  t0 := Tryz.underlying0
  a0 := Tryz.isAgg0
  z0 := Tryz.sizeOf0
  v0 := Tryz.zeroValue0
  t3 := Tryz.underlying3
  a3 := Tryz.isAgg3
  z3 := Tryz.sizeOf3
  v3 := Tryz.zeroValue3
  t4 := Tryz.underlying4
  a4 := Tryz.isAgg4
  z4 := Tryz.sizeOf4
  v4 := Tryz.zeroValue4
  t22 := Tryz.underlying22
  a22 := Tryz.isAgg22
  z22 := Tryz.sizeOf22
  v22 := Tryz.zeroValue22
  a23 := Tryz.isAgg3
  z23 := Tryz.sizeOf3 }
open Go.RowKit Go.Lib Go.Sort in
/-- slices.Compact: "Compact replaces consecutive runs of equal elements with a single copy. .. Compact zeroes the elements between the new length and the original length.": IT RETURNS THE SLICE CUT TO 'compactUpTo d d.size'; ITS CELLS HOLD THAT, THEN ZERO VALUES up to the old length; the library's two loops are walked. (LAID AT THE INSTANCE 'slices.Compact[[]int,int]': no walk: one application.) -/
theorem Tryz.slices_Compact_f56 {α : Type} [Inhabited α] [DecidableEq α] (enc : α → Value) (hO : OneCell enc) (heq : EqlAt Tryz.prog 3 enc (fun x y => decide (x = y))) (hne : NeqAt Tryz.prog 3 enc (fun x y => decide (x = y))) (zr : α) (v23 : ∀ w, (zeroValue 3).run Tryz.prog w = .ok (enc zr) w) (blk off cap : Nat) (d : Array α) (w : World) (hH : Holds enc w blk off d) (hsz : d.size ≤ 9223372036854775807) (hcap : d.size ≤ cap) :
    Calls Tryz.prog 56 #[.slice (some ⟨blk, off, none⟩) d.size cap] w fun e w' => e = .returned (.slice (some ⟨blk, off, none⟩) (compactUpTo d d.size).length cap) ∧ ∃ q, w' = putRow enc (Sort.ahead w q) blk off (compactUpTo d d.size ++ List.replicate (d.size - (compactUpTo d d.size).length) zr).toArray := AnyE.slices_Compact Tryz.laysSlE43_f56 enc hO heq hne zr v23 blk off cap d w hH hsz hcap
def Tryz.laysSlE43_f61_ren : Go.Shelf.Ren := ⟨fun | 43 => 61 | n => n, fun | 22 => 72 | 23 => 2 | 3 => 3 | 4 => 4 | 0 => 0 | n => n, fun | n => n⟩
theorem Tryz.laysSlE43_f61 : Go.Proofs.SlLaysE.n43 Tryz.prog Tryz.laysSlE43_f61_ren := {
  mixed := by kernel_rfl
  f43 := ⟨Tryz.f61.name, by decide, Tryz.func61.trans (congrArg some (by kernel_rfl))⟩
  t0 := Tryz.underlying0
  a0 := Tryz.isAgg0
  z0 := Tryz.sizeOf0
  v0 := Tryz.zeroValue0
  t3 := Tryz.underlying3
  a3 := Tryz.isAgg3
  z3 := Tryz.sizeOf3
  v3 := Tryz.zeroValue3
  t4 := Tryz.underlying4
  a4 := Tryz.isAgg4
  z4 := Tryz.sizeOf4
  v4 := Tryz.zeroValue4
  t22 := Tryz.underlying72
  a22 := Tryz.isAgg72
  z22 := Tryz.sizeOf72
  v22 := Tryz.zeroValue72
  a23 := Tryz.isAgg2
  z23 := Tryz.sizeOf2 }
open Go.RowKit Go.Lib Go.Sort in
/-- slices.Compact: "Compact replaces consecutive runs of equal elements with a single copy. .. Compact zeroes the elements between the new length and the original length.": IT RETURNS THE SLICE CUT TO 'compactUpTo d d.size'; ITS CELLS HOLD THAT, THEN ZERO VALUES up to the old length; the library's two loops are walked. (LAID AT THE INSTANCE 'slices.Compact[[]int64,int64]': no walk: one application.) -/
theorem Tryz.slices_Compact_f61 {α : Type} [Inhabited α] [DecidableEq α] (enc : α → Value) (hO : OneCell enc) (heq : EqlAt Tryz.prog 2 enc (fun x y => decide (x = y))) (hne : NeqAt Tryz.prog 2 enc (fun x y => decide (x = y))) (zr : α) (v23 : ∀ w, (zeroValue 2).run Tryz.prog w = .ok (enc zr) w) (blk off cap : Nat) (d : Array α) (w : World) (hH : Holds enc w blk off d) (hsz : d.size ≤ 9223372036854775807) (hcap : d.size ≤ cap) :
    Calls Tryz.prog 61 #[.slice (some ⟨blk, off, none⟩) d.size cap] w fun e w' => e = .returned (.slice (some ⟨blk, off, none⟩) (compactUpTo d d.size).length cap) ∧ ∃ q, w' = putRow enc (Sort.ahead w q) blk off (compactUpTo d d.size ++ List.replicate (d.size - (compactUpTo d d.size).length) zr).toArray := AnyE.slices_Compact Tryz.laysSlE43_f61 enc hO heq hne zr v23 blk off cap d w hH hsz hcap
def Tryz.laysSlE041_f42_ren : Go.Shelf.Ren := ⟨fun | 41 => 42 | n => n, fun | 22 => 22 | 23 => 3 | 4 => 4 | n => n, fun | n => n⟩
theorem Tryz.laysSlE041_f42 : Go.Proofs.SlLaysE0.n41 Tryz.prog Tryz.laysSlE041_f42_ren := {
  mixed := by kernel_rfl
  f41 := ⟨Tryz.f42.name, by decide, Tryz.func42.trans (congrArg some (by kernel_rfl))⟩
  t4 := Tryz.underlying4
  a4 := Tryz.isAgg4
  z4 := Tryz.sizeOf4
  v4 := Tryz.zeroValue4
  t22 := Tryz.underlying22
  a22 := Tryz.isAgg22
  z22 := Tryz.sizeOf22
  v22 := Tryz.zeroValue22 }
open Go.RowKit Go.Lib in
/-- slices.Clone: "Clone returns a copy of the slice. The elements are copied using assignment, so this is a shallow clone. The result may have additional unused capacity. The result preserves the nilness of s.": OF A SLICE THAT IS NOT nil IT RETURNS A SLICE THAT IS NOT nil, OF THE SAME CELLS, IN MEMORY OF THE CALL's OWN ('ownsRow': the how-to's 6f); below the heap's size at the call all is as it was. (LAID AT THE INSTANCE 'slices.Clone[[]int,int]': no walk: one application.) -/
theorem Tryz.slices_Clone_f42 (i0 : TypeInfo) (z : Value) (size bytes : Nat) (hi : Tryz.prog.info? 3 = some i0) (hz0 : i0.zero = some z) (hz1 : i0.size = size) (hz2 : i0.bytes = bytes) (hzs : z.cells.size = size) (hsz : 0 < size) (z23 : ∀ w, (Go.sizeOf 3).run Tryz.prog w = .ok size w) (b off n c : Nat) (news : List Value) (w : World) (hl : news.length = n * size) (hn : n ≤ maxLen) (hbig : n * bytes ≤ 140737488355328) (hc : ∀ j u, news[j]? = some u → w.cell? ⟨b, off + j, none⟩ = some u) (h1 : ∀ u ∈ news, u.oneCell' = true) :
    Calls Tryz.prog 42 #[.slice (some ⟨b, off, none⟩) n c] w fun e w' => ∃ v', e = .returned v' ∧ w'.ownsRow w.heap.size 3 size v' n news ∧ v' ≠ .slice none 0 0 ∧ Below w.heap.size w w' := AnyE.slices_Clone Tryz.laysSlE041_f42 i0 z size bytes hi hz0 hz1 hz2 hzs hsz z23 b off n c news w hl hn hbig hc h1
def Tryz.laysSlE041_f54_ren : Go.Shelf.Ren := ⟨fun | 41 => 54 | n => n, fun | 22 => 28 | 23 => 22 | 4 => 4 | n => n, fun | n => n⟩
theorem Tryz.laysSlE041_f54 : Go.Proofs.SlLaysE0.n41 Tryz.prog Tryz.laysSlE041_f54_ren := {
  mixed := by kernel_rfl
  f41 := ⟨Tryz.f54.name, by decide, Tryz.func54.trans (congrArg some (by kernel_rfl))⟩
  t4 := Tryz.underlying4
  a4 := Tryz.isAgg4
  z4 := Tryz.sizeOf4
  v4 := Tryz.zeroValue4
  t22 := Tryz.underlying28
  a22 := Tryz.isAgg28
  z22 := Tryz.sizeOf28
  v22 := Tryz.zeroValue28 }
open Go.RowKit Go.Lib in
/-- slices.Clone: "Clone returns a copy of the slice. The elements are copied using assignment, so this is a shallow clone. The result may have additional unused capacity. The result preserves the nilness of s.": OF A SLICE THAT IS NOT nil IT RETURNS A SLICE THAT IS NOT nil, OF THE SAME CELLS, IN MEMORY OF THE CALL's OWN ('ownsRow': the how-to's 6f); below the heap's size at the call all is as it was. (LAID AT THE INSTANCE 'slices.Clone[[][]int,[]int]': no walk: one application.) -/
theorem Tryz.slices_Clone_f54 (i0 : TypeInfo) (z : Value) (size bytes : Nat) (hi : Tryz.prog.info? 22 = some i0) (hz0 : i0.zero = some z) (hz1 : i0.size = size) (hz2 : i0.bytes = bytes) (hzs : z.cells.size = size) (hsz : 0 < size) (z23 : ∀ w, (Go.sizeOf 22).run Tryz.prog w = .ok size w) (b off n c : Nat) (news : List Value) (w : World) (hl : news.length = n * size) (hn : n ≤ maxLen) (hbig : n * bytes ≤ 140737488355328) (hc : ∀ j u, news[j]? = some u → w.cell? ⟨b, off + j, none⟩ = some u) (h1 : ∀ u ∈ news, u.oneCell' = true) :
    Calls Tryz.prog 54 #[.slice (some ⟨b, off, none⟩) n c] w fun e w' => ∃ v', e = .returned v' ∧ w'.ownsRow w.heap.size 22 size v' n news ∧ v' ≠ .slice none 0 0 ∧ Below w.heap.size w w' := AnyE.slices_Clone Tryz.laysSlE041_f54 i0 z size bytes hi hz0 hz1 hz2 hzs hsz z23 b off n c news w hl hn hbig hc h1
def Tryz.laysSlE041_f62_ren : Go.Shelf.Ren := ⟨fun | 41 => 62 | n => n, fun | 22 => 72 | 23 => 2 | 4 => 4 | n => n, fun | n => n⟩
theorem Tryz.laysSlE041_f62 : Go.Proofs.SlLaysE0.n41 Tryz.prog Tryz.laysSlE041_f62_ren := {
  mixed := by kernel_rfl
  f41 := ⟨Tryz.f62.name, by decide, Tryz.func62.trans (congrArg some (by kernel_rfl))⟩
  t4 := Tryz.underlying4
  a4 := Tryz.isAgg4
  z4 := Tryz.sizeOf4
  v4 := Tryz.zeroValue4
  t22 := Tryz.underlying72
  a22 := Tryz.isAgg72
  z22 := Tryz.sizeOf72
  v22 := Tryz.zeroValue72 }
open Go.RowKit Go.Lib in
/-- slices.Clone: "Clone returns a copy of the slice. The elements are copied using assignment, so this is a shallow clone. The result may have additional unused capacity. The result preserves the nilness of s.": OF A SLICE THAT IS NOT nil IT RETURNS A SLICE THAT IS NOT nil, OF THE SAME CELLS, IN MEMORY OF THE CALL's OWN ('ownsRow': the how-to's 6f); below the heap's size at the call all is as it was. (LAID AT THE INSTANCE 'slices.Clone[[]int64,int64]': no walk: one application.) -/
theorem Tryz.slices_Clone_f62 (i0 : TypeInfo) (z : Value) (size bytes : Nat) (hi : Tryz.prog.info? 2 = some i0) (hz0 : i0.zero = some z) (hz1 : i0.size = size) (hz2 : i0.bytes = bytes) (hzs : z.cells.size = size) (hsz : 0 < size) (z23 : ∀ w, (Go.sizeOf 2).run Tryz.prog w = .ok size w) (b off n c : Nat) (news : List Value) (w : World) (hl : news.length = n * size) (hn : n ≤ maxLen) (hbig : n * bytes ≤ 140737488355328) (hc : ∀ j u, news[j]? = some u → w.cell? ⟨b, off + j, none⟩ = some u) (h1 : ∀ u ∈ news, u.oneCell' = true) :
    Calls Tryz.prog 62 #[.slice (some ⟨b, off, none⟩) n c] w fun e w' => ∃ v', e = .returned v' ∧ w'.ownsRow w.heap.size 2 size v' n news ∧ v' ≠ .slice none 0 0 ∧ Below w.heap.size w w' := AnyE.slices_Clone Tryz.laysSlE041_f62 i0 z size bytes hi hz0 hz1 hz2 hzs hsz z23 b off n c news w hl hn hbig hc h1
def Tryz.laysSlE041_f82_ren : Go.Shelf.Ren := ⟨fun | 41 => 82 | n => n, fun | 22 => 103 | 23 => 4 | 4 => 4 | n => n, fun | n => n⟩
theorem Tryz.laysSlE041_f82 : Go.Proofs.SlLaysE0.n41 Tryz.prog Tryz.laysSlE041_f82_ren := {
  mixed := by kernel_rfl
  f41 := ⟨Tryz.f82.name, by decide, Tryz.func82.trans (congrArg some (by kernel_rfl))⟩
  t4 := Tryz.underlying4
  a4 := Tryz.isAgg4
  z4 := Tryz.sizeOf4
  v4 := Tryz.zeroValue4
  t22 := Tryz.underlying103
  a22 := Tryz.isAgg103
  z22 := Tryz.sizeOf103
  v22 := Tryz.zeroValue103 }
open Go.RowKit Go.Lib in
/-- slices.Clone: "Clone returns a copy of the slice. The elements are copied using assignment, so this is a shallow clone. The result may have additional unused capacity. The result preserves the nilness of s.": OF A SLICE THAT IS NOT nil IT RETURNS A SLICE THAT IS NOT nil, OF THE SAME CELLS, IN MEMORY OF THE CALL's OWN ('ownsRow': the how-to's 6f); below the heap's size at the call all is as it was. (LAID AT THE INSTANCE 'slices.Clone[[]bool,bool]': no walk: one application.) -/
theorem Tryz.slices_Clone_f82 (i0 : TypeInfo) (z : Value) (size bytes : Nat) (hi : Tryz.prog.info? 4 = some i0) (hz0 : i0.zero = some z) (hz1 : i0.size = size) (hz2 : i0.bytes = bytes) (hzs : z.cells.size = size) (hsz : 0 < size) (z23 : ∀ w, (Go.sizeOf 4).run Tryz.prog w = .ok size w) (b off n c : Nat) (news : List Value) (w : World) (hl : news.length = n * size) (hn : n ≤ maxLen) (hbig : n * bytes ≤ 140737488355328) (hc : ∀ j u, news[j]? = some u → w.cell? ⟨b, off + j, none⟩ = some u) (h1 : ∀ u ∈ news, u.oneCell' = true) :
    Calls Tryz.prog 82 #[.slice (some ⟨b, off, none⟩) n c] w fun e w' => ∃ v', e = .returned v' ∧ w'.ownsRow w.heap.size 4 size v' n news ∧ v' ≠ .slice none 0 0 ∧ Below w.heap.size w w' := AnyE.slices_Clone Tryz.laysSlE041_f82 i0 z size bytes hi hz0 hz1 hz2 hzs hsz z23 b off n c news w hl hn hbig hc h1
open Go.RowKit Go.Lib in
/-- The same at nil: nil comes back; the world is as it was; nothing is asked of the element's type. (LAID AT THE INSTANCE 'slices.Clone[[]int,int]': no walk: one application.) -/
theorem Tryz.slices_Clone_nil_f42 (n c : Nat) (w : World) :
    Calls Tryz.prog 42 #[.slice none n c] w fun e w' => e = .returned (.slice none 0 0) ∧ w' = w := AnyE.slices_Clone_nil Tryz.laysSlE041_f42 n c w
open Go.RowKit Go.Lib in
/-- The same at nil: nil comes back; the world is as it was; nothing is asked of the element's type. (LAID AT THE INSTANCE 'slices.Clone[[][]int,[]int]': no walk: one application.) -/
theorem Tryz.slices_Clone_nil_f54 (n c : Nat) (w : World) :
    Calls Tryz.prog 54 #[.slice none n c] w fun e w' => e = .returned (.slice none 0 0) ∧ w' = w := AnyE.slices_Clone_nil Tryz.laysSlE041_f54 n c w
open Go.RowKit Go.Lib in
/-- The same at nil: nil comes back; the world is as it was; nothing is asked of the element's type. (LAID AT THE INSTANCE 'slices.Clone[[]int64,int64]': no walk: one application.) -/
theorem Tryz.slices_Clone_nil_f62 (n c : Nat) (w : World) :
    Calls Tryz.prog 62 #[.slice none n c] w fun e w' => e = .returned (.slice none 0 0) ∧ w' = w := AnyE.slices_Clone_nil Tryz.laysSlE041_f62 n c w
open Go.RowKit Go.Lib in
/-- The same at nil: nil comes back; the world is as it was; nothing is asked of the element's type. (LAID AT THE INSTANCE 'slices.Clone[[]bool,bool]': no walk: one application.) -/
theorem Tryz.slices_Clone_nil_f82 (n c : Nat) (w : World) :
    Calls Tryz.prog 82 #[.slice none n c] w fun e w' => e = .returned (.slice none 0 0) ∧ w' = w := AnyE.slices_Clone_nil Tryz.laysSlE041_f82 n c w
def Tryz.laysSlC27_f106_ren : Go.Shelf.Ren := ⟨fun | 7 => 106 | n => n, fun | 22 => 2 | 4 => 4 | n => n, fun | n => n⟩
theorem Tryz.laysSlC27_f106 : Go.Proofs.SlLaysC2.n7 Tryz.prog Tryz.laysSlC27_f106_ren := {
  mixed := by kernel_rfl
  f7 := ⟨Tryz.f106.name, by decide, Tryz.func106.trans (congrArg some (by kernel_rfl))⟩
  t4 := Tryz.underlying4
  a4 := Tryz.isAgg4
  z4 := Tryz.sizeOf4
  v4 := Tryz.zeroValue4
  t22 := Tryz.underlying2
  a22 := Tryz.isAgg2
  z22 := Tryz.sizeOf2
  v22 := Tryz.zeroValue2 }
open Go.Lib in
/-- cmp.isNaN at an int under a name: 'x != x': false. (LAID AT THE INSTANCE 'cmp.isNaN[int64]': no walk: one application.) -/
theorem Tryz.cmp_isNaN_int_f106 (x : Int) (w : World) :
    Calls Tryz.prog 106 #[.int .i64 x] w fun e w' => e = .returned (.bool false) ∧ w' = w := AnyG.cmp_isNaN_int Tryz.laysSlC27_f106 x w
def Tryz.laysSlC25_f105_ren : Go.Shelf.Ren := ⟨fun | 5 => 105 | 7 => 106 | n => n, fun | 22 => 2 | 3 => 3 | 4 => 4 | n => n, fun | n => n⟩
theorem Tryz.laysSlC25_f105 : Go.Proofs.SlLaysC2.n5 Tryz.prog Tryz.laysSlC25_f105_ren := {
  mixed := by kernel_rfl
  f5 := ⟨Tryz.f105.name, by decide, Tryz.func105.trans (congrArg some (by kernel_rfl))⟩
  f7 := ⟨Tryz.f106.name, by decide, Tryz.func106.trans (congrArg some (by kernel_rfl))⟩
  t3 := Tryz.underlying3
  a3 := Tryz.isAgg3
  z3 := Tryz.sizeOf3
  v3 := Tryz.zeroValue3
  t4 := Tryz.underlying4
  a4 := Tryz.isAgg4
  z4 := Tryz.sizeOf4
  v4 := Tryz.zeroValue4
  t22 := Tryz.underlying2
  a22 := Tryz.isAgg2
  z22 := Tryz.sizeOf2
  v22 := Tryz.zeroValue2 }
open Go.Lib in
/-- cmp.Compare at an int under a name: "Compare returns -1 if x is less than y, 0 if x equals y, +1 if x is greater than y.": IT RETURNS 'Lib.compareInt x y'; the world is as it was. (LAID AT THE INSTANCE 'cmp.Compare[int64]': no walk: one application.) -/
theorem Tryz.cmp_Compare_int (x y : Int) (w : World) :
    Calls Tryz.prog 105 #[.int .i64 x, .int .i64 y] w fun e w' => e = .returned (.int .i64 (Lib.compareInt x y)) ∧ w' = w := AnyG.cmp_Compare_int Tryz.laysSlC25_f105 x y w
def Tryz.laysSlM5_f60_ren : Go.Shelf.Ren := ⟨fun | 5 => 60 | 8 => 48 | 7 => 93 | 19 => 78 | 20 => 79 | 10 => 110 | 11 => 111 | 12 => 112 | 13 => 113 | 14 => 114 | 15 => 115 | 16 => 83 | 17 => 116 | 18 => 117 | 30 => 123 | 31 => 99 | 32 => 100 | 33 => 124 | 34 => 125 | 35 => 106 | 40 => 128 | n => n, fun | 23 => 72 | 25 => 2 | 3 => 3 | 32 => 94 | 22 => 72 | 0 => 0 | 44 => 133 | 46 => 135 | 4 => 4 | 36 => 126 | 35 => 125 | 41 => 76 | 5 => 5 | 9 => 9 | 53 => 155 | 57 => 159 | 63 => 177 | 64 => 178 | n => n, fun | n => n⟩
theorem Tryz.laysSlM5_f60 : Go.Proofs.SlLaysM.n5 Tryz.prog Tryz.laysSlM5_f60_ren := {
  mixed := by kernel_rfl
  f5 := ⟨Tryz.f60.name, by decide, Tryz.func60.trans (congrArg some (by kernel_rfl))⟩
  f7 := ⟨Tryz.f93.name, by decide, Tryz.func93.trans (congrArg some (by kernel_rfl))⟩
  f8 := Tryz.func48.trans (congrArg some (by kernel_rfl))
  f10 := ⟨Tryz.f110.name, by decide, Tryz.func110.trans (congrArg some (by kernel_rfl))⟩
  f11 := ⟨Tryz.f111.name, by decide, Tryz.func111.trans (congrArg some (by kernel_rfl))⟩
  f12 := ⟨Tryz.f112.name, by decide, Tryz.func112.trans (congrArg some (by kernel_rfl))⟩
  f13 := ⟨Tryz.f113.name, by decide, Tryz.func113.trans (congrArg some (by kernel_rfl))⟩
  f14 := ⟨Tryz.f114.name, by decide, Tryz.func114.trans (congrArg some (by kernel_rfl))⟩
  f15 := ⟨Tryz.f115.name, by decide, Tryz.func115.trans (congrArg some (by kernel_rfl))⟩
  f16 := ⟨Tryz.f83.name, by decide, Tryz.func83.trans (congrArg some (by kernel_rfl))⟩
  f17 := ⟨Tryz.f116.name, by decide, Tryz.func116.trans (congrArg some (by kernel_rfl))⟩
  f18 := ⟨Tryz.f117.name, by decide, Tryz.func117.trans (congrArg some (by kernel_rfl))⟩
  f19 := Tryz.func78.trans (congrArg some (by kernel_rfl))
  f20 := Tryz.func79.trans (congrArg some (by kernel_rfl))
  f30 := ⟨Tryz.f123.name, by decide, Tryz.func123.trans (congrArg some (by kernel_rfl))⟩
  f31 := Tryz.func99.trans (congrArg some (by kernel_rfl))
  f32 := Tryz.func100.trans (congrArg some (by kernel_rfl))
  f33 := ⟨Tryz.f124.name, by decide, Tryz.func124.trans (congrArg some (by kernel_rfl))⟩
  f34 := ⟨Tryz.f125.name, by decide, Tryz.func125.trans (congrArg some (by kernel_rfl))⟩
  f35 := ⟨Tryz.f106.name, by decide, Tryz.func106.trans (congrArg some (by kernel_rfl))⟩
  f40 := ⟨Tryz.f128.name, by decide, Tryz.func128.trans (congrArg some (by kernel_rfl))⟩
  t0 := Tryz.underlying0
  a0 := Tryz.isAgg0
  z0 := Tryz.sizeOf0
  v0 := Tryz.zeroValue0
  t3 := Tryz.underlying3
  a3 := Tryz.isAgg3
  z3 := Tryz.sizeOf3
  v3 := Tryz.zeroValue3
  t4 := Tryz.underlying4
  a4 := Tryz.isAgg4
  z4 := Tryz.sizeOf4
  v4 := Tryz.zeroValue4
  t5 := Tryz.underlying5
  a5 := Tryz.isAgg5
  z5 := Tryz.sizeOf5
  v5 := Tryz.zeroValue5
  t9 := Tryz.underlying9
  a9 := Tryz.isAgg9
  z9 := Tryz.sizeOf9
  v9 := Tryz.zeroValue9
  t22 := Tryz.underlying72
  a22 := Tryz.isAgg72
  z22 := Tryz.sizeOf72
  v22 := Tryz.zeroValue72
  t23 := Tryz.underlying72
  a23 := Tryz.isAgg72
  z23 := Tryz.sizeOf72
  v23 := Tryz.zeroValue72
  t25 := Tryz.underlying2
  a25 := Tryz.isAgg2
  z25 := Tryz.sizeOf2
  v25 := Tryz.zeroValue2
  t32 := Tryz.underlying94
  a32 := Tryz.isAgg94
  z32 := Tryz.sizeOf94
  v32 := Tryz.zeroValue94
  t35 := Tryz.underlying125
  a35 := Tryz.isAgg125
  z35 := Tryz.sizeOf125
  v35 := Tryz.zeroValue125
  t36 := Tryz.underlying126
  a36 := Tryz.isAgg126
  z36 := Tryz.sizeOf126
  v36 := Tryz.zeroValue126
  t41 := Tryz.underlying76
  a41 := Tryz.isAgg76
  z41 := Tryz.sizeOf76
  v41 := Tryz.zeroValue76
  t44 := Tryz.underlying133
  a44 := Tryz.isAgg133
  z44 := Tryz.sizeOf133
  v44 := Tryz.zeroValue133
  t46 := Tryz.underlying135
  a46 := Tryz.isAgg135
  z46 := Tryz.sizeOf135
  v46 := Tryz.zeroValue135
  t53 := Tryz.underlying155
  a53 := Tryz.isAgg155
  z53 := Tryz.sizeOf155
  v53 := Tryz.zeroValue155
  t57 := Tryz.underlying159
  a57 := Tryz.isAgg159
  z57 := Tryz.sizeOf159
  v57 := Tryz.zeroValue159
  t63 := Tryz.underlying177
  a63 := Tryz.isAgg177
  z63 := Tryz.sizeOf177
  v63 := Tryz.zeroValue177
  t64 := Tryz.underlying178
  a64 := Tryz.isAgg178
  z64 := Tryz.sizeOf178
  v64 := Tryz.zeroValue178 }
open Go.Sort Go.RowKit in
theorem Tryz.slices_Sort_int_f60 (blk off cap : Nat) (zs : List Int) (w : World) (hH : Holds (Value.int .i64) w blk off zs.toArray) (hblk : blk < w.heap.size) (hsz : zs.length < 4611686018427387904) :
    Calls Tryz.prog 60 #[.slice (some ⟨blk, off, none⟩) zs.length cap] w fun e w' =>
      e = .returned (.tuple #[]) ∧ ∃ n os, w' = grow (putRow (Value.int .i64) (Sort.ahead w n) blk off (zs.mergeSort fun x y => decide (x ≤ y)).toArray) os := AnyM.slices_Sort_int Tryz.laysSlM5_f60 blk off cap zs w hH hblk hsz
open Go.RowKit Go.Sort in
/-- .. and plain. (LAID AT THE INSTANCE 'slices.Sort[[]int64,int64]': no walk: one application.) -/
theorem Tryz.slices_Sort_int_none_f60 (p : Option Addr) (cap : Nat) (w : World) :
    Calls Tryz.prog 60 #[.slice p 0 cap] w fun e w' => e = .returned (.tuple #[]) ∧ w' = w := AnyM.slices_Sort_int_none Tryz.laysSlM5_f60 p cap w
end Go.Proofs
