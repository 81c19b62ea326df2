/- slices.SortFunc at []graph.Node, as order.ByID calls it: the shelf's contract laid at this program; what is in order stays as it is.
   slices.Reverse at rows whose elements are of one cell; at nodes.
   topo.lexical, slices.Reverse at nodes and at components, topo.sortedFrom.
   impl.slots.
   topo.Sort; impl.Sort at a good directed graph. -/
import Derived.Test.YthpjmjohdliohaaGreatOpenA
import Derived.Shelf.SlSortCmp.NoneTotal
import Derived.Test.YthpjmjohdliohaaGreatShelf
import Derived.Handy
import Derived.Test.YthpjmjohdliohaaGreatIter
import Derived.Shelf.SlicesE.Reverse
import Derived.Test.YthpjmjohdliohaaGreatPartsA
import Derived.OwnWalk
namespace Go.Proofs.YthpjmjohdliohaaGreat
open Go.RowKit Go.Shelf Go.Sort Go.Lib

def sfRen : Go.Shelf.Ren := ⟨fun | 6 => 87 | 14 => 108 | 15 => 44 | 20 => 127 | 21 => 128 | 22 => 129 | 23 => 130 | 24 => 131 | 25 => 132 | 26 => 133 | 27 => 134 | 28 => 79 | 29 => 80 | 46 => 141 | 47 => 95 | 48 => 96 | 49 => 142 | 50 => 143 | 57 => 146 | n => n, fun | 0 => 0 | 3 => 3 | 4 => 4 | 5 => 5 | 9 => 9 | 22 => 50 | 24 => 85 | 25 => 171 | 39 => 94 | 45 => 145 | 46 => 146 | 50 => 135 | 53 => 153 | 55 => 155 | 66 => 177 | 70 => 181 | 76 => 205 | 77 => 206 | n => n, fun | n => n⟩
theorem sfLays : Go.Proofs.SlLaysF.n6 Tryz.prog sfRen := {
  mixed := by kernel_rfl
  f6 := ⟨Tryz.f87.name, by decide, Tryz.func87.trans (congrArg some (by kernel_rfl))⟩
  f14 := ⟨Tryz.f108.name, by decide, Tryz.func108.trans (congrArg some (by kernel_rfl))⟩
  f15 := Tryz.func44.trans (congrArg some (by kernel_rfl))
  f20 := ⟨Tryz.f127.name, by decide, Tryz.func127.trans (congrArg some (by kernel_rfl))⟩
  f21 := ⟨Tryz.f128.name, by decide, Tryz.func128.trans (congrArg some (by kernel_rfl))⟩
  f22 := ⟨Tryz.f129.name, by decide, Tryz.func129.trans (congrArg some (by kernel_rfl))⟩
  f23 := ⟨Tryz.f130.name, by decide, Tryz.func130.trans (congrArg some (by kernel_rfl))⟩
  f24 := ⟨Tryz.f131.name, by decide, Tryz.func131.trans (congrArg some (by kernel_rfl))⟩
  f25 := ⟨Tryz.f132.name, by decide, Tryz.func132.trans (congrArg some (by kernel_rfl))⟩
  f26 := ⟨Tryz.f133.name, by decide, Tryz.func133.trans (congrArg some (by kernel_rfl))⟩
  f27 := ⟨Tryz.f134.name, by decide, Tryz.func134.trans (congrArg some (by kernel_rfl))⟩
  f28 := Tryz.func79.trans (congrArg some (by kernel_rfl))
  f29 := Tryz.func80.trans (congrArg some (by kernel_rfl))
  f46 := ⟨Tryz.f141.name, by decide, Tryz.func141.trans (congrArg some (by kernel_rfl))⟩
  f47 := Tryz.func95.trans (congrArg some (by kernel_rfl))
  f48 := Tryz.func96.trans (congrArg some (by kernel_rfl))
  f49 := ⟨Tryz.f142.name, by decide, Tryz.func142.trans (congrArg some (by kernel_rfl))⟩
  f50 := ⟨Tryz.f143.name, by decide, Tryz.func143.trans (congrArg some (by kernel_rfl))⟩
  f57 := ⟨Tryz.f146.name, by decide, Tryz.func146.trans (congrArg some (by kernel_rfl))⟩
  t0 := Tryz.underlying0
  a0 := Tryz.isAgg0
  z0 := Tryz.sizeOf0
  v0 := Tryz.zeroValue0
  t3 := Tryz.underlying3
  a3 := Tryz.isAgg3
  z3 := Tryz.sizeOf3
  v3 := Tryz.zeroValue3
  t4 := Tryz.underlying4
  a4 := Tryz.isAgg4
  z4 := Tryz.sizeOf4
  v4 := Tryz.zeroValue4
  t5 := Tryz.underlying5
  a5 := Tryz.isAgg5
  z5 := Tryz.sizeOf5
  v5 := Tryz.zeroValue5
  t9 := Tryz.underlying9
  a9 := Tryz.isAgg9
  z9 := Tryz.sizeOf9
  v9 := Tryz.zeroValue9
  t22 := Tryz.underlying50
  a22 := Tryz.isAgg50
  z22 := Tryz.sizeOf50
  v22 := Tryz.zeroValue50
  a24 := Tryz.isAgg85
  z24 := Tryz.sizeOf85
  t25 := Tryz.underlying171
  a25 := Tryz.isAgg171
  z25 := Tryz.sizeOf171
  v25 := Tryz.zeroValue171
  t39 := Tryz.underlying94
  a39 := Tryz.isAgg94
  z39 := Tryz.sizeOf94
  v39 := Tryz.zeroValue94
  t45 := Tryz.underlying145
  a45 := Tryz.isAgg145
  z45 := Tryz.sizeOf145
  v45 := Tryz.zeroValue145
  t46 := Tryz.underlying146
  a46 := Tryz.isAgg146
  z46 := Tryz.sizeOf146
  v46 := Tryz.zeroValue146
  t50 := Tryz.underlying135
  a50 := Tryz.isAgg135
  z50 := Tryz.sizeOf135
  v50 := Tryz.zeroValue135
  t53 := Tryz.underlying153
  a53 := Tryz.isAgg153
  z53 := Tryz.sizeOf153
  v53 := Tryz.zeroValue153
  t55 := Tryz.underlying155
  a55 := Tryz.isAgg155
  z55 := Tryz.sizeOf155
  v55 := Tryz.zeroValue155
  t66 := Tryz.underlying177
  a66 := Tryz.isAgg177
  z66 := Tryz.sizeOf177
  v66 := Tryz.zeroValue177
  t70 := Tryz.underlying181
  a70 := Tryz.isAgg181
  z70 := Tryz.sizeOf181
  v70 := Tryz.zeroValue181
  t76 := Tryz.underlying205
  a76 := Tryz.isAgg205
  z76 := Tryz.sizeOf205
  v76 := Tryz.zeroValue205
  t77 := Tryz.underlying206
  a77 := Tryz.isAgg206
  z77 := Tryz.sizeOf206
  v77 := Tryz.zeroValue206 }

/-- What the comparison says. -/
def cmpI (x y : Int) : Int := if x < y then -1 else if y < x then 1 else 0

theorem compare_any (x y : Int) (w : World) : Calls Tryz.prog 89 #[.int .i64 x, .int .i64 y] w fun e w' => e = .returned (.int .i64 (cmpI x y)) ∧ w = w' := by
  unfold cmpI
  by_cases h1 : x < y
  · rw [if_pos h1]
    go_enter Tryz.func89, Tryz.ntmps89
    go_wp2_with (go_at_call 109; refine (isNaN_any _ _).mono ?_; rintro e w' ⟨rfl, rfl⟩)
    go_ret
    exact ⟨rfl, rfl⟩
  · rw [if_neg h1]
    by_cases h2 : y < x
    · rw [if_pos h2]
      go_enter Tryz.func89, Tryz.ntmps89
      go_wp2_with (go_at_call 109; refine (isNaN_any _ _).mono ?_; rintro e w' ⟨rfl, rfl⟩)
      go_ret
      exact ⟨rfl, rfl⟩
    · rw [if_neg h2]
      go_enter Tryz.func89, Tryz.ntmps89
      go_wp2_with (go_at_call 109; refine (isNaN_any _ _).mono ?_; rintro e w' ⟨rfl, rfl⟩)
      go_ret
      exact ⟨rfl, rfl⟩

theorem byId_cmp (x y : Int) (w : World) : Calls Tryz.prog 88 #[nodev x, nodev y] w fun e w' => e = .returned (.int .i64 (cmpI x y)) ∧ w = w' := by
  unfold nodev
  go_enter Tryz.func88, Tryz.ntmps88
  go_wp2_with (first
    | (go_at_call 184; refine (id_any _ _).mono ?_; rintro e w' ⟨rfl, rfl⟩)
    | (go_at_call 89; refine (compare_any _ _ _).mono ?_; rintro e w' ⟨rfl, rfl⟩))
  go_ret
  exact ⟨rfl, rfl⟩

theorem holds_nodes {w : World} {base e n cap g : Nat} {zs : List Int} (h : w.ownsRow base e 1 (.slice (some ⟨g, 0, none⟩) n cap) n (nodes zs)) : Holds nodev w g 0 zs.toArray := by
  intro j hj
  have hj' : j < zs.length := by simpa using hj
  rw [Nat.zero_add]
  refine ⟨?_, owns_free h j⟩
  have e : zs.toArray[j]! = zs[j] := by simp [hj']
  rw [e]
  exact owns_cell h (nodes_get zs j hj')

theorem owns_putN {w : World} {base e n cap g k : Nat} {os : Array Obj} {zs ys : List Int} (h : w.ownsRow base e 1 (.slice (some ⟨g, 0, none⟩) n cap) n (nodes zs)) (hl : ys.length = zs.length) :
    (grow (putRow nodev (Sort.ahead w k) g 0 ys.toArray) os).ownsRow base e 1 (.slice (some ⟨g, 0, none⟩) n cap) n (nodes ys) := by
  have hzl : (nodes zs).length = n * 1 := h.1
  have hzs : zs.length = n := by rw [nodes_length] at hzl; omega
  obtain ⟨_, h | ⟨g', cap', cur, hv, hg, hh, hn, hm, hs, ht⟩⟩ := h
  · simp at h
  · injection hv with hv _ hcap
    injection hv with hv
    injection hv with hv _ _
    subst hv; subst hcap
    refine ⟨by rw [nodes_length, hl, hzs, Nat.mul_one], .inr ⟨g, cap, putCells nodev 0 ys.toArray cur, rfl, hg, ?_, hn, hm, by simp [putCells, hs], ?_⟩⟩
    · have hgl : g < w.heap.size := lt_of_block hh
      rw [heap_grow_old _ _ (by simpa using hgl)]
      simp [putRow, mapBlock, Sort.ahead, Array.getElem?_modify, hh, onCells]
    · apply List.ext_getElem?
      intro j
      by_cases hj : j < n
      · rw [List.getElem?_take_of_lt (by omega), Array.getElem?_toList]
        simp [putCells, nodes, hl, hzs, hj, show j < cur.size by omega]
      · rw [List.getElem?_take_eq_none (by omega), List.getElem?_eq_none (by rw [nodes_length]; omega)]

theorem grown_putN {w : World} {g n : Nat} {os : Array Obj} (d : Array Int) : w.grownBy (grow (putRow nodev (Sort.ahead w n) g 0 d) os) (some g) := by
  refine ⟨rfl, rfl, rfl, by simp, fun k hk hne => ?_⟩
  rw [heap_grow_old _ _ (by simpa using hk)]
  have : g ≠ k := fun e => hne (by rw [e])
  simp [putRow, mapBlock, Sort.ahead, Array.getElem?_modify, this]

theorem cmpI_lt (x y : Int) : ltOf cmpI x y = decide (x < y) := by
  unfold ltOf cmpI
  by_cases h1 : x < y
  · simp [h1]
  · by_cases h2 : y < x <;> simp [h1, h2]

theorem cmpI_swo : SWO (ltOf cmpI) where
  irrefl := fun x => by rw [cmpI_lt]; simp
  trans := fun x y z h1 h2 => by rw [cmpI_lt] at *; simp at *; omega
  ntrans := fun x y z h1 h2 => by rw [cmpI_lt] at *; simp at *; omega

set_option maxRecDepth 100000 in
theorem sortN_any (base n cap : Nat) (a : Option Addr) (zs : List Int) (w : World) (hn : n ≤ 1048576) (hown : w.ownsRow base 85 1 (.slice a n cap) n (nodes zs)) :
    Calls Tryz.prog 87 #[.slice a n cap, .func (.func 88) #[] #[]] w
      fun e w' => e = .returned (.tuple #[]) ∧ w'.ownsRow base 85 1 (.slice a n cap) n (nodes (asc zs)) ∧ w.grownBy w' (Value.slice a n cap).ownBlock := by
  have hl : zs.length = n := by have := hown.1; rw [nodes_length] at this; omega
  by_cases h0 : n = 0
  · subst h0
    have hz : zs = [] := List.eq_nil_of_length_eq_zero hl
    subst hz
    refine (AnyF.slices_SortFunc_none (P := Tryz.prog) (ρ := sfRen) { sfLays with } a cap _ w).mono ?_
    rintro e w' ⟨rfl, rfl⟩
    exact ⟨rfl, by simpa [asc] using hown, World.grownBy.refl _ _⟩
  · obtain ⟨g, rfl, _, hg, _⟩ := owns_at hown (by omega)
    subst hl
    refine (Any.slices_SortFunc_total (P := Tryz.prog) (ρ := sfRen) sfLays nodev (fun _ => rfl) cmpI cmpI_swo _ #[] g 0 cap zs.toArray w (fun args w => by simp [go_sem]) (CmpReads.lays (fun m os dk _ x y => ?_)) (holds_nodes hown) hg (by simp; omega) (fun x y h1 h2 => by rw [cmpI_lt] at *; simp at *; omega)).mono ?_
    · refine (byId_cmp x y _).mono ?_
      rintro e w' ⟨rfl, rfl⟩
      exact ⟨rfl, 0, rfl⟩
    · rintro e w' ⟨rfl, k, os, rfl⟩
      have e1 : (zs.toArray.toList.mergeSort fun x y => !ltOf cmpI y x) = asc zs := by
        unfold asc
        congr 1
        funext x y
        rw [cmpI_lt]
        by_cases h : y < x
        · simp [h]
        · simp [h]; omega
      rw [e1]
      exact ⟨rfl, owns_putN hown (asc_length zs), grown_putN _⟩

set_option maxRecDepth 100000 in
theorem byId_any (base n cap : Nat) (a : Option Addr) (zs : List Int) (w : World) (hn : n ≤ 1048576) (hown : w.ownsRow base 85 1 (.slice a n cap) n (nodes zs)) :
    Calls Tryz.prog 60 #[.slice a n cap] w
      fun e w' => e = .returned (.tuple #[]) ∧ w'.ownsRow base 85 1 (.slice a n cap) n (nodes (asc zs)) ∧ w.grownBy w' (Value.slice a n cap).ownBlock := by
  have h := Lib.hid (sortN_any base n cap a zs w hn hown)
  clear hown
  go_enter Tryz.func60, Tryz.ntmps60
  go_wp2_with fail
  refine (unhide h).mono ?_
  rintro e w' ⟨rfl, h1, h2⟩
  go_wp2_with fail
  go_end0
  exact ⟨rfl, h1, h2⟩
end Go.Proofs.YthpjmjohdliohaaGreat

namespace Go.Proofs.YthpjmjohdliohaaGreat
open Go.RowKit Go.Sort Go.Lib

/-- A value of one cell. -/
abbrev OneV := { v : Value // v.oneCell' = true }
instance : Inhabited OneV := ⟨⟨.nilIface, rfl⟩⟩
theorem oneV_cell : OneCell (Subtype.val : OneV → Value) := fun x => x.2
theorem oneV_list : ∀ (xs : List Value), (∀ u ∈ xs, u.oneCell' = true) → ∃ zs : List OneV, zs.map Subtype.val = xs
  | [], _ => ⟨[], rfl⟩
  | x :: xs, h => by
    obtain ⟨zs, e⟩ := oneV_list xs fun u hu => h u (List.mem_cons_of_mem _ hu)
    exact ⟨⟨x, h x List.mem_cons_self⟩ :: zs, by rw [List.map_cons, e]⟩

theorem holds_oneV {w : World} {base e n cap g : Nat} {zs : List OneV} (h : w.ownsRow base e 1 (.slice (some ⟨g, 0, none⟩) n cap) n (zs.map Subtype.val)) : Holds (Subtype.val : OneV → Value) w g 0 zs.toArray := by
  intro j hj
  have hj' : j < zs.length := by simpa using hj
  rw [Nat.zero_add]
  refine ⟨?_, owns_free h j⟩
  have e : zs.toArray[j]! = zs[j] := by simp [hj']
  rw [e]
  exact owns_cell h (by rw [List.getElem?_map, List.getElem?_eq_getElem hj']; rfl)

theorem owns_putV {w : World} {base e n cap g k : Nat} {zs ys : List OneV} (h : w.ownsRow base e 1 (.slice (some ⟨g, 0, none⟩) n cap) n (zs.map Subtype.val)) (hl : ys.length = zs.length) :
    (putRow (Subtype.val : OneV → Value) (Sort.ahead w k) g 0 ys.toArray).ownsRow base e 1 (.slice (some ⟨g, 0, none⟩) n cap) n (ys.map Subtype.val) := by
  have hzl : (zs.map Subtype.val).length = n * 1 := h.1
  have hzs : zs.length = n := by rw [List.length_map] at hzl; omega
  obtain ⟨_, h | ⟨g', cap', cur, hv, hg, hh, hn, hm, hs, ht⟩⟩ := h
  · simp at h
  · injection hv with hv _ hcap
    injection hv with hv
    injection hv with hv _ _
    subst hv; subst hcap
    refine ⟨by rw [List.length_map, hl, hzs, Nat.mul_one], .inr ⟨g, cap, putCells (Subtype.val : OneV → Value) 0 ys.toArray cur, rfl, hg, ?_, hn, hm, by simp [putCells, hs], ?_⟩⟩
    · have hgl : g < w.heap.size := lt_of_block hh
      simp [putRow, mapBlock, Sort.ahead, Array.getElem?_modify, hh, onCells]
    · apply List.ext_getElem?
      intro j
      by_cases hj : j < n
      · rw [List.getElem?_take_of_lt (by omega), Array.getElem?_toList]
        simp [putCells, hl, hzs, hj, show j < cur.size by omega]
      · rw [List.getElem?_take_eq_none (by omega), List.getElem?_eq_none (by rw [List.length_map]; omega)]

theorem grown_putV {w : World} {g n : Nat} (d : Array OneV) : w.grownBy (putRow (Subtype.val : OneV → Value) (Sort.ahead w n) g 0 d) (some g) := by
  refine ⟨rfl, rfl, rfl, by simp, fun k hk hne => ?_⟩
  have : g ≠ k := fun e => hne (by rw [e])
  simp [putRow, mapBlock, Sort.ahead, Array.getElem?_modify, this]

theorem reverse_own {P : Program} {ρ : Go.Shelf.Ren} (L : Go.Proofs.SlLaysE.n35 P ρ) (base e n cap : Nat) (a : Option Addr) (xs : List Value) (w : World) (h1 : ∀ u ∈ xs, u.oneCell' = true) (hn : n ≤ 1048576) (hown : w.ownsRow base e 1 (.slice a n cap) n xs) :
    Calls P (ρ.f 35) #[.slice a n cap] w fun e' w' => e' = .returned (.tuple #[]) ∧ w'.ownsRow base e 1 (.slice a n cap) n xs.reverse ∧ w.grownBy w' (Value.slice a n cap).ownBlock := by
  obtain ⟨zs, rfl⟩ := oneV_list xs h1
  have hl : zs.length = n := by have := hown.1; rw [List.length_map] at this; omega
  by_cases h0 : n = 0
  · subst h0
    have hz : zs = [] := List.eq_nil_of_length_eq_zero hl
    subst hz
    refine (AnyE.slices_Reverse_empty L a cap w).mono ?_
    rintro e' w' ⟨rfl, rfl⟩
    exact ⟨rfl, hown, World.grownBy.refl _ _⟩
  · obtain ⟨g, rfl, _⟩ := owns_at hown (by omega)
    subst hl
    refine (AnyE.slices_Reverse L (Subtype.val : OneV → Value) oneV_cell g 0 cap zs w (holds_oneV hown) (by omega)).mono ?_
    rintro e' w' ⟨rfl, k, rfl⟩
    refine ⟨rfl, ?_, grown_putV _⟩
    rw [← List.map_reverse]
    exact owns_putV (ys := zs.reverse) hown (List.length_reverse)

def rvNRen : Go.Shelf.Ren := ⟨fun | 35 => 51 | n => n, fun | 22 => 50 | 23 => 85 | 3 => 3 | 4 => 4 | 0 => 0 | n => n, fun | n => n⟩
theorem rvNLays : Go.Proofs.SlLaysE.n35 Tryz.prog rvNRen := {
  mixed := by kernel_rfl
  f35 := ⟨Tryz.f51.name, by decide, Tryz.func51.trans (congrArg some (by kernel_rfl))⟩
  t0 := Tryz.underlying0
  a0 := Tryz.isAgg0
  z0 := Tryz.sizeOf0
  v0 := Tryz.zeroValue0
  t3 := Tryz.underlying3
  a3 := Tryz.isAgg3
  z3 := Tryz.sizeOf3
  v3 := Tryz.zeroValue3
  t4 := Tryz.underlying4
  a4 := Tryz.isAgg4
  z4 := Tryz.sizeOf4
  v4 := Tryz.zeroValue4
  t22 := Tryz.underlying50
  a22 := Tryz.isAgg50
  z22 := Tryz.sizeOf50
  v22 := Tryz.zeroValue50
  a23 := Tryz.isAgg85
  z23 := Tryz.sizeOf85 }

end Go.Proofs.YthpjmjohdliohaaGreat

namespace Go.Proofs.YthpjmjohdliohaaGreat
open Go.RowKit Go.Sort Go.Lib

theorem lexical_any (base n cap : Nat) (a : Option Addr) (zs : List Int) (w : World) (hn : n ≤ 1048576) (hown : w.ownsRow base 85 1 (.slice a n cap) n (nodes zs)) :
    Calls Tryz.prog 40 #[.slice a n cap] w
      fun e w' => e = .returned (.tuple #[]) ∧ w'.ownsRow base 85 1 (.slice a n cap) n (nodes (asc zs)) ∧ w.grownBy w' (Value.slice a n cap).ownBlock := by
  have h := Lib.hid (byId_any base n cap a zs w hn hown)
  clear hown
  go_enter Tryz.func40, Tryz.ntmps40
  go_wp2_with fail
  refine (unhide h).mono ?_
  rintro e w' ⟨rfl, h1, h2⟩
  go_wp2_with fail
  go_end0
  exact ⟨rfl, h1, h2⟩

def rvURen : Go.Shelf.Ren := ⟨fun | 35 => 66 | n => n, fun | 22 => 89 | 23 => 50 | 3 => 3 | 4 => 4 | 0 => 0 | n => n, fun | n => n⟩
theorem rvULays : Go.Proofs.SlLaysE.n35 Tryz.prog rvURen := {
  mixed := by kernel_rfl
  f35 := ⟨Tryz.f66.name, by decide, Tryz.func66.trans (congrArg some (by kernel_rfl))⟩
  t0 := Tryz.underlying0
  a0 := Tryz.isAgg0
  z0 := Tryz.sizeOf0
  v0 := Tryz.zeroValue0
  t3 := Tryz.underlying3
  a3 := Tryz.isAgg3
  z3 := Tryz.sizeOf3
  v3 := Tryz.zeroValue3
  t4 := Tryz.underlying4
  a4 := Tryz.isAgg4
  z4 := Tryz.sizeOf4
  v4 := Tryz.zeroValue4
  t22 := Tryz.underlying89
  a22 := Tryz.isAgg89
  z22 := Tryz.sizeOf89
  v22 := Tryz.zeroValue89
  a23 := Tryz.isAgg50
  z23 := Tryz.sizeOf50 }

theorem take_topV {M : List (List Int)} {k : Nat} (hk : k < M.length) : (M.take (k + 1)).map topV = (M.take k).map topV ++ [topV M[k]] := by
  rw [List.take_succ_eq_append_getElem hk, List.map_append]; rfl
theorem cycV_one {vs : List Value} {M : List (List Int)} {k : Nat} (hk : k < M.length) (h1 : M[k].length = 1) : cycV vs M (k + 1) = cycV vs M k := by
  conv => lhs; unfold cycV
  rw [if_pos (by simpa [hk] using h1)]
theorem cycV_more {vs : List Value} {M : List (List Int)} {k : Nat} {v : Value} (hk : k < M.length) (h1 : M[k].length ≠ 1) (hv : vs[k]? = some v) : cycV vs M (k + 1) = cycV vs M k ++ [v] := by
  conv => lhs; unfold cycV
  rw [if_neg (by simpa [hk] using h1), List.getD_eq_getElem?_getD, hv]; rfl

theorem cycV_le (vs : List Value) (M : List (List Int)) : ∀ k, (cycV vs M k).length ≤ k
  | 0 => Nat.le_refl _
  | k + 1 => by
    have := cycV_le vs M k
    unfold cycV
    split
    · omega
    · rw [List.length_append, List.length_singleton]; omega
theorem NRows.one {w : World} {B : Nat} {vs : List Value} {l : List (List Int)} (h : NRows w B vs l) : ∀ u ∈ vs, u.oneCell' = true := by
  intro u hu
  obtain ⟨k, hk, rfl⟩ := List.mem_iff_getElem.1 hu
  obtain ⟨a, c, e, _⟩ := owns_cells (h.2 k _ _ (List.getElem?_eq_getElem hk) (List.getElem?_eq_getElem (by rw [← h.1]; exact hk)))
  rw [e]; rfl

set_option maxRecDepth 100000 in
set_option maxHeartbeats 2000000 in
theorem sortedFrom_any (a : Option Addr) (c B : Nat) (vs : List Value) (M : List (List Int)) (w : World) (hM : M.length ≤ 1000) (hl : ∀ k (hk : k < M.length), M[k].length ≤ 1000) (hov : w.ownsRow B 50 1 (.slice a M.length c) M.length vs)
    (hrows : NRows w B vs M) (hap : ∀ j ∈ blks vs, (Value.slice a M.length c).ownBlock ≠ some j) (hnd : (blks vs).Nodup) (hB : B ≤ w.heap.size) :
    Calls Tryz.prog 39 #[.slice a M.length c, .func (.func 40) #[] #[]] w (SortedPost w B M) := by
  have hmk := fun W => run_make_cap (P := Tryz.prog) 50 85 .nilIface 16 Tryz.underlying50 info_node rfl M.length (by omega) (by omega) W
  have hsf : SF w (w.alloc (.cells (madeCells #[.nilIface] M.length) 85)) B vs [] [] (rowsUp M 0) (.slice (some ⟨w.heap.size, 0, none⟩) 0 M.length) (.slice none 0 0) := by
    refine ⟨World.ownsRow_made w _ _ (Nat.le_refl _) (by unfold maxLen; omega) (by rw [size_madeCells, Nat.mul_one]), World.ownsRow_nil _ _ _ _, fun j _ e => by simp [Value.ownBlock] at e, fun _ => rfl, ?_, fun j hj _ => Below.heap_alloc _ _ _ hj, rfl, rfl, rfl, by simp, fun j hj => (hrows.lt j hj).2⟩
    rw [rowsUp_zero]
    exact hrows.same fun j hj => Below.heap_alloc _ _ _ (hrows.lt j hj).2
  have hrow : Hid (∀ (k : Nat) (hk : k < M.length), ∃ ga v, a = some ⟨ga, 0, none⟩ ∧ vs[k]? = some v ∧ ∀ W xs ys l sa sb, SF w W B vs xs ys l sa sb → W.cell? ⟨ga, k, none⟩ = some v) := fun k hk => by
    obtain ⟨ga, rfl, _⟩ := owns_at hov (by omega)
    have hv : vs[k]? = some (vs[k]'(by rw [hrows.1]; exact hk)) := List.getElem?_eq_getElem _
    refine ⟨ga, _, rfl, hv, fun W xs ys l sa sb h => ?_⟩
    rw [World.cell?_of_block (a := ⟨ga, k, none⟩) (h.keep ga (hov.lt ga rfl).2 fun hm => hap ga hm rfl)]
    exact owns_cell hov hv
  have hlh := Lib.hid hl
  have hndh := Lib.hid hnd
  clear hov hrows hap hl hnd
  go_enter Tryz.func39, Tryz.ntmps39
  go_wp2
  obtain ⟨w1, hw1⟩ : ∃ w1, w1 = w.alloc (.cells (madeCells #[.nilIface] M.length) 85) := ⟨_, rfl⟩
  rw [← hw1] at hsf ⊢
  clear hw1 hmk
  have hsfh := Lib.hid hsf
  clear hsf
  go_loopw [6, 7, 9, 16] (fun s sc _ i wr => ∃ (k g c : Nat) (b : Option Addr) (m d : Nat), k ≤ M.length ∧ i = .int .i64 k ∧ s = .slice (some ⟨g, 0, none⟩) k c ∧ sc = .slice b m d ∧ m = (cycV vs M k).length ∧
    SF w wr B vs ((M.take k).map topV) (cycV vs M k) (rowsUp M k) (.slice (some ⟨g, 0, none⟩) k c) (.slice b m d)) (fun _ _ _ i _ => M.length - (intOf i).toNat)
  case atStart => exact ⟨0, _, _, none, 0, 0, Nat.zero_le _, rfl, rfl, rfl, rfl, hsfh.out⟩
  case round =>
    obtain ⟨k, g, c1, b, m, d, hk, rfl, rfl, rfl, hm, hsf⟩ := hrel
    by_cases hlt : k < M.length
    · obtain ⟨ga, v, rfl, hv, hcell⟩ := hrow.out k hlt
      have hc := hcell wr _ _ _ _ _ hsf
      have hrw := hsf.rows.2 k v _ hv (rowsUp_get hlt)
      have hll := hlh.out k hlt
      have htk := take_topV hlt
      have hs0 := hsf.size
      have hxl : ((M.take k).map topV).length = k := by rw [List.length_map, List.length_take]; omega
      have hso : Hid (∀ o, (wr.alloc o).ownsRow w.heap.size 85 1 (.slice (some ⟨g, 0, none⟩) k c1) k ((M.take k).map topV)) := fun o => by have := hsf.own; rw [hxl] at this; exact this.alloc o
      have hmk : m ≤ k := by rw [hm]; exact cycV_le vs M k
      by_cases h1 : M[k].length = 1
      · have hfin : Hid (∀ o b2 c2 w2, w2.ownsRow w.heap.size 85 1 (.slice b2 (k + 1) c2) (k + 1) ((M.take k).map topV ++ [topV M[k]]) → (wr.alloc o).grownBy w2 (Value.slice (some ⟨g, 0, none⟩) k c1).ownBlock → (b2 = some ⟨g, 0, none⟩ ∨ b2 = some ⟨(wr.alloc o).heap.size, 0, none⟩) →
            m = (cycV vs M (k + 1)).length ∧ ∃ g2, b2 = some ⟨g2, 0, none⟩ ∧ SF w w2 B vs ((M.take (k + 1)).map topV) (cycV vs M (k + 1)) (rowsUp M (k + 1)) (.slice b2 (k + 1) c2) (.slice b m d)) := fun o b2 c2 w2 h2 hg2 hat2 => by
          refine ⟨by rw [cycV_one hlt h1]; exact hm, ?_⟩
          have hq := hsf.push hg2 h2 hat2 hxl.symm
          rw [htk, cycV_one hlt h1, rowsUp_one hlt h1]
          obtain ⟨g2, e, _⟩ := owns_at h2 (by omega)
          exact ⟨g2, e, hq⟩
        obtain ⟨x, hx⟩ := List.length_eq_one_iff.1 h1
        obtain ⟨ag, cg, rfl, _, hcs, _⟩ := owns_cells hrw
        have htop : topV M[k] = nodev x := by rw [hx]; rfl
        rw [htop] at hfin
        rw [h1] at hc
        rw [hx] at hcs
        obtain ⟨nb, no, rfl, _, hr⟩ := hcs.at (by rw [nodes_length]; exact Nat.one_pos)
        have hnd := hr 0 _ (show (nodes [x])[0]? = some (nodev x) from rfl)
        rw [Nat.add_zero] at hnd
        unfold nodev at hnd hfin
        clear hcs hr hx h1 htop htk hrw hxl hsf hm hv hcell hrow hll
        go_wp2_with (at_builtin; refine append_law 50 85 .nilIface 1 16 Tryz.underlying50 info_node rfl (by omega) (by omega) rfl _ _ rfl w.heap.size (some ⟨g, 0, none⟩) k c1 ((M.take k).map topV) rfl (unhide hso _) ⟨wr.heap.size, 0, none⟩ 1 1 [.iface 127 (.int .i64 x)] rfl rfl (new_one wr _ _) (one_node _) (by omega) (by simp; omega) ?_; intro b2 c2 w2 hown2 hg2 hat2; have hf := Lib.hid (hfin.out _ _ _ _ hown2 hg2 hat2); clear hown2 hg2 hat2)
        obtain ⟨hm2, g2, rfl, hsf2⟩ := hf.out
        go_roundw
        case rel => exact ⟨k + 1, g2, c2, b, m, d, by omega, by go_num, rfl, rfl, hm2, hsf2⟩
        case measure => simp [intOf]; omega
      · have hfin : Hid (∀ w5, w5.ownsRow B 85 1 v M[k].length (nodes (asc M[k])) → wr.grownBy w5 v.ownBlock → (∀ o, (w5.alloc o).ownsRow w.heap.size 50 1 (.slice b m d) m (cycV vs M k)) ∧ w.heap.size ≤ w5.heap.size ∧
            ∀ o b6 c6 w6, w6.ownsRow w.heap.size 50 1 (.slice b6 (m + 1) c6) (m + 1) (cycV vs M k ++ [v]) → (w5.alloc o).grownBy w6 (Value.slice b m d).ownBlock → (b6 = b ∨ b6 = some ⟨(w5.alloc o).heap.size, 0, none⟩) →
            (∀ o, (w6.alloc o).ownsRow w.heap.size 85 1 (.slice (some ⟨g, 0, none⟩) k c1) k ((M.take k).map topV)) ∧ w.heap.size ≤ w6.heap.size ∧
            ∀ o b2 c2 w2, w2.ownsRow w.heap.size 85 1 (.slice b2 (k + 1) c2) (k + 1) ((M.take k).map topV ++ [.nilIface]) → (w6.alloc o).grownBy w2 (Value.slice (some ⟨g, 0, none⟩) k c1).ownBlock → (b2 = some ⟨g, 0, none⟩ ∨ b2 = some ⟨(w6.alloc o).heap.size, 0, none⟩) →
              m + 1 = (cycV vs M (k + 1)).length ∧ ∃ g2, b2 = some ⟨g2, 0, none⟩ ∧ SF w w2 B vs ((M.take (k + 1)).map topV) (cycV vs M (k + 1)) (rowsUp M (k + 1)) (.slice b2 (k + 1) c2) (.slice b6 (m + 1) c6)) := fun w5 h5 hg5 => by
          have e5 : M[k].length = (asc M[k]).length := (asc_length _).symm
          rw [e5] at h5
          have s5 := hsf.order hndh.out hv h5 hg5
          refine ⟨fun o => by have := s5.sco; rw [← hm] at this; exact this.alloc o, s5.size, fun o b6 c6 w6 h6 hg6 hat6 => ?_⟩
          have s6 := s5.pushC hg6 h6 hat6 hm
          refine ⟨fun o => by have := s6.own; rw [hxl] at this; exact this.alloc o, s6.size, fun o b2 c2 w2 h2 hg2 hat2 => ?_⟩
          have s7 := s6.push hg2 h2 hat2 hxl.symm
          have htop : topV M[k] = .nilIface := by unfold topV; rw [if_neg h1]
          refine ⟨by rw [cycV_more hlt h1 hv, List.length_append, ← hm]; rfl, ?_⟩
          obtain ⟨g2, e, _⟩ := owns_at h2 (by omega)
          refine ⟨g2, e, ?_⟩
          rw [htk, htop, cycV_more hlt h1 hv, rowsUp_succ hlt]
          exact s7
        obtain ⟨ag, cg, rfl, _, _, _⟩ := owns_cells hrw
        have hlex := Lib.hid (lexical_any B M[k].length cg ag M[k] wr (by omega) hrw)
        obtain ⟨n, hn⟩ : ∃ n, n = M[k].length := ⟨_, rfl⟩
        rw [← hn] at hc hlex hfin h1
        have hn1 : ((n : Nat) : Int) ≠ 1 := by omega
        clear htk hrw hxl hsf hm hv hcell hrow hll hn h1 hso
        go_wp2_with fail
        refine (unhide hlex).mono ?_
        rintro e w5 ⟨rfl, h5, hg5⟩
        obtain ⟨hsc, hz5, hnx⟩ := hfin.out w5 h5 hg5
        have hsch := Lib.hid hsc
        have hnxh := Lib.hid hnx
        clear hsc hnx h5 hg5 hfin hlex hc
        go_wp2_with (first
          | (at_builtin; refine append_law 89 50 (.slice none 0 0) 1 24 Tryz.underlying89 info_nrow rfl (by omega) (by omega) rfl _ _ rfl w.heap.size b m d (cycV vs M k) rfl (unhide hsch _) ⟨w5.heap.size, 0, none⟩ 1 1 [.slice ag n cg] rfl rfl (new_one w5 _ _) (one_row _ _ _) (by omega) (by simp; omega) ?_; intro b6 c6 w6 hown6 hg6 hat6; have hf := Lib.hid (hnxh.out _ _ _ _ hown6 hg6 hat6); clear hown6 hg6 hat6; obtain ⟨hsa, hz6, hny⟩ := hf.out; have hsah := Lib.hid hsa; have hnyh := Lib.hid hny; clear hsa hny hf)
          | (at_builtin; refine append_law 50 85 .nilIface 1 16 Tryz.underlying50 info_node rfl (by omega) (by omega) rfl _ _ rfl w.heap.size (some ⟨g, 0, none⟩) k c1 ((M.take k).map topV) rfl (unhide hsah _) ⟨w6.heap.size, 0, none⟩ 1 1 [.nilIface] rfl rfl (new_one w6 _ _) (by intro u hu; simp at hu; subst hu; rfl) (by omega) (by simp; omega) ?_; intro b2 c2 w2 hown2 hg2 hat2; have hf := Lib.hid (hnyh.out _ _ _ _ hown2 hg2 hat2); clear hown2 hg2 hat2))
        obtain ⟨hm2, g2, rfl, hsf2⟩ := hf.out
        go_roundw
        case rel => exact ⟨k + 1, g2, c2, b6, m + 1, c6, by omega, by go_num, rfl, rfl, hm2, hsf2⟩
        case measure => simp [intOf]; omega
    · have hkn : k = M.length := by omega
      subst hkn
      rw [List.take_length] at hsf
      have hsize := hsf.size
      have hxl : (M.map topV).length = M.length := List.length_map _
      have hown := hsf.own
      rw [hxl] at hown
      have hx1 : ∀ u ∈ M.map topV, u.oneCell' = true := fun u hu => by
        obtain ⟨c, _, rfl⟩ := List.mem_map.1 hu
        unfold topV nodev
        split <;> rfl
      rcases hys : cycV vs M M.length with _ | ⟨y, ys⟩
      · have e := hsf.nil hys
        injection e with e1 e2 e3
        subst e1; subst e2; subst e3
        have hcl : cycL M M.length = [] := List.eq_nil_of_length_eq_zero (by rw [← cyc_len vs M, hys]; rfl)
        have hrev : Hid (Calls Tryz.prog 51 #[.slice (some ⟨g, 0, none⟩) M.length c1] wr fun e' w' => e' = .returned (.tuple #[]) ∧ w'.ownsRow w.heap.size 85 1 (.slice (some ⟨g, 0, none⟩) M.length c1) M.length (M.map topV).reverse ∧ wr.grownBy w' (Value.slice (some ⟨g, 0, none⟩) M.length c1).ownBlock) :=
          reverse_own rvNLays w.heap.size 85 M.length c1 (some ⟨g, 0, none⟩) (M.map topV) wr hx1 (by omega) hown
        have hfin : Hid (∀ w', w'.ownsRow w.heap.size 85 1 (.slice (some ⟨g, 0, none⟩) M.length c1) M.length (M.map topV).reverse → wr.grownBy w' (Value.slice (some ⟨g, 0, none⟩) M.length c1).ownBlock → SortedPost w B M (.returned (.tuple #[.slice (some ⟨g, 0, none⟩) M.length c1, .nilIface])) w') := fun w' h' hg' =>
          (hsf.turnS hg' List.length_reverse (by rw [hxl]; exact h')).postN hB rfl hcl
        clear hsf hown hx1 hxl hrow hm hcl hys
        go_wp2_with fail
        refine (unhide hrev).mono ?_
        rintro e w5 ⟨rfl, h5, hg5⟩
        have hf := Lib.hid (hfin.out w5 h5 hg5)
        clear h5 hg5
        go_wp2_with fail
        go_ret2
        exact hf.out
      · have hm0 : 0 < m := by rw [hm, hys]; simp
        have hcl : cycL M M.length ≠ [] := fun e => by
          have := cyc_len vs M M.length
          rw [hys, e] at this
          simp at this
        have hmc : m = (cycL M M.length).length := by rw [hm, cyc_len]
        have hmk := cycV_le vs M M.length
        have hsco := hsf.sco
        rw [← hm] at hsco
        obtain ⟨gb, rfl, _⟩ := owns_at hsco hm0
        have hy1 : ∀ u ∈ cycV vs M M.length, u.oneCell' = true := by
          have hr := hsf.rows
          rw [rowsUp_end] at hr
          exact (hr.cyc M.length (Nat.le_refl _)).one
        have hrev : Hid (Calls Tryz.prog 66 #[.slice (some ⟨gb, 0, none⟩) m d] wr fun e' w' => e' = .returned (.tuple #[]) ∧ w'.ownsRow w.heap.size 50 1 (.slice (some ⟨gb, 0, none⟩) m d) m (cycV vs M M.length).reverse ∧ wr.grownBy w' (Value.slice (some ⟨gb, 0, none⟩) m d).ownBlock) :=
          reverse_own rvULays w.heap.size 50 m d (some ⟨gb, 0, none⟩) (cycV vs M M.length) wr hy1 (by omega) hsco
        have hfin : Hid (∀ w5, w5.ownsRow w.heap.size 50 1 (.slice (some ⟨gb, 0, none⟩) m d) m (cycV vs M M.length).reverse → wr.grownBy w5 (Value.slice (some ⟨gb, 0, none⟩) m d).ownBlock →
            Hid (Calls Tryz.prog 51 #[.slice (some ⟨g, 0, none⟩) M.length c1] w5 fun e' w' => e' = .returned (.tuple #[]) ∧ w'.ownsRow w.heap.size 85 1 (.slice (some ⟨g, 0, none⟩) M.length c1) M.length (M.map topV).reverse ∧ w5.grownBy w' (Value.slice (some ⟨g, 0, none⟩) M.length c1).ownBlock) ∧
            ∀ w', w'.ownsRow w.heap.size 85 1 (.slice (some ⟨g, 0, none⟩) M.length c1) M.length (M.map topV).reverse → w5.grownBy w' (Value.slice (some ⟨g, 0, none⟩) M.length c1).ownBlock →
              SortedPost w B M (.returned (.tuple #[.slice (some ⟨g, 0, none⟩) M.length c1, .iface 89 (.slice (some ⟨gb, 0, none⟩) m d)])) w') := fun w5 h5 hg5 => by
          have s5 := hsf.turnC hg5 List.length_reverse (by rw [← hm]; exact h5)
          have own5 := s5.own
          rw [hxl] at own5
          exact ⟨reverse_own rvNLays w.heap.size 85 M.length c1 (some ⟨g, 0, none⟩) (M.map topV) w5 hx1 (by omega) own5,
            fun w' h' hg' => (s5.turnS hg' List.length_reverse (by rw [hxl]; exact h')).post hB rfl hmc hcl⟩
        clear hsf hown hx1 hy1 hxl hrow hm hcl hys hsco hmc
        go_wp2_with fail
        refine (unhide hrev).mono ?_
        rintro e w5 ⟨rfl, h5, hg5⟩
        obtain ⟨hrv, hfn⟩ := hfin.out w5 h5 hg5
        have hfnh := Lib.hid hfn
        clear h5 hg5 hfin hfn
        go_wp2_with fail
        refine (unhide hrv).mono ?_
        rintro e w6 ⟨rfl, h6, hg6⟩
        have hf := Lib.hid (hfnh.out w6 h6 hg6)
        clear h6 hg6
        go_wp2_with fail
        go_ret2
        exact hf.out
end Go.Proofs.YthpjmjohdliohaaGreat

namespace Go.Proofs.YthpjmjohdliohaaGreat
open Go.RowKit

/-- What stands for a component in the order: its node, or none. -/
def topO (c : List Int) : Option Int := if c.length = 1 then some (c.headD 0) else none
def nodeO : Option Int → Value
  | some x => nodev x
  | none => .nilIface
theorem topV_eq (c : List Int) : topV c = nodeO (topO c) := by unfold topV topO; split <;> rfl
theorem topV_map (M : List (List Int)) : (M.map topV).reverse = ((M.map topO).reverse).map nodeO := by
  rw [List.map_reverse, List.map_map]
  congr 1
  exact List.map_congr_left fun c _ => topV_eq c

def slotC : Option Int → List Value
  | some x => [.bool false, .int .i64 x]
  | none => [.bool true, .int .i64 0]
def slotCells (os : List (Option Int)) : List Value := os.flatMap slotC
theorem slotC_length (o : Option Int) : (slotC o).length = 2 := by cases o <;> rfl
theorem slotCells_length (os : List (Option Int)) : (slotCells os).length = os.length * 2 := by
  induction os with
  | nil => rfl
  | cons o os ih =>
    unfold slotCells at ih ⊢
    rw [List.flatMap_cons, List.length_append, ih, slotC_length, List.length_cons]
    omega
theorem slotCells_take {os : List (Option Int)} {k : Nat} (hk : k < os.length) : slotCells (os.take (k + 1)) = slotCells (os.take k) ++ slotC os[k] := by
  unfold slotCells
  rw [List.take_succ_eq_append_getElem hk, List.flatMap_append]
  congr 1
  exact List.flatMap_singleton _ _

theorem info_slot : (Tryz.prog.info? 87).map (fun i => (i.zero, i.size, i.bytes)) = some (some (.agg #[.bool false, .int .i64 0]), 2, 16) := by kernel_rfl
theorem new_two (w : World) (x y : Value) (e : TypeId) : ∀ (j : Nat) u, [x, y][j]? = some u → (w.alloc (.cells #[x, y] e)).cell? ((⟨w.heap.size, 0, none⟩ : Addr).add j) = some u := by
  intro j u hj
  rw [Addr.add_mid, Nat.zero_add]
  rcases j with _ | _ | j
  · simp at hj; subst hj; unfold World.cell?; rw [heap_alloc_new]; rfl
  · simp at hj; subst hj; unfold World.cell?; rw [heap_alloc_new]; rfl
  · simp at hj
theorem one_slot (b : Bool) (x : Int) : ∀ u ∈ [Value.bool b, Value.int .i64 x], u.oneCell' = true := by
  intro u hu
  simp at hu
  rcases hu with rfl | rfl <;> rfl

theorem unord_yes (v : Value) (w : World) : (Instr.typeAssert (.iface 89 v) 52 89 true).run Tryz.prog w = .ok (.tuple #[v, .bool true]) w := by
  simp [Instr.typeAssert, run_underlying Tryz.underlying89]

/-- What slots gives. -/
def SlotsPost (w : World) (os : List (Option Int)) (ls : List (List Int)) (e : Ending) (w' : World) : Prop :=
  ∃ (a1 : Option Addr) (c1 : Nat) (a2 : Option Addr) (c2 : Nat) (vs : List Value), e = .returned (.tuple #[.slice a1 os.length c1, .slice a2 ls.length c2, .bool (decide (ls = []))]) ∧
    w'.ownsRow w.heap.size 87 2 (.slice a1 os.length c1) os.length (slotCells os) ∧ w'.ownsRow w.heap.size 22 1 (.slice a2 ls.length c2) ls.length vs ∧ IRows w' w.heap.size vs ls ∧
    (∀ j ∈ blks vs, (Value.slice a2 ls.length c2).ownBlock ≠ some j) ∧ Below w.heap.size w w'

theorem nodeO_get {os : List (Option Int)} {w : World} {b o : Nat} (hr : w.rangeAt b o (os.map nodeO)) {k : Nat} (hk : k < os.length) : w.cell? ⟨b, o + k, none⟩ = some (nodeO os[k]) :=
  hr k _ (by rw [List.getElem?_map, List.getElem?_eq_getElem hk]; rfl)

theorem IRows.base {w : World} {B B' : Nat} {vs : List Value} {l : List (List Int)} (h : IRows w B vs l) (hB : B' ≤ B) : IRows w B' vs l :=
  ⟨h.1, fun k v c hv hc => owns_base (h.2 k v c hv hc) hB⟩

set_option maxRecDepth 100000 in
set_option maxHeartbeats 2000000 in
theorem slots_any (a : Option Addr) (n c S B : Nat) (os : List (Option Int)) (er : Value) (ls : List (List Int)) (w : World) (hn : n = os.length) (ho : os.length ≤ 1000) (hls : ls.length ≤ 1000) (hll : ∀ k (hk : k < ls.length), ls[k].length ≤ 1000)
    (hc : Cells w a (os.map nodeO)) (he : ErrIs w S B ls er) :
    Calls Tryz.prog 21 #[.slice a n c, er] w (SlotsPost w os ls) := by
  subst hn
  have hch := Lib.hid hc
  have heh := Lib.hid he
  have hllh := Lib.hid hll
  clear hc he hll
  go_enter Tryz.func21, Tryz.ntmps21
  go_wp2
  go_loopw [4, 8, 15] (fun s _ i wr => ∃ (k : Nat) (b : Option Addr) (cb : Nat), k ≤ os.length ∧ i = .int .i64 k ∧ s = .slice b k cb ∧ wr.ownsRow w.heap.size 87 2 (.slice b k cb) k (slotCells (os.take k)) ∧ Below w.heap.size w wr) (fun _ _ i _ => os.length - (intOf i).toNat)
  case atStart => exact ⟨0, none, 0, Nat.zero_le _, rfl, rfl, World.ownsRow_nil _ _ _ _, Below.refl _ _⟩
  case round =>
    obtain ⟨k, b, cb, hk, rfl, rfl, hown, hb⟩ := hrel
    by_cases hlt : k < os.length
    · obtain ⟨nb, no, rfl, _, hr⟩ := (hch.out.below hb).at (by rw [List.length_map]; omega)
      have hnd := nodeO_get hr hlt
      have htk := slotCells_take hlt
      obtain ⟨x, hx⟩ : ∃ x, x = os[k] := ⟨_, rfl⟩
      rw [← hx] at hnd htk
      have hBs := hb.size
      have hso := Lib.hid (fun o => hown.alloc o)
      have hfin := Lib.hid (fun o b2 c2 w2 (h2 : w2.ownsRow w.heap.size 87 2 (.slice b2 (k + 1) c2) (k + 1) (slotCells (os.take k) ++ slotC x)) (hg : (wr.alloc o).grownBy w2 (Value.slice b k cb).ownBlock) =>
        show w2.ownsRow w.heap.size 87 2 (.slice b2 (k + 1) c2) (k + 1) (slotCells (os.take (k + 1))) ∧ Below w.heap.size w w2 from
          ⟨by rw [htk]; exact h2, (hb.alloc hBs o).grown hg (by simp; omega) (fun j e => (hown.lt j e).1)⟩)
      clear hx hr hown hb htk
      rcases x with _ | x
      · unfold nodeO at hnd
        unfold slotC at hfin
        go_wp2_with (at_builtin; refine append_law 27 87 (.agg #[.bool false, .int .i64 0]) 2 16 Tryz.underlying27 info_slot rfl (by omega) (by omega) rfl _ _ rfl w.heap.size b k cb (slotCells (os.take k)) rfl (unhide hso _) ⟨wr.heap.size, 0, none⟩ 1 1 [.bool true, .int .i64 0] rfl rfl (new_two wr _ _ _) (one_slot _ _) (by omega) (by simp; omega) ?_; intro b2 c2 w2 hown2 hg2 hat2; have hf := Lib.hid (unhide hfin _ _ _ _ hown2 hg2); clear hown2 hg2 hat2)
        go_roundw
        case rel => exact ⟨k + 1, b2, c2, by omega, by go_num, rfl, hf.out.1, hf.out.2⟩
        case measure => simp [intOf]; omega
      · unfold nodeO nodev at hnd
        unfold slotC at hfin
        go_wp2_with (first
          | (go_at_call 41; refine (number_any _ _).mono ?_; rintro e w' ⟨rfl, rfl⟩)
          | (at_builtin; refine append_law 27 87 (.agg #[.bool false, .int .i64 0]) 2 16 Tryz.underlying27 info_slot rfl (by omega) (by omega) rfl _ _ rfl w.heap.size b k cb (slotCells (os.take k)) rfl (unhide hso _) ⟨wr.heap.size, 0, none⟩ 1 1 [.bool false, .int .i64 x] rfl rfl (new_two wr _ _ _) (one_slot _ _) (by omega) (by simp; omega) ?_; intro b2 c2 w2 hown2 hg2 hat2; have hf := Lib.hid (unhide hfin _ _ _ _ hown2 hg2); clear hown2 hg2 hat2))
        go_roundw
        case rel => exact ⟨k + 1, b2, c2, by omega, by go_num, rfl, hf.out.1, hf.out.2⟩
        case measure => simp [intOf]; omega
    · have hkn : k = os.length := by omega
      subst hkn
      rw [List.take_length] at hown
      have hwl := hb.size
      rcases heh.out with ⟨rfl, rfl⟩ | ⟨hne, b4, c4, vs4, rfl, ho4, hr4⟩
      · have hfin : Hid (SlotsPost w os [] (.returned (.tuple #[.slice b os.length cb, .slice none 0 0, .bool true])) wr) :=
          ⟨b, cb, none, 0, [], rfl, hown, World.ownsRow_nil _ _ _ _, ⟨rfl, fun k v c hv => by simp at hv⟩, by simp [blks], hb⟩
        clear hown hb
        go_wp2_with fail
        go_ret3
        exact hfin.out
      · obtain ⟨wa, hwa⟩ : ∃ wa, wa = wr := ⟨_, rfl⟩
        subst hwa
        obtain ⟨D, hD⟩ : ∃ D, D = wa.heap.size := ⟨_, rfl⟩
        have hDh := Lib.hid hD
        have hownh := Lib.hid hown
        have hbh := Lib.hid hb
        have hrow : Hid (∀ (j : Nat) (hj : j < ls.length), ∃ g4 ag cg, b4 = some ⟨g4, 0, none⟩ ∧ ∀ W, Below D wa W → W.cell? ⟨g4, j, none⟩ = some (.slice ag ls[j].length cg) ∧ Cells W ag (nodes ls[j])) := fun j hj => by
          have hv : vs4[j]? = some (vs4[j]'(by rw [hr4.1]; exact hj)) := List.getElem?_eq_getElem _
          have hrw := hr4.2 j _ _ hv (List.getElem?_eq_getElem hj)
          obtain ⟨g4, rfl, _⟩ := owns_at ho4 (by omega)
          have hcell := owns_cell ho4 hv
          obtain ⟨ag, cg, e, _, hcs, _⟩ := owns_cells hrw
          rw [e] at hcell
          refine ⟨g4, ag, cg, rfl, fun W hW => ?_⟩
          have hW' : Below wa.heap.size wa W := by rw [← hD]; exact hW
          have hw' : Below w.heap.size w W := hb.trans (hW'.mono hwl)
          exact ⟨cell_below hw' hcell, hcs.below hw'⟩
        have hfalse : decide (ls = []) = false := decide_eq_false hne
        have hta := unord_yes
        clear ho4 hr4 hown hb hD
        go_wp2_with fail
        clear hta
        go_loopw [5, 12, 42] (fun s _ i wr2 => ∃ (k : Nat) (b2 : Option Addr) (cb2 : Nat) (vs2 : List Value), k ≤ ls.length ∧ i = .int .i64 k ∧ s = .slice b2 k cb2 ∧ wr2.ownsRow D 22 1 (.slice b2 k cb2) k vs2 ∧ IRows wr2 D vs2 (ls.take k) ∧
          (∀ j ∈ blks vs2, (Value.slice b2 k cb2).ownBlock ≠ some j) ∧ Below D wa wr2) (fun _ _ i _ => ls.length - (intOf i).toNat)
        case atStart => exact ⟨0, none, 0, [], Nat.zero_le _, rfl, rfl, World.ownsRow_nil _ _ _ _, ⟨rfl, fun k v c hv => by simp at hv⟩, by simp [blks], Below.refl _ _⟩
        case round =>
          obtain ⟨k, b2, cb2, vs2, hk, rfl, rfl, hown2, hir, hdis, hb2⟩ := hrel
          have hsz2 := hb2.size
          by_cases hlt : k < ls.length
          · obtain ⟨g4, ag, cg, rfl, hat⟩ := hrow.out k hlt
            obtain ⟨hcell, hcs⟩ := hat wr hb2
            have hll := hllh.out k hlt
            obtain ⟨cl, hcle⟩ : ∃ cl, cl = ls[k] := ⟨_, rfl⟩
            rw [← hcle] at hcell hcs hll
            have htk : Hid (ls.take (k + 1) = ls.take k ++ [cl]) := by unfold Hid; rw [List.take_succ_eq_append_getElem hlt, hcle]
            have hnum := Lib.hid (numbers_any ag cl.length cg cl wr rfl (by omega) hcs)
            have hDw : D ≤ wr.heap.size := by rw [hDh.out]; exact hsz2
            have hownh2 := Lib.hid hown2
            have hirh := Lib.hid hir
            have hdish := Lib.hid hdis
            have hbh2 := Lib.hid hb2
            clear hcle hcs hown2 hir hdis hb2 hat
            go_wp2_with fail
            refine (unhide hnum).mono ?_
            rintro e w5 ⟨ax, cx, rfl, own5, hb5⟩
            obtain ⟨o6, hD6, hst⟩ := irow_step (o := .cells #[.slice ax cl.length cx] 22) (c := cl) rfl hownh2.out hirh.out hdish.out hb5 own5 (World.grownBy.refl _ _) hDw
            have ho6 := Lib.hid (fun o => o6.alloc o)
            clear own5 hb5 o6 hnum hcell
            go_wp2_with (at_builtin; refine append_law 28 22 (.slice none 0 0) 1 24 Tryz.underlying28 info_irow rfl (by omega) (by omega) rfl _ _ rfl D b2 k cb2 vs2 rfl (ho6.out _) ⟨w5.heap.size, 0, none⟩ 1 1 [.slice ax cl.length cx] rfl rfl (new_one w5 _ _) (one_row _ _ _) (by omega) (by simp; omega) ?_; intro b3 c3 w7 hown7 hg7 hat7; have hq := Lib.hid (hst.out w7 b3 c3 hg7 hown7 hat7); have hown7h := Lib.hid hown7; clear hown7 hg7 hat7 ho6)
            go_roundw
            case rel => exact ⟨k + 1, b3, c3, _, by omega, by go_num, rfl, hown7h.out, by rw [htk.out]; exact hq.out.1, hq.out.2.1, hbh2.out.trans hq.out.2.2⟩
            case measure => simp [intOf]; omega
          · have hkn : k = ls.length := by omega
            subst hkn
            rw [List.take_length] at hir
            have hb2' : Below wa.heap.size wa wr := by rw [← hDh.out]; exact hb2
            have hD0 : w.heap.size ≤ D := by rw [hDh.out]; exact hwl
            have hfin : Hid (SlotsPost w os ls (.returned (.tuple #[.slice b os.length cb, .slice b2 ls.length cb2, .bool false])) wr) :=
              ⟨b, cb, b2, cb2, vs2, by rw [hfalse], owns_same hownh.out fun j hj => hb2'.block j (hownh.out.lt j hj).2, owns_base hown2 hD0, hir.base hD0, hdis, hbh.out.trans (hb2'.mono hwl)⟩
            clear hown2 hir hdis hb2 hb2'
            go_wp2_with fail
            go_ret3
            exact hfin.out
end Go.Proofs.YthpjmjohdliohaaGreat

namespace Go.Proofs.YthpjmjohdliohaaGreat
open Go.RowKit

/-- What topo.Sort gives. -/
def TSortPost (w : World) (M : List (List Int)) (e : Ending) (w' : World) : Prop :=
  ∃ (a : Option Addr) (c S B : Nat) (er : Value), e = .returned (.tuple #[.slice a M.length c, er]) ∧ Cells w' a (((M.map topO).reverse).map nodeO) ∧ ErrIs w' S B (cycL M M.length).reverse er ∧ Below w.heap.size w w'

set_option maxRecDepth 100000 in
theorem tsort_any (pb : Nat) (ids : List Int) (outs ins : List (List Arc)) (w : World) (hids : ids.length ≤ 1000) (h64 : ∀ x ∈ ids, In64 x) (hp : PlainAt w pb ids outs ins) (hM : (sccsOf (succOf ids outs) ids).length ≤ 1000)
    (hl : ∀ c ∈ sccsOf (succOf ids outs) ids, c.length ≤ 1000) :
    Calls Tryz.prog 20 #[.iface 47 (.agg #[.pointer (some ⟨pb, 0, none⟩)])] w (TSortPost w (sccsOf (succOf ids outs) ids)) := by
  have hs := Lib.hid (tarjanScc_any pb ids outs ins w hids h64 hp)
  obtain ⟨M, hMe⟩ : ∃ M, M = sccsOf (succOf ids outs) ids := ⟨_, rfl⟩
  rw [← hMe] at hs hM hl ⊢
  have hlh : Hid (∀ k (hk : k < M.length), M[k].length ≤ 1000) := fun k hk => hl _ (List.getElem_mem hk)
  clear hp h64 hl hMe
  go_enter Tryz.func20, Tryz.ntmps20
  go_wp2_with fail
  refine (unhide hs).mono ?_
  rintro e w1 ⟨a, c, B, vs, rfl, hwB, hov, hrows, hap, hnd, hB, hb⟩
  have hsf := Lib.hid (sortedFrom_any a c B vs M w1 hM hlh.out hov hrows hap hnd hB)
  have hbh := Lib.hid hb
  clear hs hov hrows hap hnd hb
  go_wp2_with fail
  refine (unhide hsf).mono ?_
  rintro e w2 ⟨a2, c2, er, rfl, ho2, he2, hb2⟩
  have hfin : Hid (TSortPost w M (.returned (.tuple #[.slice a2 M.length c2, er])) w2) := by
    obtain ⟨a3, c3, e3, _, hcs, _⟩ := owns_cells ho2
    injection e3 with e4 _ e5
    subst e4
    exact ⟨a2, c2, w1.heap.size, B, er, rfl, by rw [← topV_map]; exact hcs, he2, hbh.out.trans (hb2.mono hwB)⟩
  clear ho2 he2 hb2 hsf
  go_wp2_with fail
  go_ret2
  exact hfin.out

/-- What impl.Sort gives of a graph that is none too bad. -/
def SortRes (w : World) (M : List (List Int)) (e : Ending) (w' : World) : Prop :=
  ∃ (a1 : Option Addr) (c1 : Nat) (a2 : Option Addr) (c2 B : Nat) (vs : List Value), e = .returned (.tuple #[.slice a1 M.length c1, .slice a2 (cycL M M.length).length c2, .bool (decide (cycL M M.length = [])), .bool false]) ∧
    w'.ownsRow B 87 2 (.slice a1 M.length c1) M.length (slotCells (M.map topO).reverse) ∧ w'.ownsRow B 22 1 (.slice a2 (cycL M M.length).length c2) (cycL M M.length).length vs ∧ IRows w' B vs (cycL M M.length).reverse ∧
    w.heap.size ≤ B ∧ Below w.heap.size w w'

theorem cycL_le (M : List (List Int)) : ∀ k, (cycL M k).length ≤ k
  | 0 => Nat.le_refl _
  | k + 1 => by
    have := cycL_le M k
    unfold cycL
    split
    · omega
    · rw [List.length_append, List.length_singleton]; omega
theorem cycL_mem {M : List (List Int)} {c : List Int} : ∀ {k : Nat}, c ∈ cycL M k → ∃ d, (d = [] ∨ d ∈ M) ∧ c = asc d
  | 0, h => by cases h
  | k + 1, h => by
    unfold cycL at h
    split at h
    · exact cycL_mem h
    · rcases List.mem_append.1 h with h | h
      · exact cycL_mem h
      · refine ⟨M.getD k [], ?_, List.mem_singleton.1 h⟩
        by_cases hk : k < M.length
        · right; simp [hk]
        · left; simp [Nat.le_of_not_lt hk]

/-- The components of a graph, as Tarjan's algorithm finds them. -/
def gComps (g : Gr) : List (List Int) := sccsOf (gSucc g) (asc g.nodes)

set_option maxRecDepth 100000 in
set_option maxHeartbeats 2000000 in
theorem sort_any (g : Gr) (an : Option Addr) (cn : Nat) (ae : Option Addr) (ce : Nat) (w : World) (hn : g.nodes.length ≤ 1000) (he : g.edges.length ≤ 1048576) (hg : GrAt w g an cn ae) (hok : okGraph g = true) (hd : g.dir = true) (h64 : ∀ x ∈ g.nodes, In64 x) :
    Calls Tryz.prog 7 #[.agg #[.bool g.dir, .slice an g.nodes.length cn, .slice ae g.edges.length ce]] w (SortRes w (gComps g)) := by
  have how := oneWay_any g an cn ae ce (w.alloc (.cells #[.bool g.dir, .slice an g.nodes.length cn, .slice ae g.edges.length ce] 25)) (by omega) he (hg.below (alloc_below w _))
  have howh := Lib.hid how
  have hokh := Lib.hid hok
  have hdh := Lib.hid hd
  have h64h := Lib.hid h64
  have hids : (asc g.nodes).length ≤ 1000 := by rw [asc_length]; exact hn
  have hsok := Lib.hid (sccs_ok (ids := asc g.nodes) (succ := gSucc g) (fun x hx y hy => by
    have := (gSucc_mem hok (asc_mem.1 hx)).1 hy
    exact asc_mem.2 this.1))
  have hfl : (gComps g).flatten.length ≤ 1000 := by
    have h1 := hsok.out.nd
    have h2 := nodup_len h1 (fun x hx => (hsok.out.mem x).1 hx)
    show (sccsOf (gSucc g) (asc g.nodes)).flatten.length ≤ 1000
    omega
  have hLl : (gComps g).length ≤ 1000 := by
    have h2 : (gComps g).length ≤ (gComps g).flatten.length := flatten_len hsok.out.ne
    omega
  have hcl : Hid (∀ k (hk : k < (gComps g).length), (gComps g)[k].length ≤ 1000) := fun k hk => by have := mem_len (List.getElem_mem hk); omega
  have hcl2 : Hid (∀ k (hk : k < (cycL (gComps g) (gComps g).length).reverse.length), (cycL (gComps g) (gComps g).length).reverse[k].length ≤ 1000) := fun k hk => by
    have hm := List.mem_reverse.1 (List.getElem_mem hk)
    obtain ⟨d, hd', e⟩ := cycL_mem hm
    rw [e, asc_length]
    rcases hd' with rfl | hd'
    · exact Nat.zero_le _
    · have := mem_len hd'; omega
  clear how hok hd h64 hg hsok hfl
  go_enter Tryz.func7, Tryz.ntmps7
  go_wp2_with fail
  refine (unhide howh).mono ?_
  rintro e w1 ⟨pb, rfl, hb1, hp⟩
  rw [hokh.out, hdh.out]
  have hp1 := hp hokh.out
  have hb1' : Below w.heap.size w w1 := (alloc_below w _).trans (hb1.mono (by simp))
  have hts := Lib.hid (fun o => tsort_any pb (asc g.nodes) _ _ (w1.alloc o) hids (fun x hx => h64h.out x (asc_mem.1 hx)) (hp1.below (alloc_below w1 o)) hLl (fun c hc => by obtain ⟨k, hk, e⟩ := List.mem_iff_getElem.1 hc; rw [← e]; exact hcl.out k hk))
  have hb1h := Lib.hid hb1'
  clear hb1 hp hp1 hb1' howh
  go_wp2_with fail
  refine (hts.out _).mono ?_
  rintro e w4 ⟨a, c, S, B, er, rfl, hcs, her, hb4⟩
  have hLs : sccsOf (succOf (asc g.nodes) (tabs bitsOf (asc g.nodes) g.dir g.edges).1) (asc g.nodes) = gComps g := rfl
  rw [hLs] at hcs her ⊢
  obtain ⟨M, hM⟩ : ∃ M, M = gComps g := ⟨_, rfl⟩
  rw [← hM] at hcs her hLl hcl2 ⊢
  have hcy := cycL_le M M.length
  have hsl := Lib.hid (slots_any a M.length c S B (M.map topO).reverse er (cycL M M.length).reverse w4 (by rw [List.length_reverse, List.length_map]) (by rw [List.length_reverse, List.length_map]; exact hLl) (by rw [List.length_reverse]; omega) hcl2.out hcs her)
  have hbw : Hid (Below w.heap.size w w4) := hb1h.out.trans (((alloc_below w1 _).trans (hb4.mono (by simp))).mono hb1h.out.size)
  have hMh := Lib.hid hM
  clear hts hcs her hb4 hLs hcl hcl2 hM hcy
  go_wp2_with fail
  refine (unhide hsl).mono ?_
  rintro e w5 ⟨a1, c1, a2, c2, vs, rfl, ho5, hv5, hr5, _, hb5⟩
  have e1 : ((M.map topO).reverse).length = M.length := by rw [List.length_reverse, List.length_map]
  have e2 : (cycL M M.length).reverse.length = (cycL M M.length).length := List.length_reverse
  have e3 : decide ((cycL M M.length).reverse = []) = decide (cycL M M.length = []) := by simp
  rw [e1] at ho5 ⊢
  rw [e2] at hv5 ⊢
  rw [e3]
  have hfin : Hid (SortRes w (gComps g) (.returned (.tuple #[.slice a1 M.length c1, .slice a2 (cycL M M.length).length c2, .bool (decide (cycL M M.length = [])), .bool false])) w5) := by
    rw [← hMh.out]
    exact ⟨a1, c1, a2, c2, w4.heap.size, vs, rfl, ho5, hv5, hr5, hbw.out.size, hbw.out.trans (hb5.mono hbw.out.size)⟩
  obtain ⟨n2, hn2⟩ : ∃ n2, n2 = (cycL M M.length).length := ⟨_, rfl⟩
  obtain ⟨q, hq⟩ : ∃ q, q = decide (cycL M M.length = []) := ⟨_, rfl⟩
  rw [← hn2, ← hq] at hfin ⊢
  clear ho5 hv5 hr5 hb5 hsl e1 e2 e3 hn2 hq
  go_wp2_with fail
  go_returns
  exact hfin.out
end Go.Proofs.YthpjmjohdliohaaGreat
