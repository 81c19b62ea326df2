/- slices.SortFunc at []graph.Node, as order.ByID calls it: the shelf's contract laid at this program; what is in order stays as it is. -/
import Derived.Test.YtfihclhceakmdaaGreatFrom
import Derived.Shelf.SlSortCmp.NoneTotal
import Derived.Test.YtfihclhceakmdaaGreatShelf
import Derived.Handy
namespace Go.Proofs.YtfihclhceakmdaaGreat
open Go.RowKit Go.Shelf Go.Sort Go.Lib

def sfRen : Go.Shelf.Ren := ⟨fun | 6 => 50 | 14 => 58 | 15 => 54 | 20 => 84 | 21 => 85 | 22 => 86 | 23 => 87 | 24 => 88 | 25 => 89 | 26 => 90 | 27 => 91 | 28 => 69 | 29 => 70 | 46 => 103 | 47 => 93 | 48 => 94 | 49 => 104 | 50 => 105 | 57 => 109 | n => n, fun | 0 => 0 | 3 => 3 | 4 => 4 | 5 => 5 | 9 => 9 | 22 => 116 | 24 => 97 | 25 => 141 | 39 => 144 | 45 => 152 | 46 => 153 | 50 => 127 | 53 => 160 | 55 => 87 | 66 => 178 | 70 => 182 | 76 => 191 | 77 => 192 | n => n, fun | n => n⟩
theorem sfLays : Go.Proofs.SlLaysF.n6 Tryz.prog sfRen := {
  mixed := by kernel_rfl
  f6 := ⟨Tryz.f50.name, by decide, Tryz.func50.trans (congrArg some (by kernel_rfl))⟩
  f14 := ⟨Tryz.f58.name, by decide, Tryz.func58.trans (congrArg some (by kernel_rfl))⟩
  f15 := Tryz.func54.trans (congrArg some (by kernel_rfl))
  f20 := ⟨Tryz.f84.name, by decide, Tryz.func84.trans (congrArg some (by kernel_rfl))⟩
  f21 := ⟨Tryz.f85.name, by decide, Tryz.func85.trans (congrArg some (by kernel_rfl))⟩
  f22 := ⟨Tryz.f86.name, by decide, Tryz.func86.trans (congrArg some (by kernel_rfl))⟩
  f23 := ⟨Tryz.f87.name, by decide, Tryz.func87.trans (congrArg some (by kernel_rfl))⟩
  f24 := ⟨Tryz.f88.name, by decide, Tryz.func88.trans (congrArg some (by kernel_rfl))⟩
  f25 := ⟨Tryz.f89.name, by decide, Tryz.func89.trans (congrArg some (by kernel_rfl))⟩
  f26 := ⟨Tryz.f90.name, by decide, Tryz.func90.trans (congrArg some (by kernel_rfl))⟩
  f27 := ⟨Tryz.f91.name, by decide, Tryz.func91.trans (congrArg some (by kernel_rfl))⟩
  f28 := Tryz.func69.trans (congrArg some (by kernel_rfl))
  f29 := Tryz.func70.trans (congrArg some (by kernel_rfl))
  f46 := ⟨Tryz.f103.name, by decide, Tryz.func103.trans (congrArg some (by kernel_rfl))⟩
  f47 := Tryz.func93.trans (congrArg some (by kernel_rfl))
  f48 := Tryz.func94.trans (congrArg some (by kernel_rfl))
  f49 := ⟨Tryz.f104.name, by decide, Tryz.func104.trans (congrArg some (by kernel_rfl))⟩
  f50 := ⟨Tryz.f105.name, by decide, Tryz.func105.trans (congrArg some (by kernel_rfl))⟩
  f57 := ⟨Tryz.f109.name, by decide, Tryz.func109.trans (congrArg some (by kernel_rfl))⟩
  t0 := Tryz.underlying0
  a0 := Tryz.isAgg0
  z0 := Tryz.sizeOf0
  v0 := Tryz.zeroValue0
  t3 := Tryz.underlying3
  a3 := Tryz.isAgg3
  z3 := Tryz.sizeOf3
  v3 := Tryz.zeroValue3
  t4 := Tryz.underlying4
  a4 := Tryz.isAgg4
  z4 := Tryz.sizeOf4
  v4 := Tryz.zeroValue4
  t5 := Tryz.underlying5
  a5 := Tryz.isAgg5
  z5 := Tryz.sizeOf5
  v5 := Tryz.zeroValue5
  t9 := Tryz.underlying9
  a9 := Tryz.isAgg9
  z9 := Tryz.sizeOf9
  v9 := Tryz.zeroValue9
  t22 := Tryz.underlying116
  a22 := Tryz.isAgg116
  z22 := Tryz.sizeOf116
  v22 := Tryz.zeroValue116
  a24 := Tryz.isAgg97
  z24 := Tryz.sizeOf97
  t25 := Tryz.underlying141
  a25 := Tryz.isAgg141
  z25 := Tryz.sizeOf141
  v25 := Tryz.zeroValue141
  t39 := Tryz.underlying144
  a39 := Tryz.isAgg144
  z39 := Tryz.sizeOf144
  v39 := Tryz.zeroValue144
  t45 := Tryz.underlying152
  a45 := Tryz.isAgg152
  z45 := Tryz.sizeOf152
  v45 := Tryz.zeroValue152
  t46 := Tryz.underlying153
  a46 := Tryz.isAgg153
  z46 := Tryz.sizeOf153
  v46 := Tryz.zeroValue153
  t50 := Tryz.underlying127
  a50 := Tryz.isAgg127
  z50 := Tryz.sizeOf127
  v50 := Tryz.zeroValue127
  t53 := Tryz.underlying160
  a53 := Tryz.isAgg160
  z53 := Tryz.sizeOf160
  v53 := Tryz.zeroValue160
  t55 := Tryz.underlying87
  a55 := Tryz.isAgg87
  z55 := Tryz.sizeOf87
  v55 := Tryz.zeroValue87
  t66 := Tryz.underlying178
  a66 := Tryz.isAgg178
  z66 := Tryz.sizeOf178
  v66 := Tryz.zeroValue178
  t70 := Tryz.underlying182
  a70 := Tryz.isAgg182
  z70 := Tryz.sizeOf182
  v70 := Tryz.zeroValue182
  t76 := Tryz.underlying191
  a76 := Tryz.isAgg191
  z76 := Tryz.sizeOf191
  v76 := Tryz.zeroValue191
  t77 := Tryz.underlying192
  a77 := Tryz.isAgg192
  z77 := Tryz.sizeOf192
  v77 := Tryz.zeroValue192 }

/-- What the comparison says. -/
def cmpI (x y : Int) : Int := if x < y then -1 else if y < x then 1 else 0

theorem compare_any (x y : Int) (w : World) : Calls Tryz.prog 52 #[.int .i64 x, .int .i64 y] w fun e w' => e = .returned (.int .i64 (cmpI x y)) ∧ w = w' := by
  unfold cmpI
  by_cases h1 : x < y
  · rw [if_pos h1]
    go_enter Tryz.func52, Tryz.ntmps52
    go_wp2_with (go_at_call 59; refine (isNaN_any _ _).mono ?_; rintro e w' ⟨rfl, rfl⟩)
    go_ret
    exact ⟨rfl, rfl⟩
  · rw [if_neg h1]
    by_cases h2 : y < x
    · rw [if_pos h2]
      go_enter Tryz.func52, Tryz.ntmps52
      go_wp2_with (go_at_call 59; refine (isNaN_any _ _).mono ?_; rintro e w' ⟨rfl, rfl⟩)
      go_ret
      exact ⟨rfl, rfl⟩
    · rw [if_neg h2]
      go_enter Tryz.func52, Tryz.ntmps52
      go_wp2_with (go_at_call 59; refine (isNaN_any _ _).mono ?_; rintro e w' ⟨rfl, rfl⟩)
      go_ret
      exact ⟨rfl, rfl⟩

theorem byId_cmp (x y : Int) (w : World) : Calls Tryz.prog 51 #[nodev x, nodev y] w fun e w' => e = .returned (.int .i64 (cmpI x y)) ∧ w = w' := by
  unfold nodev
  go_enter Tryz.func51, Tryz.ntmps51
  go_wp2_with (first
    | (go_at_call 204; refine (id_any _ _).mono ?_; rintro e w' ⟨rfl, rfl⟩)
    | (go_at_call 52; refine (compare_any _ _ _).mono ?_; rintro e w' ⟨rfl, rfl⟩))
  go_ret
  exact ⟨rfl, rfl⟩

theorem holds_nodes {w : World} {base e n cap g : Nat} {zs : List Int} (h : w.ownsRow base e 1 (.slice (some ⟨g, 0, none⟩) n cap) n (nodes zs)) : Holds nodev w g 0 zs.toArray := by
  intro j hj
  have hj' : j < zs.length := by simpa using hj
  rw [Nat.zero_add]
  refine ⟨?_, owns_free h j⟩
  have e : zs.toArray[j]! = zs[j] := by simp [hj']
  rw [e]
  exact owns_cell h (nodes_get zs j hj')

theorem owns_putN {w : World} {base e n cap g k : Nat} {os : Array Obj} {zs ys : List Int} (h : w.ownsRow base e 1 (.slice (some ⟨g, 0, none⟩) n cap) n (nodes zs)) (hl : ys.length = zs.length) :
    (grow (putRow nodev (Sort.ahead w k) g 0 ys.toArray) os).ownsRow base e 1 (.slice (some ⟨g, 0, none⟩) n cap) n (nodes ys) := by
  have hzl : (nodes zs).length = n * 1 := h.1
  have hzs : zs.length = n := by rw [nodes_length] at hzl; omega
  obtain ⟨_, h | ⟨g', cap', cur, hv, hg, hh, hn, hm, hs, ht⟩⟩ := h
  · simp at h
  · injection hv with hv _ hcap
    injection hv with hv
    injection hv with hv _ _
    subst hv; subst hcap
    refine ⟨by rw [nodes_length, hl, hzs, Nat.mul_one], .inr ⟨g, cap, putCells nodev 0 ys.toArray cur, rfl, hg, ?_, hn, hm, by simp [putCells, hs], ?_⟩⟩
    · have hgl : g < w.heap.size := lt_of_block hh
      rw [heap_grow_old _ _ (by simpa using hgl)]
      simp [putRow, mapBlock, Sort.ahead, Array.getElem?_modify, hh, onCells]
    · apply List.ext_getElem?
      intro j
      by_cases hj : j < n
      · rw [List.getElem?_take_of_lt (by omega), Array.getElem?_toList]
        simp [putCells, nodes, hl, hzs, hj, show j < cur.size by omega]
      · rw [List.getElem?_take_eq_none (by omega), List.getElem?_eq_none (by rw [nodes_length]; omega)]

theorem grown_putN {w : World} {g n : Nat} {os : Array Obj} (d : Array Int) : w.grownBy (grow (putRow nodev (Sort.ahead w n) g 0 d) os) (some g) := by
  refine ⟨rfl, rfl, rfl, by simp, fun k hk hne => ?_⟩
  rw [heap_grow_old _ _ (by simpa using hk)]
  have : g ≠ k := fun e => hne (by rw [e])
  simp [putRow, mapBlock, Sort.ahead, Array.getElem?_modify, this]

theorem cmpI_lt (x y : Int) : ltOf cmpI x y = decide (x < y) := by
  unfold ltOf cmpI
  by_cases h1 : x < y
  · simp [h1]
  · by_cases h2 : y < x <;> simp [h1, h2]

theorem cmpI_swo : SWO (ltOf cmpI) where
  irrefl := fun x => by rw [cmpI_lt]; simp
  trans := fun x y z h1 h2 => by rw [cmpI_lt] at *; simp at *; omega
  ntrans := fun x y z h1 h2 => by rw [cmpI_lt] at *; simp at *; omega

set_option maxRecDepth 100000 in
theorem sortN_any (base n cap : Nat) (a : Option Addr) (zs : List Int) (w : World) (hn : n ≤ 1048576) (hown : w.ownsRow base 97 1 (.slice a n cap) n (nodes zs)) :
    Calls Tryz.prog 50 #[.slice a n cap, .func (.func 51) #[] #[]] w
      fun e w' => e = .returned (.tuple #[]) ∧ w'.ownsRow base 97 1 (.slice a n cap) n (nodes (asc zs)) ∧ w.grownBy w' (Value.slice a n cap).ownBlock := by
  have hl : zs.length = n := by have := hown.1; rw [nodes_length] at this; omega
  by_cases h0 : n = 0
  · subst h0
    have hz : zs = [] := List.eq_nil_of_length_eq_zero hl
    subst hz
    refine (AnyF.slices_SortFunc_none (P := Tryz.prog) (ρ := sfRen) { sfLays with } a cap _ w).mono ?_
    rintro e w' ⟨rfl, rfl⟩
    exact ⟨rfl, by simpa [asc] using hown, World.grownBy.refl _ _⟩
  · obtain ⟨g, rfl, _, hg, _⟩ := owns_at hown (by omega)
    subst hl
    refine (Any.slices_SortFunc_total (P := Tryz.prog) (ρ := sfRen) sfLays nodev (fun _ => rfl) cmpI cmpI_swo _ #[] g 0 cap zs.toArray w (fun args w => by simp [go_sem]) (CmpReads.lays (fun m os dk _ x y => ?_)) (holds_nodes hown) hg (by simp; omega) (fun x y h1 h2 => by rw [cmpI_lt] at *; simp at *; omega)).mono ?_
    · refine (byId_cmp x y _).mono ?_
      rintro e w' ⟨rfl, rfl⟩
      exact ⟨rfl, 0, rfl⟩
    · rintro e w' ⟨rfl, k, os, rfl⟩
      have e1 : (zs.toArray.toList.mergeSort fun x y => !ltOf cmpI y x) = asc zs := by
        unfold asc
        congr 1
        funext x y
        rw [cmpI_lt]
        by_cases h : y < x
        · simp [h]
        · simp [h]; omega
      rw [e1]
      exact ⟨rfl, owns_putN hown (asc_length zs), grown_putN _⟩

set_option maxRecDepth 100000 in
theorem byId_any (base n cap : Nat) (a : Option Addr) (zs : List Int) (w : World) (hn : n ≤ 1048576) (hown : w.ownsRow base 97 1 (.slice a n cap) n (nodes zs)) :
    Calls Tryz.prog 41 #[.slice a n cap] w
      fun e w' => e = .returned (.tuple #[]) ∧ w'.ownsRow base 97 1 (.slice a n cap) n (nodes (asc zs)) ∧ w.grownBy w' (Value.slice a n cap).ownBlock := by
  have h := Lib.hid (sortN_any base n cap a zs w hn hown)
  clear hown
  go_enter Tryz.func41, Tryz.ntmps41
  go_wp2_with fail
  refine (unhide h).mono ?_
  rintro e w' ⟨rfl, h1, h2⟩
  go_wp2_with fail
  go_end0
  exact ⟨rfl, h1, h2⟩
end Go.Proofs.YtfihclhceakmdaaGreat
