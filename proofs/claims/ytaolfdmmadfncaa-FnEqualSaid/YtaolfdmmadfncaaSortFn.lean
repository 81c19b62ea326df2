/- slices.SortFunc at []graph.Node, as order.ByID calls it: the shelf's contract laid at this program; what is in order stays as it is. -/
import Derived.Test.YtaolfdmmadfncaaFrom
import Derived.Shelf.SlSortCmp.NoneTotal
import Derived.Test.YtaolfdmmadfncaaShelf
import Derived.Handy
namespace Go.Proofs.Ytaolfdmmadfncaa
open Go.RowKit Go.Shelf Go.Sort Go.Lib

def sfRen : Go.Shelf.Ren := ⟨fun | 6 => 33 | 14 => 45 | 15 => 43 | 20 => 62 | 21 => 63 | 22 => 64 | 23 => 65 | 24 => 66 | 25 => 67 | 26 => 68 | 27 => 69 | 28 => 57 | 29 => 58 | 46 => 77 | 47 => 71 | 48 => 72 | 49 => 78 | 50 => 79 | 57 => 82 | n => n, fun | 0 => 0 | 3 => 3 | 4 => 4 | 5 => 5 | 9 => 9 | 22 => 67 | 24 => 71 | 25 => 101 | 39 => 113 | 45 => 122 | 46 => 123 | 50 => 74 | 53 => 129 | 55 => 131 | 66 => 142 | 70 => 146 | 76 => 152 | 77 => 153 | n => n, fun | n => n⟩
theorem sfLays : Go.Proofs.SlLaysF.n6 Try.prog sfRen := {
  mixed := by kernel_rfl
  f6 := ⟨Try.f33.name, by decide, Try.func33.trans (congrArg some (by kernel_rfl))⟩
  f14 := ⟨Try.f45.name, by decide, Try.func45.trans (congrArg some (by kernel_rfl))⟩
  f15 := Try.func43.trans (congrArg some (by kernel_rfl))
  f20 := ⟨Try.f62.name, by decide, Try.func62.trans (congrArg some (by kernel_rfl))⟩
  f21 := ⟨Try.f63.name, by decide, Try.func63.trans (congrArg some (by kernel_rfl))⟩
  f22 := ⟨Try.f64.name, by decide, Try.func64.trans (congrArg some (by kernel_rfl))⟩
  f23 := ⟨Try.f65.name, by decide, Try.func65.trans (congrArg some (by kernel_rfl))⟩
  f24 := ⟨Try.f66.name, by decide, Try.func66.trans (congrArg some (by kernel_rfl))⟩
  f25 := ⟨Try.f67.name, by decide, Try.func67.trans (congrArg some (by kernel_rfl))⟩
  f26 := ⟨Try.f68.name, by decide, Try.func68.trans (congrArg some (by kernel_rfl))⟩
  f27 := ⟨Try.f69.name, by decide, Try.func69.trans (congrArg some (by kernel_rfl))⟩
  f28 := Try.func57.trans (congrArg some (by kernel_rfl))
  f29 := Try.func58.trans (congrArg some (by kernel_rfl))
  f46 := ⟨Try.f77.name, by decide, Try.func77.trans (congrArg some (by kernel_rfl))⟩
  f47 := Try.func71.trans (congrArg some (by kernel_rfl))
  f48 := Try.func72.trans (congrArg some (by kernel_rfl))
  f49 := ⟨Try.f78.name, by decide, Try.func78.trans (congrArg some (by kernel_rfl))⟩
  f50 := ⟨Try.f79.name, by decide, Try.func79.trans (congrArg some (by kernel_rfl))⟩
  f57 := ⟨Try.f82.name, by decide, Try.func82.trans (congrArg some (by kernel_rfl))⟩
  t0 := Try.underlying0
  a0 := Try.isAgg0
  z0 := Try.sizeOf0
  v0 := Try.zeroValue0
  t3 := Try.underlying3
  a3 := Try.isAgg3
  z3 := Try.sizeOf3
  v3 := Try.zeroValue3
  t4 := Try.underlying4
  a4 := Try.isAgg4
  z4 := Try.sizeOf4
  v4 := Try.zeroValue4
  t5 := Try.underlying5
  a5 := Try.isAgg5
  z5 := Try.sizeOf5
  v5 := Try.zeroValue5
  t9 := Try.underlying9
  a9 := Try.isAgg9
  z9 := Try.sizeOf9
  v9 := Try.zeroValue9
  t22 := Try.underlying67
  a22 := Try.isAgg67
  z22 := Try.sizeOf67
  v22 := Try.zeroValue67
  a24 := Try.isAgg71
  z24 := Try.sizeOf71
  t25 := Try.underlying101
  a25 := Try.isAgg101
  z25 := Try.sizeOf101
  v25 := Try.zeroValue101
  t39 := Try.underlying113
  a39 := Try.isAgg113
  z39 := Try.sizeOf113
  v39 := Try.zeroValue113
  t45 := Try.underlying122
  a45 := Try.isAgg122
  z45 := Try.sizeOf122
  v45 := Try.zeroValue122
  t46 := Try.underlying123
  a46 := Try.isAgg123
  z46 := Try.sizeOf123
  v46 := Try.zeroValue123
  t50 := Try.underlying74
  a50 := Try.isAgg74
  z50 := Try.sizeOf74
  v50 := Try.zeroValue74
  t53 := Try.underlying129
  a53 := Try.isAgg129
  z53 := Try.sizeOf129
  v53 := Try.zeroValue129
  t55 := Try.underlying131
  a55 := Try.isAgg131
  z55 := Try.sizeOf131
  v55 := Try.zeroValue131
  t66 := Try.underlying142
  a66 := Try.isAgg142
  z66 := Try.sizeOf142
  v66 := Try.zeroValue142
  t70 := Try.underlying146
  a70 := Try.isAgg146
  z70 := Try.sizeOf146
  v70 := Try.zeroValue146
  t76 := Try.underlying152
  a76 := Try.isAgg152
  z76 := Try.sizeOf152
  v76 := Try.zeroValue152
  t77 := Try.underlying153
  a77 := Try.isAgg153
  z77 := Try.sizeOf153
  v77 := Try.zeroValue153 }

/-- What the comparison says. -/
def cmpI (x y : Int) : Int := if x < y then -1 else if y < x then 1 else 0

theorem compare_any (x y : Int) (w : World) : Calls Try.prog 35 #[.int .i64 x, .int .i64 y] w fun e w' => e = .returned (.int .i64 (cmpI x y)) ∧ w = w' := by
  unfold cmpI
  by_cases h1 : x < y
  · rw [if_pos h1]
    go_enter Try.func35, Try.ntmps35
    go_wp2_with (go_at_call 46; refine (isNaN_any _ _).mono ?_; rintro e w' ⟨rfl, rfl⟩)
    go_ret
    exact ⟨rfl, rfl⟩
  · rw [if_neg h1]
    by_cases h2 : y < x
    · rw [if_pos h2]
      go_enter Try.func35, Try.ntmps35
      go_wp2_with (go_at_call 46; refine (isNaN_any _ _).mono ?_; rintro e w' ⟨rfl, rfl⟩)
      go_ret
      exact ⟨rfl, rfl⟩
    · rw [if_neg h2]
      go_enter Try.func35, Try.ntmps35
      go_wp2_with (go_at_call 46; refine (isNaN_any _ _).mono ?_; rintro e w' ⟨rfl, rfl⟩)
      go_ret
      exact ⟨rfl, rfl⟩

theorem byId_cmp (x y : Int) (w : World) : Calls Try.prog 34 #[nodev x, nodev y] w fun e w' => e = .returned (.int .i64 (cmpI x y)) ∧ w = w' := by
  unfold nodev
  go_enter Try.func34, Try.ntmps34
  go_wp2_with (first
    | (go_at_call 101; refine (id_any _ _).mono ?_; rintro e w' ⟨rfl, rfl⟩)
    | (go_at_call 35; refine (compare_any _ _ _).mono ?_; rintro e w' ⟨rfl, rfl⟩))
  go_ret
  exact ⟨rfl, rfl⟩

theorem holds_nodes {w : World} {base e n cap g : Nat} {zs : List Int} (h : w.ownsRow base e 1 (.slice (some ⟨g, 0, none⟩) n cap) n (nodes zs)) : Holds nodev w g 0 zs.toArray := by
  intro j hj
  have hj' : j < zs.length := by simpa using hj
  rw [Nat.zero_add]
  refine ⟨?_, owns_free h j⟩
  have e : zs.toArray[j]! = zs[j] := by simp [hj']
  rw [e]
  exact owns_cell h (nodes_get zs j hj')

theorem owns_putN {w : World} {base e n cap g k : Nat} {os : Array Obj} {zs ys : List Int} (h : w.ownsRow base e 1 (.slice (some ⟨g, 0, none⟩) n cap) n (nodes zs)) (hl : ys.length = zs.length) :
    (grow (putRow nodev (Sort.ahead w k) g 0 ys.toArray) os).ownsRow base e 1 (.slice (some ⟨g, 0, none⟩) n cap) n (nodes ys) := by
  have hzl : (nodes zs).length = n * 1 := h.1
  have hzs : zs.length = n := by rw [nodes_length] at hzl; omega
  obtain ⟨_, h | ⟨g', cap', cur, hv, hg, hh, hn, hm, hs, ht⟩⟩ := h
  · simp at h
  · injection hv with hv _ hcap
    injection hv with hv
    injection hv with hv _ _
    subst hv; subst hcap
    refine ⟨by rw [nodes_length, hl, hzs, Nat.mul_one], .inr ⟨g, cap, putCells nodev 0 ys.toArray cur, rfl, hg, ?_, hn, hm, by simp [putCells, hs], ?_⟩⟩
    · have hgl : g < w.heap.size := lt_of_block hh
      rw [heap_grow_old _ _ (by simpa using hgl)]
      simp [putRow, mapBlock, Sort.ahead, Array.getElem?_modify, hh, onCells]
    · apply List.ext_getElem?
      intro j
      by_cases hj : j < n
      · rw [List.getElem?_take_of_lt (by omega), Array.getElem?_toList]
        simp [putCells, nodes, hl, hzs, hj, show j < cur.size by omega]
      · rw [List.getElem?_take_eq_none (by omega), List.getElem?_eq_none (by rw [nodes_length]; omega)]

theorem grown_putN {w : World} {g n : Nat} {os : Array Obj} (d : Array Int) : w.grownBy (grow (putRow nodev (Sort.ahead w n) g 0 d) os) (some g) := by
  refine ⟨rfl, rfl, rfl, by simp, fun k hk hne => ?_⟩
  rw [heap_grow_old _ _ (by simpa using hk)]
  have : g ≠ k := fun e => hne (by rw [e])
  simp [putRow, mapBlock, Sort.ahead, Array.getElem?_modify, this]

theorem cmpI_lt (x y : Int) : ltOf cmpI x y = decide (x < y) := by
  unfold ltOf cmpI
  by_cases h1 : x < y
  · simp [h1]
  · by_cases h2 : y < x <;> simp [h1, h2]

theorem cmpI_swo : SWO (ltOf cmpI) where
  irrefl := fun x => by rw [cmpI_lt]; simp
  trans := fun x y z h1 h2 => by rw [cmpI_lt] at *; simp at *; omega
  ntrans := fun x y z h1 h2 => by rw [cmpI_lt] at *; simp at *; omega

set_option maxRecDepth 100000 in
theorem sortN_any (base n cap : Nat) (a : Option Addr) (zs : List Int) (w : World) (hn : n ≤ 1048576) (hown : w.ownsRow base 71 1 (.slice a n cap) n (nodes zs)) :
    Calls Try.prog 33 #[.slice a n cap, .func (.func 34) #[] #[]] w
      fun e w' => e = .returned (.tuple #[]) ∧ w'.ownsRow base 71 1 (.slice a n cap) n (nodes (asc zs)) ∧ w.grownBy w' (Value.slice a n cap).ownBlock := by
  have hl : zs.length = n := by have := hown.1; rw [nodes_length] at this; omega
  by_cases h0 : n = 0
  · subst h0
    have hz : zs = [] := List.eq_nil_of_length_eq_zero hl
    subst hz
    refine (AnyF.slices_SortFunc_none (P := Try.prog) (ρ := sfRen) { sfLays with } a cap _ w).mono ?_
    rintro e w' ⟨rfl, rfl⟩
    exact ⟨rfl, by simpa [asc] using hown, World.grownBy.refl _ _⟩
  · obtain ⟨g, rfl, _, hg, _⟩ := owns_at hown (by omega)
    subst hl
    refine (Any.slices_SortFunc_total (P := Try.prog) (ρ := sfRen) sfLays nodev (fun _ => rfl) cmpI cmpI_swo _ #[] g 0 cap zs.toArray w (fun args w => by simp [go_sem]) (CmpReads.lays (fun m os dk _ x y => ?_)) (holds_nodes hown) hg (by simp; omega) (fun x y h1 h2 => by rw [cmpI_lt] at *; simp at *; omega)).mono ?_
    · refine (byId_cmp x y _).mono ?_
      rintro e w' ⟨rfl, rfl⟩
      exact ⟨rfl, 0, rfl⟩
    · rintro e w' ⟨rfl, k, os, rfl⟩
      have e1 : (zs.toArray.toList.mergeSort fun x y => !ltOf cmpI y x) = asc zs := by
        unfold asc
        congr 1
        funext x y
        rw [cmpI_lt]
        by_cases h : y < x
        · simp [h]
        · simp [h]; omega
      rw [e1]
      exact ⟨rfl, owns_putN hown (asc_length zs), grown_putN _⟩

set_option maxRecDepth 100000 in
theorem byId_any (base n cap : Nat) (a : Option Addr) (zs : List Int) (w : World) (hn : n ≤ 1048576) (hown : w.ownsRow base 71 1 (.slice a n cap) n (nodes zs)) :
    Calls Try.prog 24 #[.slice a n cap] w
      fun e w' => e = .returned (.tuple #[]) ∧ w'.ownsRow base 71 1 (.slice a n cap) n (nodes (asc zs)) ∧ w.grownBy w' (Value.slice a n cap).ownBlock := by
  have h := Lib.hid (sortN_any base n cap a zs w hn hown)
  clear hown
  go_enter Try.func24, Try.ntmps24
  go_wp2_with fail
  refine (unhide h).mono ?_
  rintro e w' ⟨rfl, h1, h2⟩
  go_wp2_with fail
  go_end0
  exact ⟨rfl, h1, h2⟩
end Go.Proofs.Ytaolfdmmadfncaa
