/- topo.lexical, slices.Reverse at nodes and at components, topo.sortedFrom. -/
import Derived.Test.YtagnmdhdogaijaaGreatSorted
import Derived.Test.YtagnmdhdogaijaaGreatSortFn
import Derived.Test.YtagnmdhdogaijaaGreatShelf
import Derived.Test.YtagnmdhdogaijaaGreatIter
import Derived.Shelf.SlicesE.Reverse
namespace Go.Proofs.YtagnmdhdogaijaaGreat
open Go.RowKit Go.Sort Go.Lib

theorem lexical_any (base n cap : Nat) (a : Option Addr) (zs : List Int) (w : World) (hn : n ≤ 1048576) (hown : w.ownsRow base 81 1 (.slice a n cap) n (nodes zs)) :
    Calls Tryz.prog 50 #[.slice a n cap] w
      fun e w' => e = .returned (.tuple #[]) ∧ w'.ownsRow base 81 1 (.slice a n cap) n (nodes (asc zs)) ∧ w.grownBy w' (Value.slice a n cap).ownBlock := by
  have h := Lib.hid (byId_any base n cap a zs w hn hown)
  clear hown
  go_enter Tryz.func50, Tryz.ntmps50
  go_wp2_with fail
  refine (unhide h).mono ?_
  rintro e w' ⟨rfl, h1, h2⟩
  go_wp2_with fail
  go_end0
  exact ⟨rfl, h1, h2⟩

/-- A value of one cell. -/
abbrev OneV := { v : Value // v.oneCell' = true }
instance : Inhabited OneV := ⟨⟨.nilIface, rfl⟩⟩
theorem oneV_cell : OneCell (Subtype.val : OneV → Value) := fun x => x.2
theorem oneV_list : ∀ (xs : List Value), (∀ u ∈ xs, u.oneCell' = true) → ∃ zs : List OneV, zs.map Subtype.val = xs
  | [], _ => ⟨[], rfl⟩
  | x :: xs, h => by
    obtain ⟨zs, e⟩ := oneV_list xs fun u hu => h u (List.mem_cons_of_mem _ hu)
    exact ⟨⟨x, h x List.mem_cons_self⟩ :: zs, by rw [List.map_cons, e]⟩

theorem holds_oneV {w : World} {base e n cap g : Nat} {zs : List OneV} (h : w.ownsRow base e 1 (.slice (some ⟨g, 0, none⟩) n cap) n (zs.map Subtype.val)) : Holds (Subtype.val : OneV → Value) w g 0 zs.toArray := by
  intro j hj
  have hj' : j < zs.length := by simpa using hj
  rw [Nat.zero_add]
  refine ⟨?_, owns_free h j⟩
  have e : zs.toArray[j]! = zs[j] := by simp [hj']
  rw [e]
  exact owns_cell h (by rw [List.getElem?_map, List.getElem?_eq_getElem hj']; rfl)

theorem owns_putV {w : World} {base e n cap g k : Nat} {zs ys : List OneV} (h : w.ownsRow base e 1 (.slice (some ⟨g, 0, none⟩) n cap) n (zs.map Subtype.val)) (hl : ys.length = zs.length) :
    (putRow (Subtype.val : OneV → Value) (Sort.ahead w k) g 0 ys.toArray).ownsRow base e 1 (.slice (some ⟨g, 0, none⟩) n cap) n (ys.map Subtype.val) := by
  have hzl : (zs.map Subtype.val).length = n * 1 := h.1
  have hzs : zs.length = n := by rw [List.length_map] at hzl; omega
  obtain ⟨_, h | ⟨g', cap', cur, hv, hg, hh, hn, hm, hs, ht⟩⟩ := h
  · simp at h
  · injection hv with hv _ hcap
    injection hv with hv
    injection hv with hv _ _
    subst hv; subst hcap
    refine ⟨by rw [List.length_map, hl, hzs, Nat.mul_one], .inr ⟨g, cap, putCells (Subtype.val : OneV → Value) 0 ys.toArray cur, rfl, hg, ?_, hn, hm, by simp [putCells, hs], ?_⟩⟩
    · have hgl : g < w.heap.size := lt_of_block hh
      simp [putRow, mapBlock, Sort.ahead, Array.getElem?_modify, hh, onCells]
    · apply List.ext_getElem?
      intro j
      by_cases hj : j < n
      · rw [List.getElem?_take_of_lt (by omega), Array.getElem?_toList]
        simp [putCells, hl, hzs, hj, show j < cur.size by omega]
      · rw [List.getElem?_take_eq_none (by omega), List.getElem?_eq_none (by rw [List.length_map]; omega)]

theorem grown_putV {w : World} {g n : Nat} (d : Array OneV) : w.grownBy (putRow (Subtype.val : OneV → Value) (Sort.ahead w n) g 0 d) (some g) := by
  refine ⟨rfl, rfl, rfl, by simp, fun k hk hne => ?_⟩
  have : g ≠ k := fun e => hne (by rw [e])
  simp [putRow, mapBlock, Sort.ahead, Array.getElem?_modify, this]

theorem reverse_own {P : Program} {ρ : Go.Shelf.Ren} (L : Go.Proofs.SlLaysE.n35 P ρ) (base e n cap : Nat) (a : Option Addr) (xs : List Value) (w : World) (h1 : ∀ u ∈ xs, u.oneCell' = true) (hn : n ≤ 1048576) (hown : w.ownsRow base e 1 (.slice a n cap) n xs) :
    Calls P (ρ.f 35) #[.slice a n cap] w fun e' w' => e' = .returned (.tuple #[]) ∧ w'.ownsRow base e 1 (.slice a n cap) n xs.reverse ∧ w.grownBy w' (Value.slice a n cap).ownBlock := by
  obtain ⟨zs, rfl⟩ := oneV_list xs h1
  have hl : zs.length = n := by have := hown.1; rw [List.length_map] at this; omega
  by_cases h0 : n = 0
  · subst h0
    have hz : zs = [] := List.eq_nil_of_length_eq_zero hl
    subst hz
    refine (AnyE.slices_Reverse_empty L a cap w).mono ?_
    rintro e' w' ⟨rfl, rfl⟩
    exact ⟨rfl, hown, World.grownBy.refl _ _⟩
  · obtain ⟨g, rfl, _⟩ := owns_at hown (by omega)
    subst hl
    refine (AnyE.slices_Reverse L (Subtype.val : OneV → Value) oneV_cell g 0 cap zs w (holds_oneV hown) (by omega)).mono ?_
    rintro e' w' ⟨rfl, k, rfl⟩
    refine ⟨rfl, ?_, grown_putV _⟩
    rw [← List.map_reverse]
    exact owns_putV (ys := zs.reverse) hown (List.length_reverse)

def rvNRen : Go.Shelf.Ren := ⟨fun | 35 => 66 | n => n, fun | 22 => 58 | 23 => 81 | 3 => 3 | 4 => 4 | 0 => 0 | n => n, fun | n => n⟩
theorem rvNLays : Go.Proofs.SlLaysE.n35 Tryz.prog rvNRen := {
  mixed := by kernel_rfl
  f35 := ⟨Tryz.f66.name, by decide, Tryz.func66.trans (congrArg some (by kernel_rfl))⟩
  t0 := Tryz.underlying0
  a0 := Tryz.isAgg0
  z0 := Tryz.sizeOf0
  v0 := Tryz.zeroValue0
  t3 := Tryz.underlying3
  a3 := Tryz.isAgg3
  z3 := Tryz.sizeOf3
  v3 := Tryz.zeroValue3
  t4 := Tryz.underlying4
  a4 := Tryz.isAgg4
  z4 := Tryz.sizeOf4
  v4 := Tryz.zeroValue4
  t22 := Tryz.underlying58
  a22 := Tryz.isAgg58
  z22 := Tryz.sizeOf58
  v22 := Tryz.zeroValue58
  a23 := Tryz.isAgg81
  z23 := Tryz.sizeOf81 }

def rvURen : Go.Shelf.Ren := ⟨fun | 35 => 80 | n => n, fun | 22 => 96 | 23 => 58 | 3 => 3 | 4 => 4 | 0 => 0 | n => n, fun | n => n⟩
theorem rvULays : Go.Proofs.SlLaysE.n35 Tryz.prog rvURen := {
  mixed := by kernel_rfl
  f35 := ⟨Tryz.f80.name, by decide, Tryz.func80.trans (congrArg some (by kernel_rfl))⟩
  t0 := Tryz.underlying0
  a0 := Tryz.isAgg0
  z0 := Tryz.sizeOf0
  v0 := Tryz.zeroValue0
  t3 := Tryz.underlying3
  a3 := Tryz.isAgg3
  z3 := Tryz.sizeOf3
  v3 := Tryz.zeroValue3
  t4 := Tryz.underlying4
  a4 := Tryz.isAgg4
  z4 := Tryz.sizeOf4
  v4 := Tryz.zeroValue4
  t22 := Tryz.underlying96
  a22 := Tryz.isAgg96
  z22 := Tryz.sizeOf96
  v22 := Tryz.zeroValue96
  a23 := Tryz.isAgg58
  z23 := Tryz.sizeOf58 }

theorem take_topV {M : List (List Int)} {k : Nat} (hk : k < M.length) : (M.take (k + 1)).map topV = (M.take k).map topV ++ [topV M[k]] := by
  rw [List.take_succ_eq_append_getElem hk, List.map_append]; rfl
theorem cycV_one {vs : List Value} {M : List (List Int)} {k : Nat} (hk : k < M.length) (h1 : M[k].length = 1) : cycV vs M (k + 1) = cycV vs M k := by
  conv => lhs; unfold cycV
  rw [if_pos (by simpa [hk] using h1)]
theorem cycV_more {vs : List Value} {M : List (List Int)} {k : Nat} {v : Value} (hk : k < M.length) (h1 : M[k].length ≠ 1) (hv : vs[k]? = some v) : cycV vs M (k + 1) = cycV vs M k ++ [v] := by
  conv => lhs; unfold cycV
  rw [if_neg (by simpa [hk] using h1), List.getD_eq_getElem?_getD, hv]; rfl

theorem cycV_le (vs : List Value) (M : List (List Int)) : ∀ k, (cycV vs M k).length ≤ k
  | 0 => Nat.le_refl _
  | k + 1 => by
    have := cycV_le vs M k
    unfold cycV
    split
    · omega
    · rw [List.length_append, List.length_singleton]; omega
theorem NRows.one {w : World} {B : Nat} {vs : List Value} {l : List (List Int)} (h : NRows w B vs l) : ∀ u ∈ vs, u.oneCell' = true := by
  intro u hu
  obtain ⟨k, hk, rfl⟩ := List.mem_iff_getElem.1 hu
  obtain ⟨a, c, e, _⟩ := owns_cells (h.2 k _ _ (List.getElem?_eq_getElem hk) (List.getElem?_eq_getElem (by rw [← h.1]; exact hk)))
  rw [e]; rfl

set_option maxRecDepth 100000 in
set_option maxHeartbeats 2000000 in
theorem sortedFrom_any (a : Option Addr) (c B : Nat) (vs : List Value) (M : List (List Int)) (w : World) (hM : M.length ≤ 1000) (hl : ∀ k (hk : k < M.length), M[k].length ≤ 1000) (hov : w.ownsRow B 58 1 (.slice a M.length c) M.length vs)
    (hrows : NRows w B vs M) (hap : ∀ j ∈ blks vs, (Value.slice a M.length c).ownBlock ≠ some j) (hnd : (blks vs).Nodup) (hB : B ≤ w.heap.size) :
    Calls Tryz.prog 49 #[.slice a M.length c, .func (.func 50) #[] #[]] w (SortedPost w B M) := by
  have hmk := fun W => run_make_cap (P := Tryz.prog) 58 81 .nilIface 16 Tryz.underlying58 info_node rfl M.length (by omega) (by omega) W
  have hsf : SF w (w.alloc (.cells (madeCells #[.nilIface] M.length) 81)) B vs [] [] (rowsUp M 0) (.slice (some ⟨w.heap.size, 0, none⟩) 0 M.length) (.slice none 0 0) := by
    refine ⟨World.ownsRow_made w _ _ (Nat.le_refl _) (by unfold maxLen; omega) (by rw [size_madeCells, Nat.mul_one]), World.ownsRow_nil _ _ _ _, fun j _ e => by simp [Value.ownBlock] at e, fun _ => rfl, ?_, fun j hj _ => Below.heap_alloc _ _ _ hj, rfl, rfl, rfl, by simp, fun j hj => (hrows.lt j hj).2⟩
    rw [rowsUp_zero]
    exact hrows.same fun j hj => Below.heap_alloc _ _ _ (hrows.lt j hj).2
  have hrow : Hid (∀ (k : Nat) (hk : k < M.length), ∃ ga v, a = some ⟨ga, 0, none⟩ ∧ vs[k]? = some v ∧ ∀ W xs ys l sa sb, SF w W B vs xs ys l sa sb → W.cell? ⟨ga, k, none⟩ = some v) := fun k hk => by
    obtain ⟨ga, rfl, _⟩ := owns_at hov (by omega)
    have hv : vs[k]? = some (vs[k]'(by rw [hrows.1]; exact hk)) := List.getElem?_eq_getElem _
    refine ⟨ga, _, rfl, hv, fun W xs ys l sa sb h => ?_⟩
    rw [World.cell?_of_block (a := ⟨ga, k, none⟩) (h.keep ga (hov.lt ga rfl).2 fun hm => hap ga hm rfl)]
    exact owns_cell hov hv
  have hlh := Lib.hid hl
  have hndh := Lib.hid hnd
  clear hov hrows hap hl hnd
  go_enter Tryz.func49, Tryz.ntmps49
  go_wp2
  obtain ⟨w1, hw1⟩ : ∃ w1, w1 = w.alloc (.cells (madeCells #[.nilIface] M.length) 81) := ⟨_, rfl⟩
  rw [← hw1] at hsf ⊢
  clear hw1 hmk
  have hsfh := Lib.hid hsf
  clear hsf
  go_loopw [6, 7, 9, 16] (fun s sc _ i wr => ∃ (k g c : Nat) (b : Option Addr) (m d : Nat), k ≤ M.length ∧ i = .int .i64 k ∧ s = .slice (some ⟨g, 0, none⟩) k c ∧ sc = .slice b m d ∧ m = (cycV vs M k).length ∧
    SF w wr B vs ((M.take k).map topV) (cycV vs M k) (rowsUp M k) (.slice (some ⟨g, 0, none⟩) k c) (.slice b m d)) (fun _ _ _ i _ => M.length - (intOf i).toNat)
  case atStart => exact ⟨0, _, _, none, 0, 0, Nat.zero_le _, rfl, rfl, rfl, rfl, hsfh.out⟩
  case round =>
    obtain ⟨k, g, c1, b, m, d, hk, rfl, rfl, rfl, hm, hsf⟩ := hrel
    by_cases hlt : k < M.length
    · obtain ⟨ga, v, rfl, hv, hcell⟩ := hrow.out k hlt
      have hc := hcell wr _ _ _ _ _ hsf
      have hrw := hsf.rows.2 k v _ hv (rowsUp_get hlt)
      have hll := hlh.out k hlt
      have htk := take_topV hlt
      have hs0 := hsf.size
      have hxl : ((M.take k).map topV).length = k := by rw [List.length_map, List.length_take]; omega
      have hso : Hid (∀ o, (wr.alloc o).ownsRow w.heap.size 81 1 (.slice (some ⟨g, 0, none⟩) k c1) k ((M.take k).map topV)) := fun o => by have := hsf.own; rw [hxl] at this; exact this.alloc o
      have hmk : m ≤ k := by rw [hm]; exact cycV_le vs M k
      by_cases h1 : M[k].length = 1
      · have hfin : Hid (∀ o b2 c2 w2, w2.ownsRow w.heap.size 81 1 (.slice b2 (k + 1) c2) (k + 1) ((M.take k).map topV ++ [topV M[k]]) → (wr.alloc o).grownBy w2 (Value.slice (some ⟨g, 0, none⟩) k c1).ownBlock → (b2 = some ⟨g, 0, none⟩ ∨ b2 = some ⟨(wr.alloc o).heap.size, 0, none⟩) →
            m = (cycV vs M (k + 1)).length ∧ ∃ g2, b2 = some ⟨g2, 0, none⟩ ∧ SF w w2 B vs ((M.take (k + 1)).map topV) (cycV vs M (k + 1)) (rowsUp M (k + 1)) (.slice b2 (k + 1) c2) (.slice b m d)) := fun o b2 c2 w2 h2 hg2 hat2 => by
          refine ⟨by rw [cycV_one hlt h1]; exact hm, ?_⟩
          have hq := hsf.push hg2 h2 hat2 hxl.symm
          rw [htk, cycV_one hlt h1, rowsUp_one hlt h1]
          obtain ⟨g2, e, _⟩ := owns_at h2 (by omega)
          exact ⟨g2, e, hq⟩
        obtain ⟨x, hx⟩ := List.length_eq_one_iff.1 h1
        obtain ⟨ag, cg, rfl, _, hcs, _⟩ := owns_cells hrw
        have htop : topV M[k] = nodev x := by rw [hx]; rfl
        rw [htop] at hfin
        rw [h1] at hc
        rw [hx] at hcs
        obtain ⟨nb, no, rfl, _, hr⟩ := hcs.at (by rw [nodes_length]; exact Nat.one_pos)
        have hnd := hr 0 _ (show (nodes [x])[0]? = some (nodev x) from rfl)
        rw [Nat.add_zero] at hnd
        unfold nodev at hnd hfin
        clear hcs hr hx h1 htop htk hrw hxl hsf hm hv hcell hrow hll
        go_wp2_with (at_builtin; refine append_law 58 81 .nilIface 1 16 Tryz.underlying58 info_node rfl (by omega) (by omega) rfl _ _ rfl w.heap.size (some ⟨g, 0, none⟩) k c1 ((M.take k).map topV) rfl (unhide hso _) ⟨wr.heap.size, 0, none⟩ 1 1 [.iface 204 (.int .i64 x)] rfl rfl (new_one wr _ _) (one_node _) (by omega) (by simp; omega) ?_; intro b2 c2 w2 hown2 hg2 hat2; have hf := Lib.hid (hfin.out _ _ _ _ hown2 hg2 hat2); clear hown2 hg2 hat2)
        obtain ⟨hm2, g2, rfl, hsf2⟩ := hf.out
        go_roundw
        case rel => exact ⟨k + 1, g2, c2, b, m, d, by omega, by go_num, rfl, rfl, hm2, hsf2⟩
        case measure => simp [intOf]; omega
      · have hfin : Hid (∀ w5, w5.ownsRow B 81 1 v M[k].length (nodes (asc M[k])) → wr.grownBy w5 v.ownBlock → (∀ o, (w5.alloc o).ownsRow w.heap.size 58 1 (.slice b m d) m (cycV vs M k)) ∧ w.heap.size ≤ w5.heap.size ∧
            ∀ o b6 c6 w6, w6.ownsRow w.heap.size 58 1 (.slice b6 (m + 1) c6) (m + 1) (cycV vs M k ++ [v]) → (w5.alloc o).grownBy w6 (Value.slice b m d).ownBlock → (b6 = b ∨ b6 = some ⟨(w5.alloc o).heap.size, 0, none⟩) →
            (∀ o, (w6.alloc o).ownsRow w.heap.size 81 1 (.slice (some ⟨g, 0, none⟩) k c1) k ((M.take k).map topV)) ∧ w.heap.size ≤ w6.heap.size ∧
            ∀ o b2 c2 w2, w2.ownsRow w.heap.size 81 1 (.slice b2 (k + 1) c2) (k + 1) ((M.take k).map topV ++ [.nilIface]) → (w6.alloc o).grownBy w2 (Value.slice (some ⟨g, 0, none⟩) k c1).ownBlock → (b2 = some ⟨g, 0, none⟩ ∨ b2 = some ⟨(w6.alloc o).heap.size, 0, none⟩) →
              m + 1 = (cycV vs M (k + 1)).length ∧ ∃ g2, b2 = some ⟨g2, 0, none⟩ ∧ SF w w2 B vs ((M.take (k + 1)).map topV) (cycV vs M (k + 1)) (rowsUp M (k + 1)) (.slice b2 (k + 1) c2) (.slice b6 (m + 1) c6)) := fun w5 h5 hg5 => by
          have e5 : M[k].length = (asc M[k]).length := (asc_length _).symm
          rw [e5] at h5
          have s5 := hsf.order hndh.out hv h5 hg5
          refine ⟨fun o => by have := s5.sco; rw [← hm] at this; exact this.alloc o, s5.size, fun o b6 c6 w6 h6 hg6 hat6 => ?_⟩
          have s6 := s5.pushC hg6 h6 hat6 hm
          refine ⟨fun o => by have := s6.own; rw [hxl] at this; exact this.alloc o, s6.size, fun o b2 c2 w2 h2 hg2 hat2 => ?_⟩
          have s7 := s6.push hg2 h2 hat2 hxl.symm
          have htop : topV M[k] = .nilIface := by unfold topV; rw [if_neg h1]
          refine ⟨by rw [cycV_more hlt h1 hv, List.length_append, ← hm]; rfl, ?_⟩
          obtain ⟨g2, e, _⟩ := owns_at h2 (by omega)
          refine ⟨g2, e, ?_⟩
          rw [htk, htop, cycV_more hlt h1 hv, rowsUp_succ hlt]
          exact s7
        obtain ⟨ag, cg, rfl, _, _, _⟩ := owns_cells hrw
        have hlex := Lib.hid (lexical_any B M[k].length cg ag M[k] wr (by omega) hrw)
        obtain ⟨n, hn⟩ : ∃ n, n = M[k].length := ⟨_, rfl⟩
        rw [← hn] at hc hlex hfin h1
        have hn1 : ((n : Nat) : Int) ≠ 1 := by omega
        clear htk hrw hxl hsf hm hv hcell hrow hll hn h1 hso
        go_wp2_with fail
        refine (unhide hlex).mono ?_
        rintro e w5 ⟨rfl, h5, hg5⟩
        obtain ⟨hsc, hz5, hnx⟩ := hfin.out w5 h5 hg5
        have hsch := Lib.hid hsc
        have hnxh := Lib.hid hnx
        clear hsc hnx h5 hg5 hfin hlex hc
        go_wp2_with (first
          | (at_builtin; refine append_law 96 58 (.slice none 0 0) 1 24 Tryz.underlying96 info_nrow rfl (by omega) (by omega) rfl _ _ rfl w.heap.size b m d (cycV vs M k) rfl (unhide hsch _) ⟨w5.heap.size, 0, none⟩ 1 1 [.slice ag n cg] rfl rfl (new_one w5 _ _) (one_row _ _ _) (by omega) (by simp; omega) ?_; intro b6 c6 w6 hown6 hg6 hat6; have hf := Lib.hid (hnxh.out _ _ _ _ hown6 hg6 hat6); clear hown6 hg6 hat6; obtain ⟨hsa, hz6, hny⟩ := hf.out; have hsah := Lib.hid hsa; have hnyh := Lib.hid hny; clear hsa hny hf)
          | (at_builtin; refine append_law 58 81 .nilIface 1 16 Tryz.underlying58 info_node rfl (by omega) (by omega) rfl _ _ rfl w.heap.size (some ⟨g, 0, none⟩) k c1 ((M.take k).map topV) rfl (unhide hsah _) ⟨w6.heap.size, 0, none⟩ 1 1 [.nilIface] rfl rfl (new_one w6 _ _) (by intro u hu; simp at hu; subst hu; rfl) (by omega) (by simp; omega) ?_; intro b2 c2 w2 hown2 hg2 hat2; have hf := Lib.hid (hnyh.out _ _ _ _ hown2 hg2 hat2); clear hown2 hg2 hat2))
        obtain ⟨hm2, g2, rfl, hsf2⟩ := hf.out
        go_roundw
        case rel => exact ⟨k + 1, g2, c2, b6, m + 1, c6, by omega, by go_num, rfl, rfl, hm2, hsf2⟩
        case measure => simp [intOf]; omega
    · have hkn : k = M.length := by omega
      subst hkn
      rw [List.take_length] at hsf
      have hsize := hsf.size
      have hxl : (M.map topV).length = M.length := List.length_map _
      have hown := hsf.own
      rw [hxl] at hown
      have hx1 : ∀ u ∈ M.map topV, u.oneCell' = true := fun u hu => by
        obtain ⟨c, _, rfl⟩ := List.mem_map.1 hu
        unfold topV nodev
        split <;> rfl
      rcases hys : cycV vs M M.length with _ | ⟨y, ys⟩
      · have e := hsf.nil hys
        injection e with e1 e2 e3
        subst e1; subst e2; subst e3
        have hcl : cycL M M.length = [] := List.eq_nil_of_length_eq_zero (by rw [← cyc_len vs M, hys]; rfl)
        have hrev : Hid (Calls Tryz.prog 66 #[.slice (some ⟨g, 0, none⟩) M.length c1] wr fun e' w' => e' = .returned (.tuple #[]) ∧ w'.ownsRow w.heap.size 81 1 (.slice (some ⟨g, 0, none⟩) M.length c1) M.length (M.map topV).reverse ∧ wr.grownBy w' (Value.slice (some ⟨g, 0, none⟩) M.length c1).ownBlock) :=
          reverse_own rvNLays w.heap.size 81 M.length c1 (some ⟨g, 0, none⟩) (M.map topV) wr hx1 (by omega) hown
        have hfin : Hid (∀ w', w'.ownsRow w.heap.size 81 1 (.slice (some ⟨g, 0, none⟩) M.length c1) M.length (M.map topV).reverse → wr.grownBy w' (Value.slice (some ⟨g, 0, none⟩) M.length c1).ownBlock → SortedPost w B M (.returned (.tuple #[.slice (some ⟨g, 0, none⟩) M.length c1, .nilIface])) w') := fun w' h' hg' =>
          (hsf.turnS hg' List.length_reverse (by rw [hxl]; exact h')).postN hB rfl hcl
        clear hsf hown hx1 hxl hrow hm hcl hys
        go_wp2_with fail
        refine (unhide hrev).mono ?_
        rintro e w5 ⟨rfl, h5, hg5⟩
        have hf := Lib.hid (hfin.out w5 h5 hg5)
        clear h5 hg5
        go_wp2_with fail
        go_ret2
        exact hf.out
      · have hm0 : 0 < m := by rw [hm, hys]; simp
        have hcl : cycL M M.length ≠ [] := fun e => by
          have := cyc_len vs M M.length
          rw [hys, e] at this
          simp at this
        have hmc : m = (cycL M M.length).length := by rw [hm, cyc_len]
        have hmk := cycV_le vs M M.length
        have hsco := hsf.sco
        rw [← hm] at hsco
        obtain ⟨gb, rfl, _⟩ := owns_at hsco hm0
        have hy1 : ∀ u ∈ cycV vs M M.length, u.oneCell' = true := by
          have hr := hsf.rows
          rw [rowsUp_end] at hr
          exact (hr.cyc M.length (Nat.le_refl _)).one
        have hrev : Hid (Calls Tryz.prog 80 #[.slice (some ⟨gb, 0, none⟩) m d] wr fun e' w' => e' = .returned (.tuple #[]) ∧ w'.ownsRow w.heap.size 58 1 (.slice (some ⟨gb, 0, none⟩) m d) m (cycV vs M M.length).reverse ∧ wr.grownBy w' (Value.slice (some ⟨gb, 0, none⟩) m d).ownBlock) :=
          reverse_own rvULays w.heap.size 58 m d (some ⟨gb, 0, none⟩) (cycV vs M M.length) wr hy1 (by omega) hsco
        have hfin : Hid (∀ w5, w5.ownsRow w.heap.size 58 1 (.slice (some ⟨gb, 0, none⟩) m d) m (cycV vs M M.length).reverse → wr.grownBy w5 (Value.slice (some ⟨gb, 0, none⟩) m d).ownBlock →
            Hid (Calls Tryz.prog 66 #[.slice (some ⟨g, 0, none⟩) M.length c1] w5 fun e' w' => e' = .returned (.tuple #[]) ∧ w'.ownsRow w.heap.size 81 1 (.slice (some ⟨g, 0, none⟩) M.length c1) M.length (M.map topV).reverse ∧ w5.grownBy w' (Value.slice (some ⟨g, 0, none⟩) M.length c1).ownBlock) ∧
            ∀ w', w'.ownsRow w.heap.size 81 1 (.slice (some ⟨g, 0, none⟩) M.length c1) M.length (M.map topV).reverse → w5.grownBy w' (Value.slice (some ⟨g, 0, none⟩) M.length c1).ownBlock →
              SortedPost w B M (.returned (.tuple #[.slice (some ⟨g, 0, none⟩) M.length c1, .iface 96 (.slice (some ⟨gb, 0, none⟩) m d)])) w') := fun w5 h5 hg5 => by
          have s5 := hsf.turnC hg5 List.length_reverse (by rw [← hm]; exact h5)
          have own5 := s5.own
          rw [hxl] at own5
          exact ⟨reverse_own rvNLays w.heap.size 81 M.length c1 (some ⟨g, 0, none⟩) (M.map topV) w5 hx1 (by omega) own5,
            fun w' h' hg' => (s5.turnS hg' List.length_reverse (by rw [hxl]; exact h')).post hB rfl hmc hcl⟩
        clear hsf hown hx1 hy1 hxl hrow hm hcl hys hsco hmc
        go_wp2_with fail
        refine (unhide hrev).mono ?_
        rintro e w5 ⟨rfl, h5, hg5⟩
        obtain ⟨hrv, hfn⟩ := hfin.out w5 h5 hg5
        have hfnh := Lib.hid hfn
        clear h5 hg5 hfin hfn
        go_wp2_with fail
        refine (unhide hrv).mono ?_
        rintro e w6 ⟨rfl, h6, hg6⟩
        have hf := Lib.hid (hfnh.out w6 h6 hg6)
        clear h6 hg6
        go_wp2_with fail
        go_ret2
        exact hf.out
end Go.Proofs.YtagnmdhdogaijaaGreat
