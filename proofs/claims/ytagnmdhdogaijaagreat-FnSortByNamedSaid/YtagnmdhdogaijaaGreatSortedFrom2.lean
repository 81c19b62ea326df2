/- topo.sortedFrom with the order of impl.SortBy. -/
import Derived.Test.YtagnmdhdogaijaaGreatSortedFrom
import Derived.Test.YtagnmdhdogaijaaGreatSortBy0
namespace Go.Proofs.YtagnmdhdogaijaaGreat
open Go.RowKit Go.Sort Go.Lib

variable {pl : List Int}

theorem srtBy_one {c : List Int} (h : c.length = 1) : srtBy pl c = c := by
  match c, h with
  | [a], _ => exact List.perm_singleton.1 (srtBy_perm pl [a])

/-- The components, the first k of them sorted. -/
def rowsBy (pl : List Int) (M : List (List Int)) (k : Nat) : List (List Int) := (M.take k).map (srtBy pl) ++ M.drop k

theorem rowsBy_zero (M : List (List Int)) : rowsBy pl M 0 = M := by simp [rowsBy]

theorem rowsBy_end (M : List (List Int)) : rowsBy pl M M.length = M.map (srtBy pl) := by simp [rowsBy]

theorem rowsBy_get {M : List (List Int)} {k : Nat} (hk : k < M.length) : (rowsBy pl M k)[k]? = some M[k] := by
  unfold rowsBy
  have hl : ((M.take k).map (srtBy pl)).length = k := by rw [List.length_map, List.length_take]; omega
  rw [List.getElem?_append_right (by omega), hl, Nat.sub_self, List.drop_eq_getElem_cons hk, List.getElem?_cons_zero]

theorem rowsBy_succ {M : List (List Int)} {k : Nat} (hk : k < M.length) : rowsBy pl M (k + 1) = (rowsBy pl M k).set k ((srtBy pl) M[k]) := by
  unfold rowsBy
  have hl : ((M.take k).map (srtBy pl)).length = k := by rw [List.length_map, List.length_take]; omega
  rw [List.set_append_right _ _ (by omega), hl, Nat.sub_self, List.drop_eq_getElem_cons hk, List.set_cons_zero, List.take_succ_eq_append_getElem hk, List.map_append, List.append_assoc]
  rfl

def cycBy (pl : List Int) (M : List (List Int)) : Nat → List (List Int)
  | 0 => []
  | k + 1 => if (M.getD k []).length = 1 then cycBy pl M k else cycBy pl M k ++ [(srtBy pl) (M.getD k [])]

theorem NRows.cycRows {w : World} {B : Nat} {vs : List Value} {M : List (List Int)} (h : NRows w B vs (M.map (srtBy pl))) : ∀ k, k ≤ M.length → NRows w B (cycV vs M k) (cycBy pl M k)
  | 0, _ => ⟨rfl, fun j v c hv => by simp [cycV] at hv⟩
  | k + 1, hk => by
    have ih := h.cycRows k (by omega)
    unfold cycV cycBy
    by_cases h1 : (M.getD k []).length = 1
    · rw [if_pos h1, if_pos h1]; exact ih
    · rw [if_neg h1, if_neg h1]
      have hvl : vs.length = M.length := by rw [h.1, List.length_map]
      have hv : vs[k]? = some (vs.getD k .nilIface) := by
        have : k < vs.length := by omega
        simp [this]
      have hm : (M.map (srtBy pl))[k]? = some ((srtBy pl) (M.getD k [])) := by
        have : k < M.length := by omega
        simp [this]
      exact ih.more (h.2 k _ _ hv hm)

theorem cyc_lenB (vs : List Value) (M : List (List Int)) : ∀ k, (cycV vs M k).length = (cycBy pl M k).length
  | 0 => rfl
  | k + 1 => by
    unfold cycV cycBy
    split
    · exact cyc_lenB vs M k
    · rw [List.length_append, List.length_append, cyc_lenB vs M k]; rfl

theorem rowsBy_one {M : List (List Int)} {k : Nat} (hk : k < M.length) (h1 : M[k].length = 1) : rowsBy pl M (k + 1) = rowsBy pl M k := by
  rw [rowsBy_succ hk, srtBy_one h1]
  refine List.ext_getElem? fun j => ?_
  by_cases hj : k = j
  · subst hj
    have := rowsBy_get (pl := pl) hk
    have hlt := (List.getElem?_eq_some_iff.1 this).1
    rw [List.getElem?_set_self hlt, this]
  · rw [List.getElem?_set_ne hj]

/-- What sortedFrom gives. -/
def SortedPost2 (pl : List Int) (w : World) (B : Nat) (M : List (List Int)) (e : Ending) (w' : World) : Prop :=
  ∃ (a : Option Addr) (c : Nat) (er : Value), e = .returned (.tuple #[.slice a M.length c, er]) ∧ w'.ownsRow w.heap.size 81 1 (.slice a M.length c) M.length (M.map topV).reverse ∧ ErrIs w' w.heap.size B (cycBy pl M M.length).reverse er ∧ Below B w w'

theorem SF.post2 {w0 w : World} {B : Nat} {vs : List Value} {M : List (List Int)} {a b : Option Addr} {n c m d : Nat} (h : SF w0 w B vs (M.map topV).reverse (cycV vs M M.length).reverse (rowsBy pl M M.length) (.slice a n c) (.slice b m d))
    (hB : B ≤ w0.heap.size) (hn : n = M.length) (hm : m = (cycBy pl M M.length).length) (he : cycBy pl M M.length ≠ []) :
    SortedPost2 pl w0 B M (.returned (.tuple #[.slice a n c, .iface 96 (.slice b m d)])) w := by
  subst hn
  have hl : (cycBy pl M M.length).reverse.length = m := by rw [List.length_reverse]; exact hm.symm
  have ho := h.own
  have hs := h.sco
  rw [List.length_reverse, List.length_map] at ho
  rw [List.length_reverse, cyc_lenB, ← hm] at hs
  have hr := h.rows
  rw [rowsBy_end] at hr
  refine ⟨a, c, _, rfl, ho, .inr ⟨by simpa using he, b, d, (cycV vs M M.length).reverse, by rw [hl], by rw [hl]; exact hs, (hr.cycRows M.length (Nat.le_refl _)).rev⟩, h.below hB⟩

theorem SF.postN2 {w0 w : World} {B : Nat} {vs ys : List Value} {M : List (List Int)} {a : Option Addr} {n c : Nat} {l : List (List Int)} {sb : Value} (h : SF w0 w B vs (M.map topV).reverse ys l (.slice a n c) sb)
    (hB : B ≤ w0.heap.size) (hn : n = M.length) (he : cycBy pl M M.length = []) : SortedPost2 pl w0 B M (.returned (.tuple #[.slice a n c, .nilIface])) w := by
  subst hn
  have ho := h.own
  rw [List.length_reverse, List.length_map] at ho
  exact ⟨a, c, _, rfl, ho, .inl ⟨by rw [he]; rfl, rfl⟩, h.below hB⟩

set_option maxRecDepth 100000 in
set_option maxHeartbeats 2000000 in
theorem sortedFrom2_any (ql : Nat) (w0 : World) (a : Option Addr) (c B : Nat) (vs : List Value) (M : List (List Int)) (w : World) (hM : M.length ≤ 1000) (hl : ∀ k (hk : k < M.length), M[k].length ≤ 1000) (hov : w.ownsRow B 58 1 (.slice a M.length c) M.length vs)
    (hrows : NRows w B vs M) (hap : ∀ j ∈ blks vs, (Value.slice a M.length c).ownBlock ≠ some j) (hnd : (blks vs).Nodup) (hB : B ≤ w.heap.size) (hbig : pl.length ≤ 1048576) (hsub : ∀ c ∈ M, ∀ z ∈ c, z ∈ pl) (hpl : PlAt w0 ql pl) (hB0 : w0.heap.size ≤ B) (hb0 : Below w0.heap.size w0 w) :
    Calls Tryz.prog 49 #[.slice a M.length c, .func (.func 37) #[] #[.pointer (some ⟨ql, 0, none⟩)]] w (SortedPost2 pl w B M) := by
  have hmk := fun W => run_make_cap (P := Tryz.prog) 58 81 .nilIface 16 Tryz.underlying58 info_node rfl M.length (by omega) (by omega) W
  have hsf : SF w (w.alloc (.cells (madeCells #[.nilIface] M.length) 81)) B vs [] [] (rowsBy pl M 0) (.slice (some ⟨w.heap.size, 0, none⟩) 0 M.length) (.slice none 0 0) := by
    refine ⟨World.ownsRow_made w _ _ (Nat.le_refl _) (by unfold maxLen; omega) (by rw [size_madeCells, Nat.mul_one]), World.ownsRow_nil _ _ _ _, fun j _ e => by simp [Value.ownBlock] at e, fun _ => rfl, ?_, fun j hj _ => Below.heap_alloc _ _ _ hj, rfl, rfl, rfl, by simp, fun j hj => (hrows.lt j hj).2⟩
    rw [rowsBy_zero]
    exact hrows.same fun j hj => Below.heap_alloc _ _ _ (hrows.lt j hj).2
  have hrow : Hid (∀ (k : Nat) (hk : k < M.length), ∃ ga v, a = some ⟨ga, 0, none⟩ ∧ vs[k]? = some v ∧ ∀ W xs ys l sa sb, SF w W B vs xs ys l sa sb → W.cell? ⟨ga, k, none⟩ = some v) := fun k hk => by
    obtain ⟨ga, rfl, _⟩ := owns_at hov (by omega)
    have hv : vs[k]? = some (vs[k]'(by rw [hrows.1]; exact hk)) := List.getElem?_eq_getElem _
    refine ⟨ga, _, rfl, hv, fun W xs ys l sa sb h => ?_⟩
    rw [World.cell?_of_block (a := ⟨ga, k, none⟩) (h.keep ga (hov.lt ga rfl).2 fun hm => hap ga hm rfl)]
    exact owns_cell hov hv
  have hlh := Lib.hid hl
  have hndh := Lib.hid hnd
  have hsubh : Hid (∀ k (hk : k < M.length), ∀ z ∈ M[k], z ∈ pl) := fun k hk => hsub _ (List.getElem_mem hk)
  have hplh := Lib.hid hpl
  have hb0h := Lib.hid hb0
  clear hov hrows hap hl hnd hsub hpl hb0
  go_enter Tryz.func49, Tryz.ntmps49
  go_wp2
  obtain ⟨w1, hw1⟩ : ∃ w1, w1 = w.alloc (.cells (madeCells #[.nilIface] M.length) 81) := ⟨_, rfl⟩
  rw [← hw1] at hsf ⊢
  clear hw1 hmk
  have hsfh := Lib.hid hsf
  clear hsf
  go_loopw [6, 7, 9, 16] (fun s sc _ i wr => ∃ (k g c : Nat) (b : Option Addr) (m d : Nat), k ≤ M.length ∧ i = .int .i64 k ∧ s = .slice (some ⟨g, 0, none⟩) k c ∧ sc = .slice b m d ∧ m = (cycV vs M k).length ∧
    SF w wr B vs ((M.take k).map topV) (cycV vs M k) (rowsBy pl M k) (.slice (some ⟨g, 0, none⟩) k c) (.slice b m d)) (fun _ _ _ i _ => M.length - (intOf i).toNat)
  case atStart => exact ⟨0, _, _, none, 0, 0, Nat.zero_le _, rfl, rfl, rfl, rfl, hsfh.out⟩
  case round =>
    obtain ⟨k, g, c1, b, m, d, hk, rfl, rfl, rfl, hm, hsf⟩ := hrel
    by_cases hlt : k < M.length
    · obtain ⟨ga, v, rfl, hv, hcell⟩ := hrow.out k hlt
      have hc := hcell wr _ _ _ _ _ hsf
      have hrw := hsf.rows.2 k v _ hv (rowsBy_get hlt)
      have hll := hlh.out k hlt
      have htk := take_topV hlt
      have hs0 := hsf.size
      have hxl : ((M.take k).map topV).length = k := by rw [List.length_map, List.length_take]; omega
      have hso : Hid (∀ o, (wr.alloc o).ownsRow w.heap.size 81 1 (.slice (some ⟨g, 0, none⟩) k c1) k ((M.take k).map topV)) := fun o => by have := hsf.own; rw [hxl] at this; exact this.alloc o
      have hmk : m ≤ k := by rw [hm]; exact cycV_le vs M k
      by_cases h1 : M[k].length = 1
      · have hfin : Hid (∀ o b2 c2 w2, w2.ownsRow w.heap.size 81 1 (.slice b2 (k + 1) c2) (k + 1) ((M.take k).map topV ++ [topV M[k]]) → (wr.alloc o).grownBy w2 (Value.slice (some ⟨g, 0, none⟩) k c1).ownBlock → (b2 = some ⟨g, 0, none⟩ ∨ b2 = some ⟨(wr.alloc o).heap.size, 0, none⟩) →
            m = (cycV vs M (k + 1)).length ∧ ∃ g2, b2 = some ⟨g2, 0, none⟩ ∧ SF w w2 B vs ((M.take (k + 1)).map topV) (cycV vs M (k + 1)) (rowsBy pl M (k + 1)) (.slice b2 (k + 1) c2) (.slice b m d)) := fun o b2 c2 w2 h2 hg2 hat2 => by
          refine ⟨by rw [cycV_one hlt h1]; exact hm, ?_⟩
          have hq := hsf.push hg2 h2 hat2 hxl.symm
          rw [htk, cycV_one hlt h1, rowsBy_one hlt h1]
          obtain ⟨g2, e, _⟩ := owns_at h2 (by omega)
          exact ⟨g2, e, hq⟩
        obtain ⟨x, hx⟩ := List.length_eq_one_iff.1 h1
        obtain ⟨ag, cg, rfl, _, hcs, _⟩ := owns_cells hrw
        have htop : topV M[k] = nodev x := by rw [hx]; rfl
        rw [htop] at hfin
        rw [h1] at hc
        rw [hx] at hcs
        obtain ⟨nb, no, rfl, _, hr⟩ := hcs.at (by rw [nodes_length]; exact Nat.one_pos)
        have hnd := hr 0 _ (show (nodes [x])[0]? = some (nodev x) from rfl)
        rw [Nat.add_zero] at hnd
        unfold nodev at hnd hfin
        clear hcs hr hx h1 htop htk hrw hxl hsf hm hv hcell hrow hll
        go_wp2_with (at_builtin; refine append_law 58 81 .nilIface 1 16 Tryz.underlying58 info_node rfl (by omega) (by omega) rfl _ _ rfl w.heap.size (some ⟨g, 0, none⟩) k c1 ((M.take k).map topV) rfl (unhide hso _) ⟨wr.heap.size, 0, none⟩ 1 1 [.iface 204 (.int .i64 x)] rfl rfl (new_one wr _ _) (one_node _) (by omega) (by simp; omega) ?_; intro b2 c2 w2 hown2 hg2 hat2; have hf := Lib.hid (hfin.out _ _ _ _ hown2 hg2 hat2); clear hown2 hg2 hat2)
        obtain ⟨hm2, g2, rfl, hsf2⟩ := hf.out
        go_roundw
        case rel => exact ⟨k + 1, g2, c2, b, m, d, by omega, by go_num, rfl, rfl, hm2, hsf2⟩
        case measure => simp [intOf]; omega
      · have hfin : Hid (∀ w5, w5.ownsRow B 81 1 v M[k].length (nodes ((srtBy pl) M[k])) → wr.grownBy w5 v.ownBlock → (∀ o, (w5.alloc o).ownsRow w.heap.size 58 1 (.slice b m d) m (cycV vs M k)) ∧ w.heap.size ≤ w5.heap.size ∧
            ∀ o b6 c6 w6, w6.ownsRow w.heap.size 58 1 (.slice b6 (m + 1) c6) (m + 1) (cycV vs M k ++ [v]) → (w5.alloc o).grownBy w6 (Value.slice b m d).ownBlock → (b6 = b ∨ b6 = some ⟨(w5.alloc o).heap.size, 0, none⟩) →
            (∀ o, (w6.alloc o).ownsRow w.heap.size 81 1 (.slice (some ⟨g, 0, none⟩) k c1) k ((M.take k).map topV)) ∧ w.heap.size ≤ w6.heap.size ∧
            ∀ o b2 c2 w2, w2.ownsRow w.heap.size 81 1 (.slice b2 (k + 1) c2) (k + 1) ((M.take k).map topV ++ [.nilIface]) → (w6.alloc o).grownBy w2 (Value.slice (some ⟨g, 0, none⟩) k c1).ownBlock → (b2 = some ⟨g, 0, none⟩ ∨ b2 = some ⟨(w6.alloc o).heap.size, 0, none⟩) →
              m + 1 = (cycV vs M (k + 1)).length ∧ ∃ g2, b2 = some ⟨g2, 0, none⟩ ∧ SF w w2 B vs ((M.take (k + 1)).map topV) (cycV vs M (k + 1)) (rowsBy pl M (k + 1)) (.slice b2 (k + 1) c2) (.slice b6 (m + 1) c6)) := fun w5 h5 hg5 => by
          have e5 : M[k].length = ((srtBy pl) M[k]).length := (srtBy_length pl _).symm
          rw [e5] at h5
          have s5 := hsf.order hndh.out hv h5 hg5
          refine ⟨fun o => by have := s5.sco; rw [← hm] at this; exact this.alloc o, s5.size, fun o b6 c6 w6 h6 hg6 hat6 => ?_⟩
          have s6 := s5.pushC hg6 h6 hat6 hm
          refine ⟨fun o => by have := s6.own; rw [hxl] at this; exact this.alloc o, s6.size, fun o b2 c2 w2 h2 hg2 hat2 => ?_⟩
          have s7 := s6.push hg2 h2 hat2 hxl.symm
          have htop : topV M[k] = .nilIface := by unfold topV; rw [if_neg h1]
          refine ⟨by rw [cycV_more hlt h1 hv, List.length_append, ← hm]; rfl, ?_⟩
          obtain ⟨g2, e, _⟩ := owns_at h2 (by omega)
          refine ⟨g2, e, ?_⟩
          rw [htk, htop, cycV_more hlt h1 hv, rowsBy_succ hlt]
          exact s7
        obtain ⟨ag, cg, rfl, _, _, _⟩ := owns_cells hrw
        have hlex := Lib.hid (ordBy_any B M[k].length cg ag M[k] ql pl w0 wr (by omega) hbig (hsubh.out k hlt) hplh.out hB0 (hb0h.out.trans ((hsf.below hB).mono hB0)) hrw)
        obtain ⟨n, hn⟩ : ∃ n, n = M[k].length := ⟨_, rfl⟩
        rw [← hn] at hc hlex hfin h1
        have hn1 : ((n : Nat) : Int) ≠ 1 := by omega
        clear htk hrw hxl hsf hm hv hcell hrow hll hn h1 hso
        go_wp2_with fail
        refine (unhide hlex).mono ?_
        rintro e w5 ⟨rfl, h5, hg5⟩
        obtain ⟨hsc, hz5, hnx⟩ := hfin.out w5 h5 hg5
        have hsch := Lib.hid hsc
        have hnxh := Lib.hid hnx
        clear hsc hnx h5 hg5 hfin hlex hc
        go_wp2_with (first
          | (at_builtin; refine append_law 96 58 (.slice none 0 0) 1 24 Tryz.underlying96 info_nrow rfl (by omega) (by omega) rfl _ _ rfl w.heap.size b m d (cycV vs M k) rfl (unhide hsch _) ⟨w5.heap.size, 0, none⟩ 1 1 [.slice ag n cg] rfl rfl (new_one w5 _ _) (one_row _ _ _) (by omega) (by simp; omega) ?_; intro b6 c6 w6 hown6 hg6 hat6; have hf := Lib.hid (hnxh.out _ _ _ _ hown6 hg6 hat6); clear hown6 hg6 hat6; obtain ⟨hsa, hz6, hny⟩ := hf.out; have hsah := Lib.hid hsa; have hnyh := Lib.hid hny; clear hsa hny hf)
          | (at_builtin; refine append_law 58 81 .nilIface 1 16 Tryz.underlying58 info_node rfl (by omega) (by omega) rfl _ _ rfl w.heap.size (some ⟨g, 0, none⟩) k c1 ((M.take k).map topV) rfl (unhide hsah _) ⟨w6.heap.size, 0, none⟩ 1 1 [.nilIface] rfl rfl (new_one w6 _ _) (by intro u hu; simp at hu; subst hu; rfl) (by omega) (by simp; omega) ?_; intro b2 c2 w2 hown2 hg2 hat2; have hf := Lib.hid (hnyh.out _ _ _ _ hown2 hg2 hat2); clear hown2 hg2 hat2))
        obtain ⟨hm2, g2, rfl, hsf2⟩ := hf.out
        go_roundw
        case rel => exact ⟨k + 1, g2, c2, b6, m + 1, c6, by omega, by go_num, rfl, rfl, hm2, hsf2⟩
        case measure => simp [intOf]; omega
    · have hkn : k = M.length := by omega
      subst hkn
      rw [List.take_length] at hsf
      have hsize := hsf.size
      have hxl : (M.map topV).length = M.length := List.length_map _
      have hown := hsf.own
      rw [hxl] at hown
      have hx1 : ∀ u ∈ M.map topV, u.oneCell' = true := fun u hu => by
        obtain ⟨c, _, rfl⟩ := List.mem_map.1 hu
        unfold topV nodev
        split <;> rfl
      rcases hys : cycV vs M M.length with _ | ⟨y, ys⟩
      · have e := hsf.nil hys
        injection e with e1 e2 e3
        subst e1; subst e2; subst e3
        have hcl : cycBy pl M M.length = [] := List.eq_nil_of_length_eq_zero (by rw [← cyc_lenB vs M, hys]; rfl)
        have hrev : Hid (Calls Tryz.prog 66 #[.slice (some ⟨g, 0, none⟩) M.length c1] wr fun e' w' => e' = .returned (.tuple #[]) ∧ w'.ownsRow w.heap.size 81 1 (.slice (some ⟨g, 0, none⟩) M.length c1) M.length (M.map topV).reverse ∧ wr.grownBy w' (Value.slice (some ⟨g, 0, none⟩) M.length c1).ownBlock) :=
          reverse_own rvNLays w.heap.size 81 M.length c1 (some ⟨g, 0, none⟩) (M.map topV) wr hx1 (by omega) hown
        have hfin : Hid (∀ w', w'.ownsRow w.heap.size 81 1 (.slice (some ⟨g, 0, none⟩) M.length c1) M.length (M.map topV).reverse → wr.grownBy w' (Value.slice (some ⟨g, 0, none⟩) M.length c1).ownBlock → SortedPost2 pl w B M (.returned (.tuple #[.slice (some ⟨g, 0, none⟩) M.length c1, .nilIface])) w') := fun w' h' hg' =>
          (hsf.turnS hg' List.length_reverse (by rw [hxl]; exact h')).postN2 hB rfl hcl
        clear hsf hown hx1 hxl hrow hm hcl hys
        go_wp2_with fail
        refine (unhide hrev).mono ?_
        rintro e w5 ⟨rfl, h5, hg5⟩
        have hf := Lib.hid (hfin.out w5 h5 hg5)
        clear h5 hg5
        go_wp2_with fail
        go_ret2
        exact hf.out
      · have hm0 : 0 < m := by rw [hm, hys]; simp
        have hcl : cycBy pl M M.length ≠ [] := fun e => by
          have := cyc_lenB (pl := pl) vs M M.length
          rw [hys, e] at this
          simp at this
        have hmc : m = (cycBy pl M M.length).length := by rw [hm, cyc_lenB]
        have hmk := cycV_le vs M M.length
        have hsco := hsf.sco
        rw [← hm] at hsco
        obtain ⟨gb, rfl, _⟩ := owns_at hsco hm0
        have hy1 : ∀ u ∈ cycV vs M M.length, u.oneCell' = true := by
          have hr := hsf.rows
          rw [rowsBy_end] at hr
          exact (hr.cycRows M.length (Nat.le_refl _)).one
        have hrev : Hid (Calls Tryz.prog 80 #[.slice (some ⟨gb, 0, none⟩) m d] wr fun e' w' => e' = .returned (.tuple #[]) ∧ w'.ownsRow w.heap.size 58 1 (.slice (some ⟨gb, 0, none⟩) m d) m (cycV vs M M.length).reverse ∧ wr.grownBy w' (Value.slice (some ⟨gb, 0, none⟩) m d).ownBlock) :=
          reverse_own rvULays w.heap.size 58 m d (some ⟨gb, 0, none⟩) (cycV vs M M.length) wr hy1 (by omega) hsco
        have hfin : Hid (∀ w5, w5.ownsRow w.heap.size 58 1 (.slice (some ⟨gb, 0, none⟩) m d) m (cycV vs M M.length).reverse → wr.grownBy w5 (Value.slice (some ⟨gb, 0, none⟩) m d).ownBlock →
            Hid (Calls Tryz.prog 66 #[.slice (some ⟨g, 0, none⟩) M.length c1] w5 fun e' w' => e' = .returned (.tuple #[]) ∧ w'.ownsRow w.heap.size 81 1 (.slice (some ⟨g, 0, none⟩) M.length c1) M.length (M.map topV).reverse ∧ w5.grownBy w' (Value.slice (some ⟨g, 0, none⟩) M.length c1).ownBlock) ∧
            ∀ w', w'.ownsRow w.heap.size 81 1 (.slice (some ⟨g, 0, none⟩) M.length c1) M.length (M.map topV).reverse → w5.grownBy w' (Value.slice (some ⟨g, 0, none⟩) M.length c1).ownBlock →
              SortedPost2 pl w B M (.returned (.tuple #[.slice (some ⟨g, 0, none⟩) M.length c1, .iface 96 (.slice (some ⟨gb, 0, none⟩) m d)])) w') := fun w5 h5 hg5 => by
          have s5 := hsf.turnC hg5 List.length_reverse (by rw [← hm]; exact h5)
          have own5 := s5.own
          rw [hxl] at own5
          exact ⟨reverse_own rvNLays w.heap.size 81 M.length c1 (some ⟨g, 0, none⟩) (M.map topV) w5 hx1 (by omega) own5,
            fun w' h' hg' => (s5.turnS hg' List.length_reverse (by rw [hxl]; exact h')).post2 hB rfl hmc hcl⟩
        clear hsf hown hx1 hy1 hxl hrow hm hcl hys hsco hmc
        go_wp2_with fail
        refine (unhide hrev).mono ?_
        rintro e w5 ⟨rfl, h5, hg5⟩
        obtain ⟨hrv, hfn⟩ := hfin.out w5 h5 hg5
        have hfnh := Lib.hid hfn
        clear h5 hg5 hfin hfn
        go_wp2_with fail
        refine (unhide hrv).mono ?_
        rintro e w6 ⟨rfl, h6, hg6⟩
        have hf := Lib.hid (hfnh.out w6 h6 hg6)
        clear h6 hg6
        go_wp2_with fail
        go_ret2
        exact hf.out

end Go.Proofs.YtagnmdhdogaijaaGreat
