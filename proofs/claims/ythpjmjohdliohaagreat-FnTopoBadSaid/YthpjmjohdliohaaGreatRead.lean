/- impl.read: a graph laid into a plain one: the walk. -/
import Derived.Test.YthpjmjohdliohaaGreatIntsA
namespace Go.Proofs.YthpjmjohdliohaaGreat
open Go.RowKit

set_option maxRecDepth 100000 in
set_option maxHeartbeats 1000000 in
theorem read_any (g : Gr) (an : Option Addr) (cn : Nat) (ae : Option Addr) (ce : Nat) (w : World) (hn : g.nodes.length ≤ 1048575) (he : g.edges.length ≤ 1048576) (hg : GrAt w g an cn ae) :
    Calls Tryz.prog 38 #[.agg #[.bool g.dir, .slice an g.nodes.length cn, .slice ae g.edges.length ce]] w (ReadPost w g) := by
  go_enter Tryz.func38, Tryz.ntmps38
  go_wp2_with fail
  obtain ⟨w2, hw2⟩ : ∃ w2, w2 = (w.alloc (.cells #[.bool g.dir, .slice an g.nodes.length cn, .slice ae g.edges.length ce] 25)).alloc (.cells #[.slice none 0 0, .slice none 0 0, .slice none 0 0] 132) := ⟨_, rfl⟩
  have hz2 : w2.heap.size = w.heap.size + 2 := by rw [hw2]; simp
  have hp2 : PBlock w2 (w.heap.size + 1) (.slice none 0 0) (.slice none 0 0) (.slice none 0 0) := by
    rw [hw2]; unfold PBlock; rw [show w.heap.size + 1 = (w.alloc (.cells #[.bool g.dir, .slice an g.nodes.length cn, .slice ae g.edges.length ce] 25)).heap.size by simp]; exact heap_alloc_new _ _
  have hb2 : Below w.heap.size w w2 := by rw [hw2]; exact (alloc_below w _).trans ((alloc_below _ _).mono (by simp))
  have b0 : w2.cell? ⟨w.heap.size, 0, none⟩ = some (.bool g.dir) := by rw [hw2]; exact cell_alloc (by simp) _
  have b1 : w2.cell? ⟨w.heap.size, 1, none⟩ = some (.slice an g.nodes.length cn) := by rw [hw2]; exact cell_alloc (by simp) _
  have b2 : w2.cell? ⟨w.heap.size, 2, none⟩ = some (.slice ae g.edges.length ce) := by rw [hw2]; exact cell_alloc (by simp) _
  rw [← hw2]
  clear hw2
  have hgh := Lib.hid hg
  have hbh := Lib.hid hb2
  clear hg hb2
  have hbx := Lib.hid (And.intro b0 b2)
  go_loopw [18] (fun i wr => ∃ (k : Nat) (a : Option Addr) (c : Nat), k ≤ g.nodes.length ∧ i = .int .i64 k ∧ wr.ownsRow (w.heap.size + 2) 2 1 (.slice a k c) k (ints (g.nodes.take k)) ∧
    PBlock wr (w.heap.size + 1) (.slice a k c) (.slice none 0 0) (.slice none 0 0) ∧ Below (w.heap.size + 1) w2 wr) (fun i _ => g.nodes.length - (intOf i).toNat)
  case atStart => exact ⟨0, none, 0, Nat.zero_le _, rfl, World.ownsRow_nil _ _ _ _, hp2, Below.refl _ _⟩
  case round =>
    obtain ⟨k, a, c, hk, rfl, hown, hp, hb⟩ := hrel
    clear b0 b1 b2 hp2
    have hzr : w.heap.size + 2 ≤ wr.heap.size := by have := hb.size; omega
    by_cases hlt : k < g.nodes.length
    · obtain ⟨b, off, rfl, hbl, hr⟩ := hgh.out.nodes.at (by rw [ints_length]; omega)
      have c0 := hp.c0
      have c0' : ∀ o, (wr.alloc o).cell? ⟨w.heap.size + 1, 0, none⟩ = some (.slice a k c) := fun o => cell_alloc c0 o
      have hnode : wr.cell? ⟨b, off + k, none⟩ = some (.int .i64 g.nodes[k]) := by
        have := hr _ _ (ints_get g.nodes k hlt)
        exact cell_below ((unhide hbh).trans (hb.mono (by omega))) this
      have hstep : ∀ o w1 b1 c1, (wr.alloc o).grownBy w1 (Value.slice a k c).ownBlock → w1.ownsRow (w.heap.size + 2) 2 1 (.slice b1 (k + 1) c1) (k + 1) (ints (g.nodes.take k) ++ [.int .i64 g.nodes[k]]) →
          w1.cell? ⟨w.heap.size + 1, 0, none⟩ = some (.slice a k c) ∧ w1.frozen? ⟨w.heap.size + 1, 0, none⟩ = false ∧
          Hid ((w1.setCell ⟨w.heap.size + 1, 0, none⟩ (.slice b1 (k + 1) c1)).ownsRow (w.heap.size + 2) 2 1 (.slice b1 (k + 1) c1) (k + 1) (ints (g.nodes.take (k + 1))) ∧
            PBlock (w1.setCell ⟨w.heap.size + 1, 0, none⟩ (.slice b1 (k + 1) c1)) (w.heap.size + 1) (.slice b1 (k + 1) c1) (.slice none 0 0) (.slice none 0 0) ∧ Below (w.heap.size + 1) w2 (w1.setCell ⟨w.heap.size + 1, 0, none⟩ (.slice b1 (k + 1) c1))) := by
        intro o w1 b1 c1 hg1 ho1
        have hlt := hown.lt
        have hpo : PBlock (wr.alloc o) (w.heap.size + 1) (.slice a k c) (.slice none 0 0) (.slice none 0 0) := hp.below (alloc_below wr o) hp.lt
        have hp1 := hpo.kept hg1 (fun e => by have := (hlt _ e.symm).1; omega)
        rw [ints_take g.nodes k (by omega)] at ho1
        exact ⟨hp1.c0, hp1.free 0, set_old ho1 (by omega), hp1.set0 _, (((hb.alloc (by omega) o).grown hg1 (by simp; omega) (fun j e => by have := (hlt _ e).1; omega)).setCell (p := ⟨w.heap.size + 1, 0, none⟩) (Nat.le_refl _) _)⟩
      have howno : ∀ o, (wr.alloc o).ownsRow (w.heap.size + 2) 2 1 (.slice a k c) k (ints (g.nodes.take k)) := fun o => hown.alloc o
      have hs := Lib.hid hstep
      have ho := Lib.hid howno
      clear hstep howno hown hp hr
      go_wp2_with (at_builtin; refine append_law 129 2 (.int .i64 0) 1 8 Tryz.underlying129 info_int64 rfl (by omega) (by omega) rfl _ _ rfl (w.heap.size + 2) a k c (ints (g.nodes.take k)) rfl (unhide ho _) ⟨wr.heap.size, 0, none⟩ 1 1 [.int .i64 g.nodes[k]] rfl rfl (new_one wr _ _) (one_int _) (by omega) (by simp; omega) ?_; intro b1 cap1 w1 hown1 hg1 hat1; have hs1 := unhide hs _ _ _ _ hg1 hown1; have k0 := hs1.1; have k1 := hs1.2.1; have k2 := Lib.hid hs1.2.2; clear hs1 hown1 hg1 hat1)
      go_roundw
      case rel => exact ⟨k + 1, b1, cap1, by omega, by go_num, (unhide k2).1, (unhide k2).2.1, (unhide k2).2.2⟩
      case measure => simp [intOf]; omega
    · rw [take_all hk hlt] at hown
      have hkn : k = g.nodes.length := by omega
      subst hkn
      have c0 := hp.c0
      have hs := Lib.hid (sort64_any _ _ c a g.nodes wr (by omega) hown)
      have hlt2 := hown.lt
      clear hlt hk
      go_wp2_with fail
      refine (unhide hs).mono ?_
      rintro e w3 ⟨rfl, hown3, hg3⟩
      have hb3 : Below (w.heap.size + 1) w2 w3 := hb.grown hg3 (by omega) (fun k e => by have := (hlt2 k e).1; omega)
      have hp3 := hp.kept hg3 (fun e => by have := (hlt2 _ e.symm).1; omega)
      have hz3 : w.heap.size + 2 ≤ w3.heap.size := Nat.le_trans hzr hg3.size
      clear hs hlt2 hg3 hown hp c0 hb hzr
      have hal := asc_length g.nodes
      have hcl := Lib.hid (clone64_any _ _ c a (asc g.nodes) w3.drew (by omega) (show w3.drew.ownsRow _ _ _ _ _ _ from hown3))
      have hcomp := Lib.hid (fun base n cap a w hn hown => compact64_any base n cap a (asc g.nodes) w hn hown (asc_sorted _))
      have c0 := hp3.c0
      go_wp2_with fail
      go_cut [50] from 38 (fun s50 wx => s50 = .bool (!decide g.nodes.Nodup) ∧ Below w3.heap.size w3 wx)
      case first =>
        go_region_law (first
          | (go_simp; go_at_call 63; refine (unhide hcl).mono ?_; rintro e w4 ⟨a4, c4, rfl, hown4, hb4⟩; have c04 := cell_below hb4 c0)
          | (go_simp; go_at_call 62; refine (unhide hcomp _ _ _ _ _ (Nat.le_succ_of_le hn) hown4).mono ?_; rintro e w5 ⟨a5, m5, c5, rfl, hm5, hmn, hg5⟩; have c05 := hg5.cell c04 (fun e => by have := (hown4.lt _ e.symm).1; simp at this; omega)))
        all_goals go_wp2_with fail
        all_goals go_meet
        all_goals exact ⟨congrArg Value.bool (full_nodup hmn), ((drew_below w3).trans hb4).grown hg5 hb4.size (fun k e => (hown4.lt k e).1)⟩
      case rest =>
        obtain ⟨rfl, hb5⟩ := hcut
        obtain ⟨wo, rfl⟩ : ∃ wo : World, wo = wc := ⟨_, rfl⟩
        clear hcl hcomp c0
        have hp5 := hp3.below hb5 hp3.lt
        have hown5 := hown3.kept (grown_of_below hb5 (row := none)) (by cases (Value.slice a g.nodes.length c).ownBlock <;> simp)
        have hb5' : Below (w.heap.size + 1) w2 wo := hb3.trans (hb5.mono (by omega))
        have hz5 : w.heap.size + 2 ≤ wo.heap.size := Nat.le_trans hz3 hb5.size
        clear hp3 hown3 hb3 hz3 hb5
        by_cases hnd : g.nodes.Nodup
        · have hd : decide g.nodes.Nodup = true := decide_eq_true hnd
          rw [hd]
          have c0 := hp5.c0
          have c1 := hp5.c1
          have c2 := hp5.c2
          have c01 : ∀ o, (wo.alloc o).cell? ⟨w.heap.size + 1, 0, none⟩ = _ := fun o => cell_alloc c0 o
          have c11 : ∀ o, (wo.alloc o).cell? ⟨w.heap.size + 1, 1, none⟩ = some (.slice none 0 0) := fun o => cell_alloc c1 o
          have c12 : ∀ o o', ((wo.alloc o).alloc o').cell? ⟨w.heap.size + 1, 1, none⟩ = some (.slice none 0 0) := fun o o' => cell_alloc (c11 o) o'
          have f11 : ∀ o, (wo.alloc o).frozen? ⟨w.heap.size + 1, 1, none⟩ = false := fun o => free_below (alloc_below wo o) c1 (hp5.free 1)
          have f12 : ∀ o o', ((wo.alloc o).alloc o').frozen? ⟨w.heap.size + 1, 1, none⟩ = false := fun o o' => free_below (alloc_below _ o') (c11 o) (f11 o)
          have c21 : ∀ o, (wo.alloc o).cell? ⟨w.heap.size + 1, 2, none⟩ = some (.slice none 0 0) := fun o => cell_alloc c2 o
          have c22 : ∀ o o', ((wo.alloc o).alloc o').cell? ⟨w.heap.size + 1, 2, none⟩ = some (.slice none 0 0) := fun o o' => cell_alloc (c21 o) o'
          have f21 : ∀ o, (wo.alloc o).frozen? ⟨w.heap.size + 1, 2, none⟩ = false := fun o => free_below (alloc_below wo o) c2 (hp5.free 2)
          have f22 : ∀ o o', ((wo.alloc o).alloc o').frozen? ⟨w.heap.size + 1, 2, none⟩ = false := fun o o' => free_below (alloc_below _ o') (c21 o) (f21 o)
          have s12 : ∀ o v o', (((wo.alloc o).setCell ⟨w.heap.size + 1, 2, none⟩ v).alloc o').cell? ⟨w.heap.size + 1, 1, none⟩ = some (.slice none 0 0) := fun o v o' => cell_alloc ((World.cell?_setCell_other _ _ _ _ (by simp)).trans (c11 o)) o'
          have t12 : ∀ o v o', (((wo.alloc o).setCell ⟨w.heap.size + 1, 2, none⟩ v).alloc o').frozen? ⟨w.heap.size + 1, 1, none⟩ = false := fun o v o' => free_below (alloc_below _ o') ((World.cell?_setCell_other _ _ _ _ (by simp)).trans (c11 o)) (by simpa using f11 o)
          have s21 : ∀ o v o', (((wo.alloc o).setCell ⟨w.heap.size + 1, 1, none⟩ v).alloc o').cell? ⟨w.heap.size + 1, 2, none⟩ = some (.slice none 0 0) := fun o v o' => cell_alloc ((World.cell?_setCell_other _ _ _ _ (by simp)).trans (c21 o)) o'
          have t21 : ∀ o v o', (((wo.alloc o).setCell ⟨w.heap.size + 1, 1, none⟩ v).alloc o').frozen? ⟨w.heap.size + 1, 2, none⟩ = false := fun o v o' => free_below (alloc_below _ o') ((World.cell?_setCell_other _ _ _ _ (by simp)).trans (c21 o)) (by simpa using f21 o)
          have hnd' := Lib.hid hnd
          have hown5' := Lib.hid hown5
          have hp5' := Lib.hid hp5
          clear hnd hown5 hp5 hal hd
          have hmk := fun W => run_make_row' (P := Tryz.prog) 130 174 (.slice none 0 0) 24 Tryz.underlying130 info_arcs rfl .i64 .i64 g.nodes.length (by omega) (by omega) W
          go_wp2_with fail
          go_cut [] from 52 (fun wx => MadeAt wo wx (w.heap.size + 1) g.nodes.length (.slice a g.nodes.length c))
          case first =>
            go_region
            all_goals go_wp2_with fail
            all_goals go_meet
            · exact made_12 hp5'.out _ _ (.inl ⟨rfl, rfl⟩)
            · exact made_mid hp5'.out
            · exact made_12 hp5'.out _ _ (.inr ⟨rfl, rfl⟩)
          case rest =>
            obtain ⟨g1, g2, hbu, cc0, hg1, hg2, hgr⟩ := made_built hcut (unhide hp5').lt hn
            have hb6 : Below (w.heap.size + 1) w2 wc := hb5'.grown hgr (by omega) (fun k e => by injection e with e; omega)
            have own6 := (unhide hown5').kept hgr (.inr (fun e => by have := ((unhide hown5').lt _ e).1; omega))
            have hlt6 := (unhide hown5').lt
            have b0 : wc.cell? ⟨w.heap.size, 0, none⟩ = some (.bool g.dir) := by rw [hb6.cell (by simp)]; exact hbx.out.1
            have b2 : wc.cell? ⟨w.heap.size, 2, none⟩ = some (.slice ae g.edges.length ce) := by rw [hb6.cell (by simp)]; exact hbx.out.2
            have hgr0 := hgr.size
            clear hcut hb5' hgr hown5' hp5' hmk c0 c1 c2 c01 c11 c12 f11 f12 c21 c22 f21 f22 s12 t12 s21 t21
            have hal' := asc_length g.nodes
            have hBs : wo.heap.size ≤ wc.heap.size := hgr0
            go_wp2_with fail
            go_loopw [73] (fun i wr => ∃ (k : Nat) (vo vi : List Value), k ≤ g.edges.length ∧ i = .int .i64 k ∧ (∀ j (hj : j < g.edges.length), j < k → okEdge g.nodes g.edges[j] = true) ∧
              Built wr wc.heap.size (w.heap.size + 1) g.nodes.length 1 g1 vo (tabs bitsOf (asc g.nodes) g.dir (g.edges.take k)).1 2 g2 vi (tabs bitsOf (asc g.nodes) g.dir (g.edges.take k)).2 ∧
              (∀ l ∈ (tabs bitsOf (asc g.nodes) g.dir (g.edges.take k)).1, RowOk g.nodes.length l) ∧ (∀ l ∈ (tabs bitsOf (asc g.nodes) g.dir (g.edges.take k)).2, RowOk g.nodes.length l) ∧
              Kept wc.heap.size g1 g2 wc wr) (fun i _ => g.edges.length - (intOf i).toNat)
            case atStart => exact ⟨0, _, _, Nat.zero_le _, rfl, fun j _ hj => absurd hj (Nat.not_lt_zero _), by simpa [tabs, hal'] using hbu, fun l hl => by simp [tabs] at hl; rw [hl.2]; exact RowOk.nil _, fun l hl => by simp [tabs] at hl; rw [hl.2]; exact RowOk.nil _, Kept.refl _ _ _ _⟩
            case round =>
              obtain ⟨k, vo, vi, hk, rfl, hok0, hbr, hr1, hr2, hkr⟩ := hrel
              have hbr0 : Below (w.heap.size + 1) w2 wr := hb6.trans (hkr.below (by omega) (by omega) (by omega))
              have cr0 : wr.cell? ⟨w.heap.size + 1, 0, none⟩ = some (.slice a g.nodes.length c) := (World.cell?_of_block (hkr.block (w.heap.size + 1) (by omega) (by omega) (by omega))).trans cc0
              have ownr := owns_same own6 (fun k hk => hkr.block k (by have := hlt6 k hk; omega) (by have := hlt6 k hk; omega) (by have := hlt6 k hk; omega))
              have br0 : wr.cell? ⟨w.heap.size, 0, none⟩ = some (.bool g.dir) := by rw [hbr0.cell (by simp)]; exact hbx.out.1
              have br1 : ∀ o, (wr.alloc o).cell? ⟨w.heap.size, 0, none⟩ = some (.bool g.dir) := fun o => cell_alloc br0 o
              have hzr2 : w.heap.size + 2 ≤ wr.heap.size := by have := hkr.size; omega
              have hok := Lib.hid hok0
              have hR1 := Lib.hid hr1
              have hR2 := Lib.hid hr2
              have hK := Lib.hid hkr
              have hB := Lib.hid hbr
              clear hok0 hr1 hr2 hkr hbr cc0 b0 b2 hbu own6 hb6
              by_cases hlt : k < g.edges.length
              · have hgw := (unhide hgh).below ((unhide hbh).trans (hbr0.mono (by omega)))
                obtain ⟨b, off, rfl, hbl, hr⟩ := hgw.edges.at (by rw [edgeCells_length]; omega)
                obtain ⟨e1, e2, e3⟩ := edge_cells hr hlt
                clear hr hgw
                obtain ⟨u, v, x, hux⟩ : ∃ u v x, g.edges[k] = (u, v, x) := ⟨_, _, _, rfl⟩
                rw [hux] at e1 e2 e3
                have hu := Lib.hid hux
                clear hux
                simp only [] at e1 e2 e3
                have hcl : ∀ o, Cells (wr.alloc o) a (ints (asc g.nodes)) := fun o => by
                  obtain ⟨a2, c2, hv2, _, hc2, _⟩ := owns_cells ownr
                  injection hv2 with hv2; subst hv2
                  exact hc2.alloc o
                have hpi := Lib.hid (fun o x => pindex_any (w.heap.size + 1) a g.nodes.length c (asc g.nodes) x (wr.alloc o) (cell_alloc cr0 o) hal'.symm (by omega) (hcl o) (asc_incr (unhide hnd')))
                clear hcl ownr
                by_cases t2 : u ∈ g.nodes
                · have t2' : decide (u ∈ asc g.nodes) = true := decide_eq_true (asc_mem.2 t2)
                  by_cases t3 : v ∈ g.nodes
                  · have t3' : decide (v ∈ asc g.nodes) = true := decide_eq_true (asc_mem.2 t3)
                    by_cases t1 : u = v
                    · subst t1
                      have hfin : Hid (okGraph g = false) := okGraph_false hlt (by rw [hu.out]; simp [okEdge])
                      clear t2 t3
                      go_wp2_with (go_at_call 64; refine (unhide hpi _ _).mono ?_; rintro e w' ⟨rfl, rfl⟩)
                      all_goals go_ret2
                      all_goals exact ⟨_, rfl, hfin.out.symm, (unhide hbh).trans ((hbr0.mono (by omega)).alloc (by omega) _), by simp; omega, fun h => by rw [hfin.out] at h; cases h⟩
                    · by_cases t4 : 1099511627776 < x
                      · have hfin : Hid (okGraph g = false) := okGraph_false hlt (by rw [hu.out]; simp [okEdge]; omega)
                        clear t1 t2 t3
                        go_wp2_with (go_at_call 64; refine (unhide hpi _ _).mono ?_; rintro e w' ⟨rfl, rfl⟩)
                        all_goals go_ret2
                        all_goals exact ⟨_, rfl, hfin.out.symm, (unhide hbh).trans ((hbr0.mono (by omega)).alloc (by omega) _), by simp; omega, fun h => by rw [hfin.out] at h; cases h⟩
                      · by_cases t5 : x < -1099511627776
                        · have hfin : Hid (okGraph g = false) := okGraph_false hlt (by rw [hu.out]; simp [okEdge]; omega)
                          clear t1 t2 t3
                          go_wp2_with (go_at_call 64; refine (unhide hpi _ _).mono ?_; rintro e w' ⟨rfl, rfl⟩)
                          all_goals go_ret2
                          all_goals exact ⟨_, rfl, hfin.out.symm, (unhide hbh).trans ((hbr0.mono (by omega)).alloc (by omega) _), by simp; omega, fun h => by rw [hfin.out] at h; cases h⟩
                        · obtain ⟨hpu, heu⟩ := posOf_mem (asc_incr (unhide hnd')) (asc_mem.2 t2)
                          obtain ⟨hpv, hev⟩ := posOf_mem (asc_incr (unhide hnd')) (asc_mem.2 t3)
                          have hpq : ¬ posOf (asc g.nodes) u = posOf (asc g.nodes) v := fun e => t1 (by rw [← heu, ← hev]; simp only [e])
                          have hpq' : ((posOf (asc g.nodes) u : Int) == (posOf (asc g.nodes) v : Int)) = false := by rw [beq_eq_false_iff_ne]; omega
                          have hoe : okEdge g.nodes g.edges[k] = true := by rw [hu.out]; simp [okEdge, t1, t2, t3]; omega
                          have hoks : ∀ j (hj : j < g.edges.length), j < k + 1 → okEdge g.nodes g.edges[j] = true := fun j hj h => by
                            rcases Nat.lt_or_eq_of_le (Nat.le_of_lt_succ h) with h | h
                            · exact hok.out j hj h
                            · subst h; exact hoe
                          have hst := tabs_step bitsOf (asc g.nodes) g.dir g.edges k hlt
                          rw [hu.out] at hst
                          rw [hal'] at hpu hpv
                          have hoks' := Lib.hid hoks
                          have hst' := Lib.hid hst
                          clear hoks hst hoe heu hev t1 t2 t3
                          have hRR : Hid ((∀ l ∈ (tabs bitsOf (asc g.nodes) g.dir (g.edges.take (k + 1))).1, RowOk g.nodes.length l) ∧ (∀ l ∈ (tabs bitsOf (asc g.nodes) g.dir (g.edges.take (k + 1))).2, RowOk g.nodes.length l)) := by
                            unfold Hid
                            rw [hst'.out]; exact layE_ok (unhide hR1) (unhide hR2) hpu hpv
                          rcases hdir : g.dir with _ | _
                          · have hlay := Lib.hid (lay_und wc.heap.size (w.heap.size + 1) g.nodes.length g1 g2 vo vi _ _ (posOf (asc g.nodes) u) (posOf (asc g.nodes) v) (floatOfInt FloatKind.f64 x) _ ((unhide hB).alloc (.cells #[.int .i64 u, .int .i64 v, .int .i64 x] 41)) hpu hpv hn (unhide hR1) (unhide hR2))
                            go_wp2_with (go_at_call 64; refine (unhide hpi _ _).mono ?_; rintro e w' ⟨rfl, rfl⟩)
                            refine (unhide hlay).mono ?_
                            rintro e w' ⟨rfl, ⟨v1', v2', hb'⟩, hk'⟩
                            go_wp2
                            have hB' : Hid (Built w' wc.heap.size (w.heap.size + 1) g.nodes.length 1 g1 v1' (tabs bitsOf (asc g.nodes) g.dir (g.edges.take (k + 1))).1 2 g2 v2' (tabs bitsOf (asc g.nodes) g.dir (g.edges.take (k + 1))).2) := by
                              unfold Hid
                              rw [hst'.out]; unfold layE; rw [hdir]; rw [hdir] at hb'; exact hb'
                            have hK' : Hid (Kept wc.heap.size g1 g2 wc w') := (unhide hK).trans ((Kept.ofBelow ((alloc_below wr _).mono (by have := (unhide hB).hB; omega))).trans hk')
                            go_roundw
                            case rel => ((repeat apply Exists.intro); exact ⟨⟨k + 1, v1', v2', by omega, by go_num, hoks'.out, by have := hB'.out; rw [hdir] at this; exact this, by have := hRR.out.1; rw [hdir] at this; exact this, by have := hRR.out.2; rw [hdir] at this; exact this, hK'.out⟩, rfl⟩)
                            case measure => simp [intOf]; omega
                          · have hlay := Lib.hid (lay_dir wc.heap.size (w.heap.size + 1) g.nodes.length g1 g2 vo vi _ _ (posOf (asc g.nodes) u) (posOf (asc g.nodes) v) (floatOfInt FloatKind.f64 x) _ ((unhide hB).alloc (.cells #[.int .i64 u, .int .i64 v, .int .i64 x] 41)) hpu hpv hn (unhide hR1) (unhide hR2))
                            go_wp2_with (go_at_call 64; refine (unhide hpi _ _).mono ?_; rintro e w' ⟨rfl, rfl⟩)
                            refine (unhide hlay).mono ?_
                            rintro e w' ⟨rfl, ⟨v1', v2', hb'⟩, hk'⟩
                            go_wp2
                            have hB' : Hid (Built w' wc.heap.size (w.heap.size + 1) g.nodes.length 1 g1 v1' (tabs bitsOf (asc g.nodes) g.dir (g.edges.take (k + 1))).1 2 g2 v2' (tabs bitsOf (asc g.nodes) g.dir (g.edges.take (k + 1))).2) := by
                              unfold Hid
                              rw [hst'.out]; unfold layE; rw [hdir]; rw [hdir] at hb'; exact hb'
                            have hK' : Hid (Kept wc.heap.size g1 g2 wc w') := (unhide hK).trans ((Kept.ofBelow ((alloc_below wr _).mono (by have := (unhide hB).hB; omega))).trans hk')
                            go_roundw
                            case rel => ((repeat apply Exists.intro); exact ⟨⟨k + 1, v1', v2', by omega, by go_num, hoks'.out, by have := hB'.out; rw [hdir] at this; exact this, by have := hRR.out.1; rw [hdir] at this; exact this, by have := hRR.out.2; rw [hdir] at this; exact this, hK'.out⟩, rfl⟩)
                            case measure => simp [intOf]; omega
                  · have t3' : decide (v ∈ asc g.nodes) = false := decide_eq_false (fun h => t3 (asc_mem.1 h))
                    have hfin : Hid (okGraph g = false) := okGraph_false hlt (by rw [hu.out]; simp [okEdge, t3])
                    clear t2
                    go_wp2_with (go_at_call 64; refine (unhide hpi _ _).mono ?_; rintro e w' ⟨rfl, rfl⟩)
                    all_goals go_ret2
                    all_goals exact ⟨_, rfl, hfin.out.symm, (unhide hbh).trans ((hbr0.mono (by omega)).alloc (by omega) _), by simp; omega, fun h => by rw [hfin.out] at h; cases h⟩
                · have t2' : decide (u ∈ asc g.nodes) = false := decide_eq_false (fun h => t2 (asc_mem.1 h))
                  have hfin : Hid (okGraph g = false) := okGraph_false hlt (by rw [hu.out]; simp [okEdge, t2])
                  go_wp2_with (go_at_call 64; refine (unhide hpi _ _).mono ?_; rintro e w' ⟨rfl, rfl⟩)
                  all_goals go_ret2
                  all_goals exact ⟨_, rfl, hfin.out.symm, (unhide hbh).trans ((hbr0.mono (by omega)).alloc (by omega) _), by simp; omega, fun h => by rw [hfin.out] at h; cases h⟩
              · have hkn : k = g.edges.length := by omega
                subst hkn
                have hfin : Hid (FarAt w.heap.size wr (w.heap.size + 1) (asc g.nodes) (tabs bitsOf (asc g.nodes) g.dir g.edges).1 (tabs bitsOf (asc g.nodes) g.dir g.edges).2) := fun W hzW hkW => by
                  have hB0 := unhide hB
                  have h1 := unhide hR1
                  have h2 := unhide hR2
                  rw [List.take_length] at hB0 h1 h2
                  have hB' := hB0.far (lo := w.heap.size) (by omega) (by omega) (by omega) (by omega) hzW hkW
                  obtain ⟨a2, c2, hv2, _, hc2, _⟩ := owns_cells (owns_same ownr fun j hj => hkW j (by have := ownr.lt j hj; omega) (ownr.lt j hj).2)
                  injection hv2 with hv2; subst hv2
                  exact plain_of hal' hB' ((World.cell?_of_block (hkW (w.heap.size + 1) (by omega) (by have := hB0.pbB; have := hB0.hB; omega))).trans cr0) hc2 (asc_incr (unhide hnd')) h1 h2
                have hgt : Hid (okGraph g = true) := okGraph_true (unhide hnd') (fun j hj => hok.out j hj hj)
                clear ownr hal'
                go_wp2
                go_ret2
                exact ⟨_, rfl, hgt.out.symm, (unhide hbh).trans (hbr0.mono (by omega)), by omega, fun _ => hfin.out⟩
        · have hd : decide g.nodes.Nodup = false := decide_eq_false hnd
          rw [hd]
          go_wp2_with fail
          go_ret2
          exact ⟨_, rfl, by rw [okGraph, hd]; rfl, (unhide hbh).trans (hb5'.mono (by omega)), by omega, fun h => by rw [okGraph, hd] at h; cases h⟩
end Go.Proofs.YthpjmjohdliohaaGreat
