/- laws.tableOf: the walk. -/
import Derived.Test.YtgkimjjodhnmiaaGreatTable
import Derived.Test.YtgkimjjodhnmiaaGreatLaws1
import Derived.Test.YtgkimjjodhnmiaaGreatRowBase
import Derived.Deep.AppendLies
import Derived.Deep.OwnRows
import Derived.Deep.RegionLaw
import Derived.Deep.RegionHeld3
import Derived.Deep.DeepCutAuto
namespace Go.Proofs.YtgkimjjodhnmiaaGreat
open Go.RowKit

theorem info_rowB : (Tryz.prog.info? 68).map (fun i => (i.zero, i.size, i.bytes)) = some (some (.slice none 0 0), 1, 24) := by kernel_rfl
theorem info_rowI : (Tryz.prog.info? 22).map (fun i => (i.zero, i.size, i.bytes)) = some (some (.slice none 0 0), 1, 24) := by kernel_rfl

/-- What tableOf gives. -/
def TabPost (g : Gr) (w : World) (e : Ending) (w' : World) : Prop :=
  ∃ (nv sa sw : Value) (lo hi : Nat), e = .returned (.agg #[nv, sa, sw]) ∧ w.heap.size ≤ lo ∧ TabAt w' lo hi (asc g.nodes) nv sa sw (tableP (asc g.nodes) g.dir g.edges).1 (tableP (asc g.nodes) g.dir g.edges).2 ∧ hi ≤ w'.heap.size ∧ Below w.heap.size w w'

set_option maxRecDepth 100000 in
set_option maxHeartbeats 4000000 in
theorem tableOf_any (g : Gr) (an : Option Addr) (cn : Nat) (ae : Option Addr) (ce : Nat) (w : World) (hn : g.nodes.length ≤ 1000) (he : g.edges.length ≤ 1048576) (hg : GrAt w g an cn ae) (hok : okGraph g = true) :
    Calls Tryz.prog 24 #[.agg #[.bool g.dir, .slice an g.nodes.length cn, .slice ae g.edges.length ce]] w (TabPost g w) := by
  have hs := Lib.hid (fun o o' => sorted_any an _ cn g.nodes ((w.alloc o).alloc o') rfl (by omega) ((hg.nodes.alloc _).alloc _) hg.none)
  go_enter Tryz.func24, Tryz.ntmps24
  go_wp2_with fail
  refine (unhide hs _ _).mono ?_
  rintro e w1 ⟨a1, c1, rfl, hown, hn1, hb1⟩
  go_wp2_with fail
  have hal := asc_length g.nodes
  obtain ⟨w2, hw2⟩ : ∃ w2, w2 = w1.alloc (.cells #[.slice a1 g.nodes.length c1, .slice none 0 0, .slice none 0 0] 66) := ⟨_, rfl⟩
  obtain ⟨sb, hsb⟩ : ∃ sb, sb = w1.heap.size := ⟨_, rfl⟩
  have hM0 : Making w2 (sb + 1) sb g.nodes.length 0 0 (.slice a1 g.nodes.length c1) (.slice none 0 0) (.slice none 0 0) [] [] := by
    refine ⟨?_, by omega, by rw [hw2, hsb]; simp, World.ownsRow_nil _ _ _ _, World.ownsRow_nil _ _ _ _, ⟨rfl, by simp, fun j g l h _ => by simp at h⟩, ⟨rfl, by simp, fun j g l h _ => by simp at h⟩, by simp, by simp, by simp [Value.ownBlock], by simp⟩
    unfold SBlock; rw [hw2, hsb]; exact heap_alloc_new _ _
  have hb2 : Below sb w1 w2 := by rw [hw2, hsb]; exact alloc_below _ _
  have hsz1 := hb1.size
  rw [size_two] at hsz1
  have hK : Hid (∀ wr, Below sb w1 wr → Below w.heap.size w wr ∧ GrAt wr g an cn ae ∧ wr.cell? ⟨w.heap.size, 0, none⟩ = some (.bool g.dir) ∧ wr.cell? ⟨w.heap.size, 2, none⟩ = some (.slice ae g.edges.length ce) ∧
      wr.heap[w.heap.size + 1]? = some (.cells #[.slice none 0 0, .slice none 0 0, .slice none 0 0] 66 (0, 0)) ∧ wr.ownsRow (w.heap.size + 2) 3 1 (.slice a1 g.nodes.length c1) g.nodes.length (ints (asc g.nodes))) := fun wr hbr => by
    have h0 : Below w.heap.size w w1 := ((Below.refl _ _).alloc (Nat.le_refl _) _).alloc (by simp) _ |>.trans (hb1.mono (by simp; omega))
    have h1 : Below w.heap.size w wr := h0.trans (hbr.mono (by omega))
    have hB0 : w1.heap[w.heap.size]? = some (.cells #[.bool g.dir, .slice an g.nodes.length cn, .slice ae g.edges.length ce] 25 (0, 0)) := by
      rw [hb1.block _ (by simp; omega), Below.heap_alloc _ _ _ (by simp), heap_alloc_new]
    have hB1 : w1.heap[w.heap.size + 1]? = some (.cells #[.slice none 0 0, .slice none 0 0, .slice none 0 0] 66 (0, 0)) := by
      rw [hb1.block _ (by simp)]
      have := heap_alloc_new (w.alloc (.cells #[.bool g.dir, .slice an g.nodes.length cn, .slice ae g.edges.length ce] 25)) (.cells #[.slice none 0 0, .slice none 0 0, .slice none 0 0] 66)
      rwa [show (w.alloc (.cells #[.bool g.dir, .slice an g.nodes.length cn, .slice ae g.edges.length ce] 25)).heap.size = w.heap.size + 1 by simp] at this
    have hBr0 := (hbr.block w.heap.size (by omega)).trans hB0
    refine ⟨h1, hg.below h1, by simp [World.cell?, hBr0], by simp [World.cell?, hBr0], (hbr.block _ (by omega)).trans hB1, ?_⟩
    rw [size_two] at hown
    exact owns_same hown (fun j hj => hbr.block j (by rw [hsb]; exact (hown.lt j hj).2))
  rw [← hw2, ← hsb]
  have hsbh := Lib.hid hsb
  have hb1h := Lib.hid hb1
  have hownh := Lib.hid hown
  have hgh := Lib.hid hg
  clear hw2 hsb hb1 hown hs hg
  have hmkB := fun W => run_make_row' (P := Tryz.prog) 68 4 (.bool false) 1 Tryz.underlying68 (by kernel_rfl) rfl .i64 .i64 g.nodes.length (by omega) (by omega) W
  have hmkI := fun W => run_make_row' (P := Tryz.prog) 22 3 (.int .i64 0) 8 Tryz.underlying22 (by kernel_rfl) rfl .i64 .i64 g.nodes.length (by omega) (by omega) W
  obtain ⟨iB, hiB, zB0, zB1, zB2⟩ := info_parts info_rowB
  obtain ⟨iI, hiI, zI0, zI1, zI2⟩ := info_parts info_rowI
  have hiBh := Lib.hid hiB
  have hiIh := Lib.hid hiI
  have zBh := Lib.hid (And.intro zB0 (And.intro zB1 zB2))
  have zIh := Lib.hid (And.intro zI0 (And.intro zI1 zI2))
  clear hiB hiI zB0 zB1 zB2 zI0 zI1 zI2
  go_loopw [5] (fun i wr => ∃ (k : Nat) (sa sw : Value) (gs hs : List Nat), k ≤ g.nodes.length ∧ i = .int .i64 k ∧ Making wr (sb + 1) sb g.nodes.length k k (.slice a1 g.nodes.length c1) sa sw gs hs ∧ Below sb w1 wr) (fun i _ => g.nodes.length - (intOf i).toNat)
  case atStart => exact ⟨0, _, _, [], [], Nat.zero_le _, rfl, hM0, hb2⟩
  case round =>
    clear hM0 hb2
    obtain ⟨k, sa, sw, gs, hs, hk, rfl, hM, hb⟩ := hrel
    by_cases hlt : k < g.nodes.length
    · have d1 := hM.blk.c1
      have d11 : ∀ o, (wr.alloc o).cell? ⟨sb, 1, none⟩ = _ := fun o => cell_alloc d1 o
      have d12 : ∀ o o', ((wr.alloc o).alloc o').cell? ⟨sb, 1, none⟩ = _ := fun o o' => cell_alloc (cell_alloc d1 o) o'
      have hsz := hM.hB
      have hMh := Lib.hid hM
      have hbh := Lib.hid hb
      clear hM hb
      go_upto_region 6 with fail
      go_cut [] (fun wx => ∃ sa gs, Making wx (sb + 1) sb g.nodes.length (k + 1) k (.slice a1 g.nodes.length c1) sa sw gs hs ∧ Below sb w1 wx)
      case first =>
        obtain ⟨q1, q2, q3, q4⟩ := two_new wr (.cells (madeCells #[.bool false] g.nodes.length) 4) (.cells #[.slice (some ⟨wr.heap.size, 0, none⟩) g.nodes.length g.nodes.length] 68)
        replace q3 := q3.trans (by rw [made_repl])
        have qh := Lib.hid (And.intro q1 (And.intro q2 (And.intro q3 q4)))
        clear q1 q2 q3 q4
        go_region_law ((refine step_append_lies _ (by rfl) _ _ _ (by rfl) (sb + 1) 68 iB (.slice none 0 0) 1 24 Tryz.underlying63 hiBh.out zBh.out.1 zBh.out.2.1 zBh.out.2.2 (by rfl) (by omega) sa k (rowVs g.nodes.length gs) (by rfl) ((hMh.out.oa.alloc _).alloc _).drew ⟨wr.heap.size + 1, 0, none⟩ 1 1 [.slice (some ⟨wr.heap.size, 0, none⟩) g.nodes.length g.nodes.length] (by rfl) (by rfl) (World.news_of_block qh.out.2.2.2) (one_slice _ _ _) (by omega) (by unfold maxLen; omega) (by omega) (by simp; omega) (wr.heap.size + 2) (by simp) ?_; intro g2 c2 w5 hown5 hgrow5 hat5 _; obtain ⟨f1, f2, f3⟩ := hMh.out.moreA qh.out.1 qh.out.2.1 qh.out.2.2.1 hgrow5 hown5 hat5; have f4 := Lib.hid ((((hbh.out.alloc (by omega) _).alloc (by simp; omega) _).drew).grown hgrow5 (by simp; omega) (fun j hj => by have := (hMh.out.oa.lt j hj).1; omega)); clear hown5 hgrow5 hat5))
        all_goals go_wp2_with fail
        all_goals go_meet
        all_goals exact ⟨_, _, f3.out, f4.out.setCell (Nat.le_refl _) _⟩
      case rest =>
      obtain ⟨sa2, gs2, hM2, hb2⟩ := hcut
      have d2 := hM2.blk.c2
      have d21 : ∀ o, (wc.alloc o).cell? ⟨sb, 2, none⟩ = _ := fun o => cell_alloc d2 o
      have d22 : ∀ o o', ((wc.alloc o).alloc o').cell? ⟨sb, 2, none⟩ = _ := fun o o' => cell_alloc (cell_alloc d2 o) o'
      have hsz2 := hM2.hB
      have hM2h := Lib.hid hM2
      have hb2h := Lib.hid hb2
      clear hM2 hb2 d1 d11 d12
      go_upto_region 7 with fail
      obtain ⟨q1, q2, q3, q4⟩ := two_new wc (.cells (madeCells #[.int .i64 0] g.nodes.length) 3) (.cells #[.slice (some ⟨wc.heap.size, 0, none⟩) g.nodes.length g.nodes.length] 22)
      replace q3 := q3.trans (by rw [made_repl])
      have qh := Lib.hid (And.intro q1 (And.intro q2 (And.intro q3 q4)))
      clear q1 q2 q3 q4
      go_region_law ((refine step_append_lies _ (by rfl) _ _ _ (by rfl) (sb + 1) 22 iI (.slice none 0 0) 1 24 Tryz.underlying64 hiIh.out zIh.out.1 zIh.out.2.1 zIh.out.2.2 (by rfl) (by omega) sw k (rowVs g.nodes.length hs) (by rfl) ((hM2h.out.ow.alloc _).alloc _).drew ⟨wc.heap.size + 1, 0, none⟩ 1 1 [.slice (some ⟨wc.heap.size, 0, none⟩) g.nodes.length g.nodes.length] (by rfl) (by rfl) (World.news_of_block qh.out.2.2.2) (one_slice _ _ _) (by omega) (by unfold maxLen; omega) (by omega) (by simp; omega) (wc.heap.size + 2) (by simp) ?_; intro g2 c2 w5 hown5 hgrow5 hat5 _; obtain ⟨f1, f2, f3⟩ := hM2h.out.moreW qh.out.1 qh.out.2.1 qh.out.2.2.1 hgrow5 hown5 hat5; have f4 := Lib.hid ((((hb2h.out.alloc (by omega) _).alloc (by simp; omega) _).drew).grown hgrow5 (by simp; omega) (fun j hj => by have := (hM2h.out.ow.lt j hj).1; omega)); clear hown5 hgrow5 hat5))
      clear d2 d21 d22 hmkB hmkI
      all_goals
        go_wp2_with fail
        go_roundw
        case rel => exact ⟨k + 1, _, _, _, _, by omega, by go_num, f3.out, f4.out.setCell (Nat.le_refl _) _⟩
        case measure => simp [intOf]; omega
    · have hkn : k = g.nodes.length := by omega
      rw [hkn] at hM
      have hT := Lib.hid hM.tab
      obtain ⟨hbw, hgr, e0, e2, _, _⟩ := hK.out wr hb
      have hbh := Lib.hid hb
      clear hM hb hkn hmkB hmkI hgr hbw
      go_wp2_with fail
      go_loopw [6, 7, 8] (fun i _ _ wr => ∃ (k : Nat), k ≤ g.edges.length ∧ i = .int .i64 k ∧ Tab wr (sb + 1) sb g.nodes.length (.slice a1 g.nodes.length c1) sa sw gs hs (tableP (asc g.nodes) g.dir (g.edges.take k)).1 (tableP (asc g.nodes) g.dir (g.edges.take k)).2 ∧ Below sb w1 wr) (fun i _ _ _ => g.edges.length - (intOf i).toNat)
      case atStart => exact ⟨0, Nat.zero_le _, rfl, by have := hT.out; simpa [tableP, asc_length] using this, hbh.out⟩
      case round =>
        clear hT e0 e2
        obtain ⟨k, hk, rfl, hT2, hb⟩ := hrel
        obtain ⟨hbw, hgr, e0, e2, hres, hnr⟩ := hK.out wr hb
        have hbh2 := Lib.hid hb
        have hT2h := Lib.hid hT2
        by_cases hlt : k < g.edges.length
        · obtain ⟨b, off, rfl, hbl, _⟩ := hgh.out.edges.at (by rw [edgeCells_length]; omega)
          obtain ⟨b', off', hbb, _, hrg⟩ := hgr.edges.at (by rw [edgeCells_length]; omega)
          injection hbb with hbb
          injection hbb with hbb1 hbb2 _
          subst hbb1; subst hbb2
          obtain ⟨x0, x1, x2⟩ := edge_cells hrg hlt
          have hokg := hok
          unfold okGraph at hokg
          rw [Bool.and_eq_true, List.all_eq_true] at hokg
          have hoke := of_decide_eq_true (hokg.2 _ (List.getElem_mem hlt))
          have hinc := asc_incr (of_decide_eq_true hokg.1)
          obtain ⟨hiu, hiul⟩ := idx_pos hinc (asc_mem.2 hoke.2.1)
          obtain ⟨hiv, hivl⟩ := idx_pos hinc (asc_mem.2 hoke.2.2.1)
          rw [hal] at hiul hivl
          have hstep := tableP_step (asc g.nodes) g.dir g.edges k hlt
          have hsq := tableP_ok (asc g.nodes) g.dir g.edges hinc (fun e he => by
            have := of_decide_eq_true (hokg.2 e he)
            exact ⟨asc_mem.2 this.2.1, asc_mem.2 this.2.2.1⟩) k hk
          have hs1 := hsq.s1
          have hs2 := hsq.s2
          rw [hal] at hs1 hs2
          obtain ⟨eu, heu⟩ : ∃ eu, eu = g.edges[k].1 := ⟨_, rfl⟩
          obtain ⟨ev, hev⟩ : ∃ ev, ev = g.edges[k].2.1 := ⟨_, rfl⟩
          obtain ⟨ew, hew⟩ : ∃ ew, ew = g.edges[k].2.2 := ⟨_, rfl⟩
          rw [← heu] at x0 hiu hiul
          rw [← hev] at x1 hiv hivl
          rw [← hew] at x2
          obtain ⟨iu, hiu'⟩ : ∃ iu, iu = posOf (asc g.nodes) eu := ⟨_, rfl⟩
          obtain ⟨iv, hiv'⟩ : ∃ iv, iv = posOf (asc g.nodes) ev := ⟨_, rfl⟩
          rw [← hiu'] at hiu hiul
          rw [← hiv'] at hiv hivl
          obtain ⟨tt, htt⟩ : ∃ tt, tt = tableP (asc g.nodes) g.dir (g.edges.take k) := ⟨_, rfl⟩
          rw [← htt] at hstep hs1 hs2 hT2h
          have hlay : Hid (tableP (asc g.nodes) g.dir (g.edges.take (k + 1)) = if g.dir = true then (setB tt.1 iu iv, setI tt.2 iu iv ew) else (setB (setB tt.1 iu iv) iv iu, setI (setI tt.2 iu iv ew) iv iu ew)) := by
            unfold Hid; rw [hstep, hiu', hiv', heu, hev, hew]; rfl
          have hcn : Cells wr a1 (ints (asc g.nodes)) := by
            obtain ⟨aa, cc, e', _, hc, _⟩ := owns_cells hnr
            injection e' with e1' _ _
            rw [e1']; exact hc
          have hU : Hid (∀ x q, Calls Tryz.prog 33 #[.slice a1 g.nodes.length c1, .int .i64 x] (wr.drewN q) fun e w' => e = .returned (.int .i64 (idxI (asc g.nodes) x)) ∧ w' = wr.drewN q) := fun x q =>
            (index_any a1 _ c1 (asc g.nodes) x _ hal.symm (by omega) (hcn.drewN q)).mono fun e w' ⟨h1, h2⟩ => ⟨h1, h2.symm⟩
          have d0 := hT2h.out.blk
          have d00 : wr.cell? ⟨sb, 0, none⟩ = some (.slice a1 g.nodes.length c1) := by unfold SBlock at d0; simp [World.cell?, d0]
          have hs1h := Lib.hid hs1.1
          have hs2h := Lib.hid hs2.1
          have hsq1 := Lib.hid hs1
          have hsq2 := Lib.hid hs2
          clear hT2 hb hbw hgr hres hnr hrg hokg hoke hinc hstep hsq heu hev hew hiu' hiv' htt hcn d0 hs1 hs2
          go_wp2_with fail
          go_quiet ((go_at_call 33; exact Calls.quiet_of_same (hU.out _ _)))
          rw [hiu, hiv]
          obtain ⟨wq, hwq⟩ : ∃ wq, wq = wr.drewN nq := ⟨_, rfl⟩
          have hTq : Hid (Tab wq (sb + 1) sb g.nodes.length (.slice a1 g.nodes.length c1) sa sw gs hs tt.1 tt.2) := by unfold Hid; rw [hwq]; exact hT2h.out.below (drewN_below _ _)
          have hbq : Hid (Below sb w1 wq) := by unfold Hid; rw [hwq]; exact below_draws hbh2.out _
          have e0q : wq.cell? ⟨w.heap.size, 0, none⟩ = some (.bool g.dir) := by rw [hwq]; exact e0
          have e2q : wq.cell? ⟨w.heap.size, 2, none⟩ = some (.slice (some ⟨b, off, none⟩) g.edges.length ce) := by rw [hwq]; exact e2
          have x2q : wq.cell? ⟨b, off + k * 3 + 2, none⟩ = some (.int .i64 ew) := by rw [hwq]; exact x2
          rw [← hwq]
          clear hwq e0 e2 x0 x1 x2 hU hT2h hbh2 hiu hiv d00
          go_wp2_with fail
          go_cut [] (fun wx => Tab wx (sb + 1) sb g.nodes.length (.slice a1 g.nodes.length c1) sa sw gs hs (setB tt.1 iu iv) (setI tt.2 iu iv ew) ∧ Below sb w1 wx ∧ wx.cell? ⟨w.heap.size, 0, none⟩ = some (.bool g.dir) ∧ wx.cell? ⟨w.heap.size, 2, none⟩ = some (.slice (some ⟨b, off, none⟩) g.edges.length ce) ∧ wx.cell? ⟨b, off + k * 3 + 2, none⟩ = some (.int .i64 ew))
          case first =>
            obtain ⟨a0, ca, w0, cw, ga, gw, vb, vi, hsa, hsw, hga, hgw, c1a, c1w, c2a, c3a, c2w, c3w, n1, n2, n3, n4, n5, n6, n7⟩ := hTq.out.at_ hs1h.out hs2h.out hiul hivl
            have c0a := hTq.out.blk.c1
            have c0w := hTq.out.blk.c2
            have hgh1 := Lib.hid hga
            have hgh2 := Lib.hid hgw
            have hgB := (hTq.out.ra.lt ga (List.mem_of_getElem? hga)).1
            have hgB2 := (hTq.out.rw_.lt gw (List.mem_of_getElem? hgw)).1
            have hsbe := hsbh.out
            have n8 : ga ≠ w.heap.size := by omega
            have n9 : gw ≠ w.heap.size := by omega
            have n10 : ga ≠ b := by omega
            have n11 : gw ≠ b := by omega
            have n1' := Ne.symm n1
            have n2' := Ne.symm n2
            have n3' := Ne.symm n3
            have n4' := Ne.symm n4
            have n5' := Ne.symm n5
            have n6' := Ne.symm n6
            have n7' := Ne.symm n7
            have m1 : sb ≤ ga := by omega
            have m2 : sb ≤ gw := by omega
            clear hsbe n1 n2 n3 n4 n5 n6
            rw [hsa] at c0a
            rw [hsw] at c0w
            have hsah := Lib.hid hsa
            have hswh := Lib.hid hsw
            clear hga hgw hgB hgB2 hsa hsw
            go_region_held3 (fun w' => w'.cell? ⟨sb, 1, none⟩ = some (.slice (some ⟨a0, 0, none⟩) g.nodes.length ca) ∧ w'.cell? ⟨a0, iu, none⟩ = some (.slice (some ⟨ga, 0, none⟩) g.nodes.length g.nodes.length) ∧
                w'.cell? ⟨sb, 2, none⟩ = some (.slice (some ⟨w0, 0, none⟩) g.nodes.length cw) ∧ w'.cell? ⟨w0, iu, none⟩ = some (.slice (some ⟨gw, 0, none⟩) g.nodes.length g.nodes.length) ∧
                w'.cell? ⟨w.heap.size, 2, none⟩ = some (.slice (some ⟨b, off, none⟩) g.edges.length ce) ∧ w'.cell? ⟨b, off + k * 3 + 2, none⟩ = some (.int .i64 ew)) (go_keep) (fail)
            all_goals go_wp2_with fail
            all_goals go_meet
            all_goals
              refine ⟨?_, ((hbq.out.setCell (by first | exact m1 | exact m2) _).setCell (by first | exact m1 | exact m2) _).drew, by go_keep, by go_keep, by go_keep⟩
              first
                | exact ((hTq.out.setA hgh1.out).setW hgh2.out ew).drew
                | exact ((hTq.out.setW hgh2.out ew).setA hgh1.out).drew
          case rest =>
          obtain ⟨hTc0, hbc0, e0c, e2c, x2c⟩ := hcut
          have hTc := Lib.hid hTc0
          have hbc := Lib.hid hbc0
          have hs3 : Hid ((setB tt.1 iu iv).length = g.nodes.length) := (square_modify hsq1.out iu iv true).1
          have hs4 : Hid ((setI tt.2 iu iv ew).length = g.nodes.length) := (square_modify hsq2.out iu iv ew).1
          clear hTc0 hbc0 e0q e2q x2q hTq hbq
          rcases (by cases g.dir <;> simp : g.dir = false ∨ g.dir = true) with hdir | hdir
          · have hl : Hid (tableP (asc g.nodes) g.dir (g.edges.take (k + 1)) = (setB (setB tt.1 iu iv) iv iu, setI (setI tt.2 iu iv ew) iv iu ew)) := by unfold Hid; rw [hlay.out, hdir]; rfl
            rw [hdir] at e0c
            clear hlay hdir
            go_wp2_with fail
            obtain ⟨a0, ca, w0, cw, ga, gw, vb, vi, hsa, hsw, hga, hgw, c1a, c1w, c2a, c3a, c2w, c3w, n1, n2, n3, n4, n5, n6, n7⟩ := hTc.out.at_ hs3.out hs4.out hivl hiul
            have c0a := hTc.out.blk.c1
            have c0w := hTc.out.blk.c2
            have hgh1 := Lib.hid hga
            have hgh2 := Lib.hid hgw
            have hgB := (hTc.out.ra.lt ga (List.mem_of_getElem? hga)).1
            have hgB2 := (hTc.out.rw_.lt gw (List.mem_of_getElem? hgw)).1
            have hsbe := hsbh.out
            have n8 : ga ≠ w.heap.size := by omega
            have n9 : gw ≠ w.heap.size := by omega
            have n10 : ga ≠ b := by omega
            have n11 : gw ≠ b := by omega
            have n1' := Ne.symm n1
            have n2' := Ne.symm n2
            have n3' := Ne.symm n3
            have n4' := Ne.symm n4
            have n5' := Ne.symm n5
            have n6' := Ne.symm n6
            have n7' := Ne.symm n7
            have m1 : sb ≤ ga := by omega
            have m2 : sb ≤ gw := by omega
            clear hsbe n1 n2 n3 n4 n5 n6
            rw [hsa] at c0a
            rw [hsw] at c0w
            have hsah := Lib.hid hsa
            have hswh := Lib.hid hsw
            clear hga hgw hgB hgB2 hsa hsw
            go_region_held3 (fun w' => w'.cell? ⟨sb, 1, none⟩ = some (.slice (some ⟨a0, 0, none⟩) g.nodes.length ca) ∧ w'.cell? ⟨a0, iv, none⟩ = some (.slice (some ⟨ga, 0, none⟩) g.nodes.length g.nodes.length) ∧
                w'.cell? ⟨sb, 2, none⟩ = some (.slice (some ⟨w0, 0, none⟩) g.nodes.length cw) ∧ w'.cell? ⟨w0, iv, none⟩ = some (.slice (some ⟨gw, 0, none⟩) g.nodes.length g.nodes.length) ∧
                w'.cell? ⟨w.heap.size, 2, none⟩ = some (.slice (some ⟨b, off, none⟩) g.edges.length ce) ∧ w'.cell? ⟨b, off + k * 3 + 2, none⟩ = some (.int .i64 ew)) (go_keep) (fail)
            all_goals
              go_wp2_with fail
              go_roundw
              case rel =>
                refine ⟨k + 1, by omega, by go_num, ?_, ((hbc.out.setCell (by first | exact m1 | exact m2) _).setCell (by first | exact m1 | exact m2) _).drew⟩
                rw [hl.out]
                first
                  | exact ((hTc.out.setA hgh1.out).setW hgh2.out ew).drew
                  | exact ((hTc.out.setW hgh2.out ew).setA hgh1.out).drew
              case measure => simp [intOf]; omega
          · have hl : Hid (tableP (asc g.nodes) g.dir (g.edges.take (k + 1)) = (setB tt.1 iu iv, setI tt.2 iu iv ew)) := by unfold Hid; rw [hlay.out, hdir]; rfl
            rw [hdir] at e0c
            clear hlay hdir
            go_wp2_with fail
            go_roundw
            case rel =>
              refine ⟨k + 1, by omega, by go_num, ?_, hbc.out⟩
              rw [hl.out]; exact hTc.out
            case measure => simp [intOf]; omega
        · have hkm : k = g.edges.length := by omega
          subst hkm
          rw [List.take_length] at hT2
          clear hT2h
          obtain ⟨aa, ca, rfl, _⟩ := owns_cells hT2.oa
          obtain ⟨aw, cw, rfl, _⟩ := owns_cells hT2.ow
          have hfin := TabAt.of (w := wr) (lo := w.heap.size + 2) (ids := asc g.nodes) (a1 := a1) (c1 := c1) (by rw [hal]; exact hnr) (by rw [hal]; exact hT2) (by have := hsbh.out; omega)
          rw [hal] at hfin
          have d0 := hT2.blk
          have d1 := d0.c1
          have d2 := d0.c2
          have d00 : wr.cell? ⟨sb, 0, none⟩ = some (.slice a1 g.nodes.length c1) := by unfold SBlock at d0; simp [World.cell?, d0]
          have r0 : wr.cell? ⟨w.heap.size + 1, 0, none⟩ = some (.slice none 0 0) := by simp [World.cell?, hres]
          have r1 : wr.cell? ⟨w.heap.size + 1, 1, none⟩ = some (.slice none 0 0) := by simp [World.cell?, hres]
          have r2 : wr.cell? ⟨w.heap.size + 1, 2, none⟩ = some (.slice none 0 0) := by simp [World.cell?, hres]
          have q0 : wr.frozen? ⟨w.heap.size + 1, 0, none⟩ = false := by simp [World.frozen?, hres]
          have q1 : wr.frozen? ⟨w.heap.size + 1, 1, none⟩ = false := by simp [World.frozen?, hres]
          have q2 : wr.frozen? ⟨w.heap.size + 1, 2, none⟩ = false := by simp [World.frozen?, hres]
          have r1' : ∀ u, (wr.setCell ⟨w.heap.size + 1, 0, none⟩ u).cell? ⟨w.heap.size + 1, 1, none⟩ = some (.slice none 0 0) := fun u => (World.cell?_setCell_other _ _ _ _ (by simp)).trans r1
          have r2' : ∀ u u', ((wr.setCell ⟨w.heap.size + 1, 0, none⟩ u).setCell ⟨w.heap.size + 1, 1, none⟩ u').cell? ⟨w.heap.size + 1, 2, none⟩ = some (.slice none 0 0) := fun u u' => (World.cell?_setCell_other _ _ _ _ (by simp)).trans ((World.cell?_setCell_other _ _ _ _ (by simp)).trans r2)
          have q1' : ∀ u, (wr.setCell ⟨w.heap.size + 1, 0, none⟩ u).frozen? ⟨w.heap.size + 1, 1, none⟩ = false := fun u => (World.frozen?_setCell _ _ _ _).trans q1
          have q2' : ∀ u u', ((wr.setCell ⟨w.heap.size + 1, 0, none⟩ u).setCell ⟨w.heap.size + 1, 1, none⟩ u').frozen? ⟨w.heap.size + 1, 2, none⟩ = false := fun u u' => (World.frozen?_setCell _ _ _ _).trans ((World.frozen?_setCell _ _ _ _).trans q2)
          have s0 : ∀ u, (wr.setCell ⟨w.heap.size + 1, 0, none⟩ u).cell? ⟨w.heap.size + 1, 0, none⟩ = some u := fun u => by have := heap_set_self hres 0 u; simp [World.cell?, this]
          have s1 : ∀ u u', ((wr.setCell ⟨w.heap.size + 1, 0, none⟩ u).setCell ⟨w.heap.size + 1, 1, none⟩ u').cell? ⟨w.heap.size + 1, 1, none⟩ = some u' := fun u u' => by have h1 := heap_set_self hres 0 u; have := heap_set_self h1 1 u'; simp [World.cell?, this]
          have s2 : ∀ u u' u2, (((wr.setCell ⟨w.heap.size + 1, 0, none⟩ u).setCell ⟨w.heap.size + 1, 1, none⟩ u').setCell ⟨w.heap.size + 1, 2, none⟩ u2).cell? ⟨w.heap.size + 1, 2, none⟩ = some u2 := fun u u' u2 => by have h1 := heap_set_self hres 0 u; have h2 := heap_set_self h1 1 u'; have := heap_set_self h2 2 u2; simp [World.cell?, this]
          have hfinh := Lib.hid hfin
          have hbwh := Lib.hid hbw
          have hresh := Lib.hid hres
          have rr : w.heap.size + 1 < wr.heap.size := cell_lt r0
          have rrh := Lib.hid rr
          clear hT2 hb hbw hgr hres hnr hfin d0 e0 hlt hbh2 rr
          go_wp2_with fail
          refine bodyPost_ret (v := .agg #[.slice a1 g.nodes.length c1, .slice aa g.nodes.length ca, .slice aw g.nodes.length cw]) (by simp [results, Tryz.results24, go_sem, s0, s1, s2]) rfl ?_
          refine ⟨_, _, _, _, wr.heap.size, rfl, by omega, hfinh.out.same (fun j h1 _ => ?_) ?_, ?_, ?_⟩
          · have hne : j ≠ w.heap.size + 1 := by omega
            rw [Below.heap_setCell _ _ _ _ hne, Below.heap_setCell _ _ _ _ hne, Below.heap_setCell _ _ _ _ hne]
          · rw [size_setCell', size_setCell', size_setCell']; exact Nat.le_refl _
          · rw [size_setCell', size_setCell', size_setCell']; exact Nat.le_refl _
          · exact ((hbwh.out.setCell (by simp) _).setCell (by simp) _).setCell (by simp) _
end Go.Proofs.YtgkimjjodhnmiaaGreat
