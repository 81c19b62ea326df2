/- laws.FnCondensed: the walk. -/
import Derived.Test.YtagnmdhdogaijaaGreatCond0
import Derived.Test.YtagnmdhdogaijaaGreatSortImpl
namespace Go.Proofs.YtagnmdhdogaijaaGreat
open Go.RowKit

theorem HG.keep {w0 w w1 : World} {hb : Nat} {ns : List Int} {es : List (Int × Int × Int)} {v1 v2 : Value} (h : HG w0 w hb ns es v1 v2) (hb1 : Below w.heap.size w w1) : HG w0 w1 hb ns es v1 v2 := by
  have hl := lt_of_block h.blk
  exact ⟨(hb1.block hb hl).trans h.blk, owns_same h.n fun j hj => hb1.block j (h.n.lt j hj).2, owns_same h.e fun j hj => hb1.block j (h.e.lt j hj).2, h.ap, h.below.trans (hb1.mono (by omega))⟩

theorem HG.start (w : World) : HG w (w.alloc (.cells #[.bool true, .slice none 0 0, .slice none 0 0] 25)) w.heap.size (condNodes 0) [] (.slice none 0 0) (.slice none 0 0) :=
  ⟨heap_alloc_new _ _, World.ownsRow_nil _ _ _ _, World.ownsRow_nil _ _ _ _, fun j hj => by simp [Value.ownBlock] at hj, alloc_below _ _⟩

/-- What the walk needs to know of the graph of the components. -/
theorem cond_facts {g : Gr} {L : List (List Int)} (hok : okGraph g = true) (hL : OrderOk g L) : okGraph (condG L g.edges) = true ∧ (gComps (condG L g.edges)).length = L.length ∧ cycL (gComps (condG L g.edges)) (gComps (condG L g.edges)).length = [] ∧ (gSccs (condG L g.edges)).length = L.length := by
  obtain ⟨h1, h2⟩ := cond_scc hok hL
  refine ⟨cond_ok hok hL, h2, cycL_none h1 _ (Nat.le_refl _), ?_⟩
  unfold gSccs
  rw [List.length_map]
  exact h2

theorem none_facts : okGraph ⟨true, [], []⟩ = true ∧ cycL (gComps ⟨true, [], []⟩) (gComps ⟨true, [], []⟩).length = [] := by
  refine ⟨rfl, cycL_none (fun c hc => ?_) _ (Nat.le_refl _)⟩
  have hs : SccOk (asc []) (gSucc ⟨true, [], []⟩) (gComps ⟨true, [], []⟩) := sccs_ok fun x hx => by
    have := asc_mem.1 hx
    cases this
  have hne := hs.ne c hc
  match c, hc, hne with
  | a :: t, hc, _ =>
    have := asc_mem.1 ((hs.mem a).1 (List.mem_flatten.2 ⟨_, hc, by simp⟩))
    cases this

theorem cond_in64 {n : Nat} (hn : n ≤ 1000) : ∀ x ∈ condNodes n, In64 x := fun x hx => by
  obtain ⟨k, hk, rfl⟩ := condNodes_mem.1 hx
  show (decide (IntKind.i64.min ≤ (k : Int)) && decide ((k : Int) ≤ IntKind.i64.max)) = true
  have h1 : IntKind.i64.min = -9223372036854775808 := by decide
  have h2 : IntKind.i64.max = 9223372036854775807 := by decide
  rw [h1, h2, Bool.and_eq_true]
  exact ⟨decide_eq_true (by omega), decide_eq_true (by omega)⟩

set_option maxRecDepth 100000 in
set_option maxHeartbeats 4000000 in
theorem condensed_any (g : Gr) (an : Option Addr) (cn : Nat) (ae : Option Addr) (ce : Nat) (w : World) (hm : g.nodes.length ≤ 9223372036854775807) (hm' : g.edges.length ≤ 9223372036854775807) (hg : GrAt w g an cn ae) (h64 : ∀ x ∈ g.nodes, In64 x) :
    Calls Tryz.prog 3 #[.agg #[.bool g.dir, .slice an g.nodes.length cn, .slice ae g.edges.length ce]] w
      fun e w' => e = .returned (.bool true) ∧ Below w.heap.size w w' := by
  obtain ⟨w1, hw1⟩ : ∃ w1, w1 = w.alloc (.cells #[.bool g.dir, .slice an g.nodes.length cn, .slice ae g.edges.length ce] 25) := ⟨_, rfl⟩
  have hb1 : Below w.heap.size w w1 := by rw [hw1]; exact alloc_below w _
  have hz1 : w1.heap.size = w.heap.size + 1 := by rw [hw1]; simp
  have k0 : w1.cell? ⟨w.heap.size, 0, none⟩ = some (.bool g.dir) := by rw [hw1]; simp
  have k1 : w1.cell? ⟨w.heap.size, 1, none⟩ = some (.slice an g.nodes.length cn) := by rw [hw1]; simp
  have k2 : w1.cell? ⟨w.heap.size, 2, none⟩ = some (.slice ae g.edges.length ce) := by rw [hw1]; simp
  have hK : Hid (∀ wr, Below w1.heap.size w1 wr → Below w.heap.size w wr ∧ GrAt wr g an cn ae ∧ wr.cell? ⟨w.heap.size, 0, none⟩ = some (.bool g.dir) ∧ wr.cell? ⟨w.heap.size, 1, none⟩ = some (.slice an g.nodes.length cn) ∧ wr.cell? ⟨w.heap.size, 2, none⟩ = some (.slice ae g.edges.length ce)) :=
    fun wr h => ⟨hb1.trans (h.mono (by omega)), (hg.below hb1).below h, cell_below h k0, cell_below h k1, cell_below h k2⟩
  have hg1 := hg.below hb1
  have hfits := Lib.hid (fits_any g an cn ae ce w1 hm hm')
  rw [hw1] at hfits
  have hw1h := Lib.hid hw1
  clear hg hb1 hw1 k0 k1 k2 hg1
  go_enter Tryz.func3, Tryz.ntmps3
  go_wp2_with fail
  refine (unhide hfits).mono ?_
  rintro e w2 ⟨rfl, hb2⟩
  rw [← hw1h.out] at hb2
  obtain ⟨hb2', hg2, c0, c1, c2⟩ := hK.out w2 hb2
  have hb2h := Lib.hid hb2
  have hb2h' := Lib.hid hb2'
  rcases hf : fitsB g with _ | _
  · clear hb2 hb2'
    go_wp2_with fail
    go_ret
    exact ⟨rfl, hb2h'.out⟩
  have hfew := Lib.hid (fewOf_any g an cn ae ce true w2 14 (by omega) hg2)
  obtain ⟨fw, hfw⟩ : ∃ fw, fw = (g.dir == true && fewB g 14) := ⟨_, rfl⟩
  rw [← hfw] at hfew
  have hfwh := Lib.hid hfw
  clear hb2 hb2' hg2 hfits hfw hf
  go_wp2_with fail
  refine (unhide hfew).mono ?_
  rintro e w3 ⟨rfl, hb3⟩
  have hb3' := hb2h.out.trans (hb3.mono hb2h.out.size)
  obtain ⟨hbw, hg3, d0, d1, d2⟩ := hK.out w3 hb3'
  have hbwh := Lib.hid hbw
  have hb3h := Lib.hid hb3'
  have hg3h := Lib.hid hg3
  clear hb3 hb3' hbw hg3 hfew c0 c1 c2
  cases fw
  · go_wp2_with fail
    go_ret
    exact ⟨rfl, hbwh.out⟩
  have hfw' := hfwh.out.symm
  rw [Bool.and_eq_true] at hfw'
  have hdir0 : g.dir = true := by have := hfw'.1; simpa using this
  have hdir := Lib.hid hdir0
  have hfw2 := hfw'.2
  unfold fewB at hfw2
  rw [Bool.and_eq_true, Bool.and_eq_true] at hfw2
  have hn40 : g.nodes.length ≤ 14 := of_decide_eq_true hfw2.1.1
  have he320 : g.edges.length ≤ 8 * 14 := of_decide_eq_true hfw2.1.2
  have hok := Lib.hid hfw2.2
  clear hfwh hfw' hfw2 hdir0
  have hscc := Lib.hid (scc_any g an cn ae ce w3 (by omega) (by omega) hg3h.out hok.out hdir.out h64)
  obtain ⟨L, hL⟩ : ∃ L, L = gSccs g := ⟨_, rfl⟩
  have hord : OrderOk g L := by rw [hL]; exact order_ok hok.out
  rw [← hL] at hscc
  have hLn : L.length ≤ 14 := Nat.le_trans hord.cnt hn40
  have hordh := Lib.hid hord
  have hwhole : Hid ((gComps g).length = L.length) := by unfold Hid; rw [hL]; unfold gSccs; rw [List.length_map]; rfl
  have h64h := Lib.hid h64
  clear hL hord h64
  go_wp2_with fail
  refine (unhide hscc).mono ?_
  rintro e w4 ⟨a, c, D, vs, rfl, ho4, hr4, hD4, hb4⟩
  have hb4' := hb3h.out.trans (hb4.mono hb3h.out.size)
  obtain ⟨hbw4, hg4, c0, c1, c2⟩ := hK.out w4 hb4'
  have hparts := Lib.hid (parts_true a c D vs L an cn g.nodes w4 (by omega) (by rw [hordh.out.len]; omega) (by omega) ho4 hr4 hg4.nodes hg4.none hordh.out.ne hordh.out.inc hordh.out.perm)
  have hrow : Hid (∀ (k : Nat) (hk : k < L.length) W, Below w4.heap.size w4 W → ∃ ga ag cg, a = some ⟨ga, 0, none⟩ ∧ W.cell? ⟨ga, k, none⟩ = some (.slice ag L[k].length cg) ∧ Cells W ag (ints L[k])) := fun k hk W hW => by
    obtain ⟨ga, ag, cg, e, h1, h2⟩ := row_at ho4 hr4 k hk
    exact ⟨ga, ag, cg, e, cell_below hW h1, h2.below hW⟩
  have hrl : Hid (∀ (k : Nat) (hk : k < L.length), L[k].length ≤ 14) := fun k hk => by
    have := mem_len (List.getElem_mem hk)
    rw [hordh.out.len] at this; omega
  have hb4h := Lib.hid hb4'
  clear ho4 hr4 hD4 hb4 hb4' hbw4 hg4 d0 d1 d2 hscc
  go_wp2_with fail
  refine (unhide hparts).mono ?_
  rintro e w5 ⟨rfl, hb5⟩
  have hb45 := Lib.hid hb5
  have hb5' : Hid (Below w1.heap.size w1 w5) := hb4h.out.trans (hb5.mono hb4h.out.size)
  obtain ⟨_, _, d0, d1, d2⟩ := hK.out w5 hb5'.out
  clear hb5 hparts c0 c1 c2
  go_wp2_with fail
  have hst := Lib.hid (HG.start w5)
  go_loopw [6] (fun kv wr => ∃ (k : Nat) (v1 : Value), k ≤ L.length ∧ kv = .int .i64 k ∧ HG w5 wr w5.heap.size (condNodes k) [] v1 (.slice none 0 0)) (fun kv _ => L.length - (intOf kv).toNat)
  case atStart => exact ⟨0, _, Nat.zero_le _, rfl, hst.out⟩
  case round =>
    obtain ⟨k, v1, hk, rfl, hgk⟩ := hrel
    by_cases hlt : k < L.length
    · obtain ⟨a1, c1, a2, c2, rfl, _, _⟩ := hgk.shape
      rw [condNodes_length] at hgk
      have e1 := hgk.at1
      have hzw := lt_of_block hgk.blk
      have ho : Hid (∀ o, (wr.alloc o).ownsRow (w5.heap.size + 1) 3 1 (.slice a1 k c1) k (ints (condNodes k))) := fun o => by have := hgk.n; rw [condNodes_length] at this; exact this.alloc o
      have hgh := Lib.hid hgk
      clear hgk d0 d1 d2
      go_wp2_with (at_builtin; refine append_law 22 3 (.int .i64 0) 1 8 Tryz.underlying22 info_int rfl (by omega) (by omega) rfl _ _ rfl (w5.heap.size + 1) a1 k c1 (ints (condNodes k)) rfl (unhide ho _) ⟨wr.heap.size, 0, none⟩ 1 1 [.int .i64 k] rfl rfl (new_one wr _ _) (one_int _) (by omega) (by simp; omega) ?_; intro b2 c2 w6 hown2 hg2 hat2; obtain ⟨s1, s2, s3⟩ := hgh.out.node (condNodes_length k).symm hg2 hown2 hat2; clear hown2 hg2 hat2 ho hgh)
      go_roundw
      case rel => exact ⟨k + 1, _, by omega, by go_num, by rw [condNodes_succ]; exact s3.out⟩
      case measure => simp [intOf]; omega
    · have hkn : k = L.length := by omega
      subst hkn
      clear hst
      have hgh := Lib.hid hgk
      clear hgk
      go_wp2_with fail
      go_loopw [7, 8, 9, 10] (fun kv _ _ _ wr => ∃ (k : Nat) (v1 v2 : Value), k ≤ g.edges.length ∧ kv = .int .i64 k ∧ HG w5 wr w5.heap.size (condNodes L.length) (condEdges L (g.edges.take k)) v1 v2) (fun kv _ _ _ _ => g.edges.length - (intOf kv).toNat)
      case atStart => exact ⟨0, _, _, Nat.zero_le _, rfl, by rw [List.take_zero]; exact hgh.out⟩
      case round =>
        clear d0 d1 d2 hgh
        obtain ⟨k, v1, v2, hk, rfl, hgk⟩ := hrel
        have hb45k : Hid (Below w4.heap.size w4 wr) := hb45.out.trans (hgk.below.mono hb45.out.size)
        have hb1k : Hid (Below w1.heap.size w1 wr) := hb4h.out.trans (hb45k.out.mono hb4h.out.size)
        obtain ⟨_, hgi, d0, d1, d2⟩ := hK.out wr hb1k.out
        by_cases hlt : k < g.edges.length
        · obtain ⟨wk, hwk⟩ : ∃ wk, wk = wr := ⟨_, rfl⟩
          subst hwk
          obtain ⟨b, off, rfl, hbl, hrg⟩ := hgi.edges.at (by rw [edgeCells_length]; omega)
          obtain ⟨x0, x1, _⟩ := edge_cells hrg hlt
          have hce := condEdges_succ L hlt
          obtain ⟨U, hU⟩ : ∃ U, U = g.edges[k].1 := ⟨_, rfl⟩
          obtain ⟨V, hV⟩ : ∃ V, V = g.edges[k].2.1 := ⟨_, rfl⟩
          rw [← hU] at x0 hce
          rw [← hV] at x1 hce
          have hgkh := Lib.hid hgk
          have hceh := Lib.hid hce
          have hE : Hid (∀ W, Below wk.heap.size wk W → W.cell? ⟨b, off + k * 3, none⟩ = some (.int .i64 U) ∧ W.cell? ⟨b, off + k * 3 + 1, none⟩ = some (.int .i64 V) ∧ W.cell? ⟨w.heap.size, 2, none⟩ = some (.slice (some ⟨b, off, none⟩) g.edges.length ce)) := fun W hW =>
            ⟨cell_below hW x0, cell_below hW x1, cell_below hW d2⟩
          have hrw : Hid (∀ (j : Nat) (hj : j < L.length) W, Below wk.heap.size wk W → ∃ ga ag cg, a = some ⟨ga, 0, none⟩ ∧ W.cell? ⟨ga, j, none⟩ = some (.slice ag L[j].length cg) ∧ Cells W ag (ints L[j])) := fun j hj W hW =>
            hrow.out j hj W (hb45k.out.trans (hW.mono hb45k.out.size))
          clear hU hV hgk hce x0 x1 d0 d1 hgi hrg hbl
          go_wp2_with fail
          clear d2
          go_loopw [8, 9, 10] (fun u v iv wr => ∃ (i : Nat), i ≤ L.length ∧ iv = .int .i64 i ∧ u = .int .i64 (compUp L U i) ∧ v = .int .i64 (compUp L V i) ∧ Below wk.heap.size wk wr) (fun _ _ iv _ => L.length - (intOf iv).toNat)
          case atStart => exact ⟨0, Nat.zero_le _, rfl, rfl, rfl, Below.refl _ _⟩
          case round =>
            obtain ⟨i, hi, rfl, rfl, rfl, hb⟩ := hrel
            by_cases hli : i < L.length
            · obtain ⟨x0, x1, d2⟩ := hE.out wr hb
              obtain ⟨ga, ag, cg, rfl, y0, y1⟩ := hrw.out i hli wr hb
              have hu1 := compUp_succ L U hli
              have hv1 := compUp_succ L V hli
              have hLi := hrl.out i hli
              obtain ⟨Li, hLie⟩ : ∃ Li, Li = L[i] := ⟨_, rfl⟩
              rw [← hLie] at y0 y1 hu1 hv1 hLi
              have hbh := Lib.hid hb
              have hhas : Hid (∀ q, Calls Tryz.prog 11 #[.slice ag Li.length cg, .int .i64 U] (wr.drewN q) fun e w' => e = .returned (.bool (decide (U ∈ Li))) ∧ w' = wr.drewN q) := fun q =>
                (has_any ag _ cg Li U _ rfl (by omega) (y1.drewN q)).mono fun e w' ⟨h1, h2⟩ => ⟨h1, h2.symm⟩
              have hhas2 : Hid (∀ wm, Below wr.heap.size wr wm → ∀ q, Calls Tryz.prog 11 #[.slice ag Li.length cg, .int .i64 V] (wm.drewN q) fun e w' => e = .returned (.bool (decide (V ∈ Li))) ∧ w' = wm.drewN q) := fun wm hwm q =>
                (has_any ag _ cg Li V _ rfl (by omega) ((y1.below hwm).drewN q)).mono fun e w' ⟨h1, h2⟩ => ⟨h1, h2.symm⟩
              obtain ⟨t, ht⟩ : ∃ t, t = decide (U ∈ Li) := ⟨_, rfl⟩
              obtain ⟨s, hs⟩ : ∃ s, s = decide (V ∈ Li) := ⟨_, rfl⟩
              rw [← ht] at hhas hu1
              rw [← hs] at hhas2 hv1
              obtain ⟨cu, hcu⟩ : ∃ cu, cu = compUp L U i := ⟨_, rfl⟩
              obtain ⟨cv, hcv⟩ : ∃ cv, cv = compUp L V i := ⟨_, rfl⟩
              rw [← hcu] at hu1 ⊢
              rw [← hcv] at hv1 ⊢
              have hu1h := Lib.hid hu1
              have hv1h := Lib.hid hv1
              clear ht hs hb y1 hLie hu1 hv1 hcu hcv
              go_wp2_with fail
              go_quiet ((go_at_call 11; exact Calls.quiet_of_same (hhas.out _)))
              obtain ⟨wm, hwm⟩ : ∃ wm, wm = wr.drewN nq := ⟨_, rfl⟩
              have hbr : Below wr.heap.size wr wm := by rw [hwm]; exact drewN_below _ _
              have hbm : Hid (Below wk.heap.size wk wm) := hbh.out.trans (hbr.mono hbh.out.size)
              have h2 := Lib.hid (hhas2.out wm hbr)
              have x1m := cell_below hbr x1
              have d2m := cell_below hbr d2
              have y0m := cell_below hbr y0
              rw [← hwm]
              clear hwm x0 x1 d2 y0 hhas hhas2 hbh hbr
              cases t
              all_goals
               go_wp2_with fail
               go_quiet ((go_at_call 11; exact Calls.quiet_of_same (h2.out _)))
               clear x1m d2m y0m
               cases s
               all_goals
                go_wp2_with fail
                go_roundw
                case rel => exact ⟨i + 1, by omega, by go_num, by rw [hu1h.out]; rfl, by rw [hv1h.out]; rfl, below_draws hbm.out _⟩
                case measure => simp [intOf]; omega
            · have hin : i = L.length := by omega
              subst hin
              have hgr := hgkh.out.keep hb
              obtain ⟨a1, c1, a2, c2, rfl, rfl, _⟩ := hgr.shape
              have hcc : Hid (condEdges L (g.edges.take (k + 1)) = condEdges L (g.edges.take k) ++ if compUp L U L.length = compUp L V L.length then [] else [(compUp L U L.length, compUp L V L.length, 0)]) := hceh.out
              have hm : (condEdges L (g.edges.take k)).length ≤ g.edges.length := by
                have := condEdges_le L (g.edges.take k)
                rw [List.length_take] at this
                omega
              obtain ⟨cu, hcu⟩ : ∃ cu, cu = compUp L U L.length := ⟨_, rfl⟩
              obtain ⟨cv, hcv⟩ : ∃ cv, cv = compUp L V L.length := ⟨_, rfl⟩
              rw [← hcu, ← hcv] at hcc ⊢
              obtain ⟨E, hE⟩ : ∃ E, E = condEdges L (g.edges.take k) := ⟨_, rfl⟩
              rw [← hE] at hcc hgr hm
              have e2 := hgr.at2
              have hzw := lt_of_block hgr.blk
              have ho : Hid (∀ o, (wr.alloc o).ownsRow (w5.heap.size + 1) 34 3 (.slice a2 E.length c2) E.length (edgeCells E)) := fun o => hgr.e.alloc o
              have hgh := Lib.hid hgr
              obtain ⟨m, hme⟩ : ∃ m, m = E.length := ⟨_, rfl⟩
              rw [← hme] at e2 ho hgh hm
              have hmeh := Lib.hid hme
              clear hcu hcv hE hgr hme hb hgkh hceh hrw hrl
              by_cases hcc2 : cu = cv
              · have hdec : decide (cu = cv) = true := decide_eq_true hcc2
                clear e2
                go_wp2_with fail
                go_roundw
                case rel => exact ⟨k + 1, _, _, by omega, by go_num, by rw [hcc.out, if_pos hcc2, List.append_nil]; exact hgh.out⟩
                case measure => simp [intOf]; omega
              · have hdec : decide (cu = cv) = false := decide_eq_false hcc2
                go_wp2_with (at_builtin; refine append_law 23 34 (.agg #[.int .i64 0, .int .i64 0, .int .i64 0]) 3 24 Tryz.underlying23 info_edge rfl (by omega) (by omega) rfl _ _ rfl (w5.heap.size + 1) a2 m c2 (edgeCells E) rfl (unhide ho _) ⟨wr.heap.size, 0, none⟩ 1 1 [.int .i64 cu, .int .i64 cv, .int .i64 0] rfl rfl (new_three wr _ _ _ _) (one_edge _ _ _) (by omega) (by simp; omega) ?_; intro b2 c2 w6 hown2 hg2 hat2; obtain ⟨s1, s2, s3⟩ := hgh.out.edge (x := (cu, cv, 0)) hmeh.out hg2 hown2 hat2; clear hown2 hg2 hat2 ho hgh)
                go_roundw
                case rel => exact ⟨k + 1, _, _, by omega, by go_num, by rw [hcc.out, if_neg hcc2]; exact s3.out⟩
                case measure => simp [intOf]; omega
        · have hkn : k = g.edges.length := by omega
          subst hkn
          rw [List.take_length] at hgk
          obtain ⟨a1, c1, a2, c2, rfl, rfl, _⟩ := hgk.shape
          have hcf := cond_facts hok.out hordh.out
          obtain ⟨m, hm⟩ : ∃ m, m = (condEdges L g.edges).length := ⟨_, rfl⟩
          have hml : m ≤ 1048576 := by have := condEdges_le L g.edges; omega
          rw [condNodes_length, ← hm] at hgk
          have hH : Hid (∀ W, Below wr.heap.size wr W → W.cell? ⟨w5.heap.size, 0, none⟩ = some (.bool true) ∧ W.cell? ⟨w5.heap.size, 1, none⟩ = some (.slice a1 L.length c1) ∧ W.cell? ⟨w5.heap.size, 2, none⟩ = some (.slice a2 m c2) ∧
              Calls Tryz.prog 12 #[.agg #[.bool true, .slice a1 L.length c1, .slice a2 m c2]] W (SortRes W (gComps (condG L g.edges))) ∧
              Calls Tryz.prog 9 #[.agg #[.bool true, .slice a1 L.length c1, .slice a2 m c2]] W (SccRes W (gSccs (condG L g.edges)))) := fun W hW => by
            have hgw := hgk.keep hW
            have hga : GrAt W (condG L g.edges) a1 c1 a2 := by
              obtain ⟨x1, y1, x2, y2, e1, e2, h⟩ := hgw.shape
              injection e1 with e1 _ e3
              injection e2 with e2 _ _
              subst e1; subst e2; subst e3
              exact h
            have en : (condG L g.edges).nodes.length = L.length := condNodes_length _
            have ee : (condG L g.edges).edges.length = m := hm.symm
            refine ⟨hgw.at0, hgw.at1, hgw.at2, ?_, ?_⟩
            · have := sort_any (condG L g.edges) a1 c1 a2 c2 W (by rw [en]; omega) (by rw [ee]; exact hml) hga hcf.1 rfl (cond_in64 (by omega))
              rw [en, ee] at this
              exact this
            · have := scc_any (condG L g.edges) a1 c1 a2 c2 W (by rw [en]; omega) (by rw [ee]; exact hml) hga hcf.1 rfl (cond_in64 (by omega))
              rw [en, ee] at this
              exact this
          have hcfh := Lib.hid hcf
          have hb1r : Hid (Below w1.heap.size w1 wr) := hb4h.out.trans (hb45k.out.mono hb4h.out.size)
          obtain ⟨h0, h1, h2, hs1, _⟩ := hH.out wr (Below.refl _ _)
          have hs1h := Lib.hid hs1
          clear hgk hcf d0 d1 hgi hs1 hm hml hrow hrl
          go_wp2_with fail
          refine (unhide hs1h).mono ?_
          rintro e w6 ⟨b1, p1, b2, p2, B6, vs6, rfl, _, _, _, _, hb6⟩
          rw [hcfh.out.2.2.1, hcfh.out.2.1]
          clear h0 h1 h2 d2 hs1h
          obtain ⟨h0, h1, h2, _, hs2⟩ := hH.out w6 hb6
          have hs2h := Lib.hid hs2
          have hb6h := Lib.hid hb6
          clear hs2 hb6
          go_wp2_with fail
          refine (unhide hs2h).mono ?_
          rintro e w7 ⟨a7, p7, B7, vs7, rfl, _, _, _, hb7⟩
          rw [hcfh.out.2.2.2]
          have hb17 : Hid (Below w1.heap.size w1 w7) := hb1r.out.trans ((hb6h.out.trans (hb7.mono hb6h.out.size)).mono hb1r.out.size)
          obtain ⟨_, hg7, d0, d1, d2⟩ := hK.out w7 hb17.out
          have hs3 := Lib.hid (sort_any g an cn ae ce w7 (by omega) (by omega) hg7 hok.out hdir.out h64h.out)
          clear h0 h1 h2 hs2h hb7 hg7 hH hcfh hb6h
          go_wp2_with fail
          refine (unhide hs3).mono ?_
          rintro e w8 ⟨b8, p8, b9, p9, B8, vs8, rfl, _, _, _, _, hb8⟩
          obtain ⟨q8, hq8⟩ : ∃ q8, q8 = decide (cycL (gComps g) (gComps g).length = []) := ⟨_, rfl⟩
          obtain ⟨n8, hn8⟩ : ∃ n8, n8 = (cycL (gComps g) (gComps g).length).length := ⟨_, rfl⟩
          rw [← hq8, ← hn8, hwhole.out]
          have hb18 : Hid (Below w1.heap.size w1 w8) := hb17.out.trans (hb8.mono hb17.out.size)
          have hs4 : Hid (Calls Tryz.prog 12 #[.agg #[.bool true, .slice none 0 0, .slice none 0 0]] w8 (SortRes w8 (gComps ⟨true, [], []⟩))) :=
            sort_any ⟨true, [], []⟩ none 0 none 0 w8 (Nat.zero_le _) (Nat.zero_le _) ⟨.inl rfl, .inl rfl, fun _ => rfl⟩ none_facts.1 rfl (fun x hx => by cases hx)
          clear hq8 hn8 hs3 hb8 d0 d1 d2
          go_wp2_with fail
          refine (unhide hs4).mono ?_
          rintro e w9 ⟨b10, p10, b11, p11, B9, vs9, rfl, _, _, _, _, hb9⟩
          rw [none_facts.2]
          obtain ⟨n9, hn9⟩ : ∃ n9, n9 = (gComps ⟨true, [], []⟩).length := ⟨_, rfl⟩
          rw [← hn9]
          have hfin : Hid (Below w.heap.size w w9) := (hK.out w9 (hb18.out.trans (hb9.mono hb18.out.size))).1
          clear hn9 hs4 hb9
          go_wp2_with fail
          go_ret
          exact ⟨rfl, hfin.out⟩
end Go.Proofs.YtagnmdhdogaijaaGreat
