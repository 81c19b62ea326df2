/- laws.FnSCCOrder: the walk. -/
import Derived.Test.YtaolfdmmadfncaaGreatOrderLaw
namespace Go.Proofs.YtaolfdmmadfncaaGreat
open Go.RowKit

theorem len_flat {l : List (List Int)} {c : List Int} (h : c ∈ l) : c.length ≤ l.flatten.length := by
  induction l with
  | nil => cases h
  | cons d l ih =>
    rw [List.flatten_cons, List.length_append]
    rcases List.mem_cons.1 h with e | e
    · rw [e]; omega
    · have := ih e; omega

set_option maxRecDepth 100000 in
set_option maxHeartbeats 4000000 in
theorem sccOrder_any (g : Gr) (an : Option Addr) (cn : Nat) (ae : Option Addr) (ce : Nat) (w : World) (hm : g.nodes.length ≤ 9223372036854775807) (hm' : g.edges.length ≤ 9223372036854775807) (hg : GrAt w g an cn ae) (h64 : ∀ x ∈ g.nodes, In64 x) :
    Calls Tryz.prog 3 #[.agg #[.bool g.dir, .slice an g.nodes.length cn, .slice ae g.edges.length ce]] w
      fun e w' => e = .returned (.bool true) ∧ Below w.heap.size w w' := by
  obtain ⟨w1, hw1⟩ : ∃ w1, w1 = w.alloc (.cells #[.bool g.dir, .slice an g.nodes.length cn, .slice ae g.edges.length ce] 25) := ⟨_, rfl⟩
  have hb1 : Below w.heap.size w w1 := by rw [hw1]; exact alloc_below w _
  have hz1 : w1.heap.size = w.heap.size + 1 := by rw [hw1]; simp
  have k0 : w1.cell? ⟨w.heap.size, 0, none⟩ = some (.bool g.dir) := by rw [hw1]; simp
  have k1 : w1.cell? ⟨w.heap.size, 1, none⟩ = some (.slice an g.nodes.length cn) := by rw [hw1]; simp
  have k2 : w1.cell? ⟨w.heap.size, 2, none⟩ = some (.slice ae g.edges.length ce) := by rw [hw1]; simp
  have hK : Hid (∀ wr, Below w1.heap.size w1 wr → Below w.heap.size w wr ∧ GrAt wr g an cn ae ∧ wr.cell? ⟨w.heap.size, 0, none⟩ = some (.bool g.dir) ∧ wr.cell? ⟨w.heap.size, 1, none⟩ = some (.slice an g.nodes.length cn) ∧ wr.cell? ⟨w.heap.size, 2, none⟩ = some (.slice ae g.edges.length ce)) :=
    fun wr h => ⟨hb1.trans (h.mono (by omega)), (hg.below hb1).below h, cell_below h k0, cell_below h k1, cell_below h k2⟩
  have hg1 := hg.below hb1
  have hfits := Lib.hid (fits_any g an cn ae ce w1 hm hm')
  rw [hw1] at hfits
  have hw1h := Lib.hid hw1
  clear hg hb1 hw1 k0 k1 k2 hg1
  go_enter Tryz.func3, Tryz.ntmps3
  go_wp2_with fail
  refine (unhide hfits).mono ?_
  rintro e w2 ⟨rfl, hb2⟩
  rw [← hw1h.out] at hb2
  obtain ⟨hb2', hg2, c0, c1, c2⟩ := hK.out w2 hb2
  have hb2h := Lib.hid hb2
  have hb2h' := Lib.hid hb2'
  rcases hf : fitsB g with _ | _
  · clear hb2 hb2'
    go_wp2_with fail
    go_ret
    exact ⟨rfl, hb2h'.out⟩
  have hfew := Lib.hid (fewOf_any g an cn ae ce true w2 40 (by omega) hg2)
  obtain ⟨fw, hfw⟩ : ∃ fw, fw = (g.dir == true && fewB g 40) := ⟨_, rfl⟩
  rw [← hfw] at hfew
  have hfwh := Lib.hid hfw
  clear hb2 hb2' hg2 hfits hfw hf
  go_wp2_with fail
  refine (unhide hfew).mono ?_
  rintro e w3 ⟨rfl, hb3⟩
  have hb3' := hb2h.out.trans (hb3.mono hb2h.out.size)
  obtain ⟨hbw, hg3, d0, d1, d2⟩ := hK.out w3 hb3'
  have hbwh := Lib.hid hbw
  have hb3h := Lib.hid hb3'
  have hg3h := Lib.hid hg3
  clear hb3 hb3' hbw hg3 hfew c0 c1 c2
  cases fw
  · go_wp2_with fail
    go_ret
    exact ⟨rfl, hbwh.out⟩
  have hfw' := hfwh.out.symm
  rw [Bool.and_eq_true] at hfw'
  have hdir0 : g.dir = true := by have := hfw'.1; simpa using this
  have hdir := Lib.hid hdir0
  have hfw2 := hfw'.2
  unfold fewB at hfw2
  rw [Bool.and_eq_true, Bool.and_eq_true] at hfw2
  have hn40 : g.nodes.length ≤ 40 := of_decide_eq_true hfw2.1.1
  have he320 : g.edges.length ≤ 8 * 40 := of_decide_eq_true hfw2.1.2
  have hok := Lib.hid hfw2.2
  clear hfwh hfw' hfw2 hdir0
  have hscc := Lib.hid (scc_any g an cn ae ce w3 (by omega) (by omega) hg3h.out hok.out hdir.out h64)
  obtain ⟨L, hL⟩ : ∃ L, L = gSccs g := ⟨_, rfl⟩
  have hord : OrderOk g L := by rw [hL]; exact order_ok hok.out
  rw [← hL] at hscc
  have hLn : L.length ≤ 40 := Nat.le_trans hord.cnt hn40
  have hordh := Lib.hid hord
  clear hL hord hdir h64
  go_wp2_with fail
  refine (unhide hscc).mono ?_
  rintro e w4 ⟨a, c, D, vs, rfl, ho4, hr4, hD4, hb4⟩
  have hb4' := hb3h.out.trans (hb4.mono hb3h.out.size)
  obtain ⟨hbw4, hg4, c0, c1, c2⟩ := hK.out w4 hb4'
  have hparts := Lib.hid (parts_true a c D vs L an cn g.nodes w4 (by omega) (by rw [hordh.out.len]; omega) (by omega) ho4 hr4 hg4.nodes hg4.none hordh.out.ne hordh.out.inc hordh.out.perm)
  have hrow : Hid (∀ (k : Nat) (hk : k < L.length) W, Below w4.heap.size w4 W → ∃ ga ag cg, a = some ⟨ga, 0, none⟩ ∧ W.cell? ⟨ga, k, none⟩ = some (.slice ag L[k].length cg) ∧ Cells W ag (ints L[k])) := fun k hk W hW => by
    obtain ⟨ga, ag, cg, e, h1, h2⟩ := row_at ho4 hr4 k hk
    exact ⟨ga, ag, cg, e, cell_below hW h1, h2.below hW⟩
  have hrl : Hid (∀ (k : Nat) (hk : k < L.length), L[k].length ≤ 40) := fun k hk => by
    have := len_flat (List.getElem_mem hk)
    rw [hordh.out.len] at this; omega
  have hb4h := Lib.hid hb4'
  clear ho4 hr4 hD4 hb4 hb4' hbw4 hg4 d0 d1 d2 hscc
  go_wp2_with fail
  refine (unhide hparts).mono ?_
  rintro e w5 ⟨rfl, hb5⟩
  have hb45 := Lib.hid hb5
  have hb5' : Hid (Below w1.heap.size w1 w5) := hb4h.out.trans (hb5.mono hb4h.out.size)
  obtain ⟨_, _, d0, d1, d2⟩ := hK.out w5 hb5'.out
  clear hb5 hparts c0 c1 c2
  go_wp2_with fail
  go_loopw [5, 6, 7, 8] (fun kv _ _ _ wr => ∃ (k : Nat), k ≤ L.length ∧ kv = .int .i64 k ∧ Below w4.heap.size w4 wr) (fun kv _ _ _ _ => L.length - (intOf kv).toNat)
  case atStart => exact ⟨0, Nat.zero_le _, rfl, hb45.out⟩
  case round =>
    clear d0 d1 d2
    obtain ⟨k, hk, rfl, hb⟩ := hrel
    have hbh := Lib.hid hb
    have hb1k : Hid (Below w1.heap.size w1 wr) := hb4h.out.trans (hb.mono hb4h.out.size)
    obtain ⟨hbw2, _, d0, d1, d2⟩ := hK.out wr hb1k.out
    have hbw2h := Lib.hid hbw2
    clear hb hbw2
    by_cases hlt : k < L.length
    · obtain ⟨ga, _, _, rfl, _, _⟩ := hrow.out k hlt wr hbh.out
      have hrw : Hid (∀ (j : Nat) (hj : j < L.length) W, Below w4.heap.size w4 W → ∃ ag cg, W.cell? ⟨ga, j, none⟩ = some (.slice ag L[j].length cg) ∧ Cells W ag (ints L[j])) := fun j hj W hW => by
        obtain ⟨g2, ag, cg, e, h1, h2⟩ := hrow.out j hj W hW
        injection e with e
        injection e with e1 _ _
        subst e1
        exact ⟨ag, cg, h1, h2⟩
      clear hrow
      go_wp2_with fail
      go_loopw [6, 7, 8] (fun iv _ _ wr => ∃ (i : Nat), i ≤ g.edges.length ∧ iv = .int .i64 i ∧ Below w4.heap.size w4 wr) (fun iv _ _ _ => g.edges.length - (intOf iv).toNat)
      case atStart => exact ⟨0, Nat.zero_le _, rfl, hbh.out⟩
      case round =>
        clear d0 d1 d2 hbw2h hb1k hbh
        obtain ⟨i, hi, rfl, hb⟩ := hrel
        have hbh := Lib.hid hb
        have hb1i : Hid (Below w1.heap.size w1 wr) := hb4h.out.trans (hb.mono hb4h.out.size)
        obtain ⟨hbw3, hgi, d0, d1, d2⟩ := hK.out wr hb1i.out
        by_cases hli : i < g.edges.length
        · obtain ⟨b, off, rfl, hbl, hrg⟩ := hgi.edges.at (by rw [edgeCells_length]; omega)
          obtain ⟨x0, x1, _⟩ := edge_cells hrg hli
          obtain ⟨ag, cg, y0, y1⟩ := hrw.out k hlt wr hbh.out
          obtain ⟨U, hU⟩ : ∃ U, U = g.edges[i].1 := ⟨_, rfl⟩
          obtain ⟨V, hV⟩ : ∃ V, V = g.edges[i].2.1 := ⟨_, rfl⟩
          obtain ⟨Lk, hLk⟩ : ∃ Lk, Lk = L[k] := ⟨_, rfl⟩
          rw [← hU] at x0
          rw [← hV] at x1
          rw [← hLk] at y0 y1
          have hLkl : Lk.length ≤ 40 := by rw [hLk]; exact hrl.out k hlt
          have hlaw : Hid (decide (U ∈ Lk) = true → foundB L V (k + 1) = true) := fun h => by
            rw [hV]
            exact hordh.out.law k hlt i hli (by rw [hU, hLk] at h; exact of_decide_eq_true h)
          have hhas : Hid (∀ q, Calls Tryz.prog 8 #[.slice ag Lk.length cg, .int .i64 U] (wr.drewN q) fun e w' => e = .returned (.bool (decide (U ∈ Lk))) ∧ w' = wr.drewN q) := fun q =>
            (has_any ag _ cg Lk U _ rfl (by omega) (y1.drewN q)).mono fun e w' ⟨h1, h2⟩ => ⟨h1, h2.symm⟩
          clear hU hV hLk y1 hb hbw3 hgi hbl hrg
          obtain ⟨t, ht⟩ : ∃ t, t = decide (U ∈ Lk) := ⟨_, rfl⟩
          rw [← ht] at hhas hlaw
          clear ht
          go_wp2_with fail
          go_quiet ((go_at_call 8; exact Calls.quiet_of_same (hhas.out _)))
          obtain ⟨wm, hwm⟩ : ∃ wm, wm = wr.drewN nq := ⟨_, rfl⟩
          have hbm : Hid (Below w4.heap.size w4 wm) := by unfold Hid; rw [hwm]; exact below_draws hbh.out _
          have x1m : wm.cell? ⟨b, off + i * 3 + 1, none⟩ = some (.int .i64 V) := by rw [hwm]; exact x1
          have d2m : wm.cell? ⟨w.heap.size, 2, none⟩ = some (.slice (some ⟨b, off, none⟩) g.edges.length ce) := by rw [hwm]; exact d2
          rw [← hwm]
          clear hwm x0 x1 d0 d1 d2 y0 hhas hbh hb1i
          cases t
          · clear x1m d2m hlaw
            go_wp2_with fail
            go_roundw
            case rel => exact ⟨i + 1, by omega, by go_num, hbm.out⟩
            case measure => simp [intOf]; omega
          · have hlw : Hid (foundB L V (k + 1) = true) := hlaw.out rfl
            clear hlaw
            go_wp2_with fail
            go_loopw [7, 8] (fun fv jv wr => ∃ (j : Nat), j ≤ k + 1 ∧ jv = .int .i64 j ∧ fv = .bool (foundB L V j) ∧ Below wm.heap.size wm wr) (fun _ jv _ => k + 1 - (intOf jv).toNat)
            case atStart => exact ⟨0, Nat.zero_le _, rfl, rfl, Below.refl _ _⟩
            case round =>
              obtain ⟨j, hj, rfl, rfl, hb⟩ := hrel
              have x1r := cell_below hb x1m
              have d2r := cell_below hb d2m
              have hb4r : Hid (Below w4.heap.size w4 wr) := hbm.out.trans (hb.mono hbm.out.size)
              have hbh := Lib.hid hb
              clear hb x1m d2m
              by_cases hlj : j < k + 1
              · have hjL : j < L.length := by omega
                have hjk : j ≤ k := by omega
                obtain ⟨ag2, cg2, y0, y1⟩ := hrw.out j hjL wr hb4r.out
                have hst := foundB_succ L V j hjL
                have hLjl := hrl.out j hjL
                obtain ⟨Lj, hLj⟩ : ∃ Lj, Lj = L[j] := ⟨_, rfl⟩
                rw [← hLj] at y0 y1 hst hLjl
                obtain ⟨f, hf⟩ : ∃ f, f = foundB L V j := ⟨_, rfl⟩
                rw [← hf] at hst ⊢
                have hsth := Lib.hid hst
                have hhas : Hid (∀ q, Calls Tryz.prog 8 #[.slice ag2 Lj.length cg2, .int .i64 V] (wr.drewN q) fun e w' => e = .returned (.bool (decide (V ∈ Lj))) ∧ w' = wr.drewN q) := fun q =>
                  (has_any ag2 _ cg2 Lj V _ rfl (by omega) (y1.drewN q)).mono fun e w' ⟨h1, h2⟩ => ⟨h1, h2.symm⟩
                clear hst hLj hf y1
                cases f
                · go_wp2_with fail
                  go_quiet ((go_at_call 8; exact Calls.quiet_of_same (hhas.out _)))
                  go_wp2_with fail
                  go_roundw
                  case rel => exact ⟨j + 1, by omega, by go_num, congrArg Value.bool (by rw [hsth.out]; rfl), below_draws hbh.out _⟩
                  case measure => simp [intOf]; omega
                · go_wp2_with fail
                  go_quiet ((go_at_call 8; exact Calls.quiet_of_same (hhas.out _)))
                  go_wp2_with fail
                  go_roundw
                  case rel => exact ⟨j + 1, by omega, by go_num, congrArg Value.bool (by rw [hsth.out]; rfl), below_draws hbh.out _⟩
                  case measure => simp [intOf]; omega
              · have hjk : j = k + 1 := by omega
                subst hjk
                rw [hlw.out]
                clear x1r d2r hbh
                go_wp2_with fail
                go_roundw
                case rel => exact ⟨i + 1, by omega, by go_num, hb4r.out⟩
                case measure => simp [intOf]; omega
        · clear hb hbw3 hgi
          go_wp2_with fail
          go_roundw
          case rel => exact ⟨k + 1, by omega, by go_num, hbh.out⟩
          case measure => simp [intOf]; omega
    · go_wp2_with fail
      go_ret
      exact ⟨rfl, hbw2h.out⟩
end Go.Proofs.YtaolfdmmadfncaaGreat
