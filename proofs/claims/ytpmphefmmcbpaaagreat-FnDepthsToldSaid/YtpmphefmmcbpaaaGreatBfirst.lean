/- impl.BreadthFirst, over a graph that is well formed, from one of its nodes. -/
import Derived.Test.YtpmphefmmcbpaaaGreatDfirst
import Derived.Test.YtpmphefmmcbpaaaGreatBw2
import Derived.Test.YtpmphefmmcbpaaaGreatBw3
import Derived.Test.YtpmphefmmcbpaaaGreatFrom1
import Derived.BigRegion
namespace Go.Proofs.YtpmphefmmcbpaaaGreat
open Go.RowKit

/-- What impl.BreadthFirst gives. -/
def BFirstPost (w : World) (g : Gr) (barred : List (Int × Int × Int)) (u v : Int) (e : Ending) (w' : World) : Prop :=
  ∃ (L : List (Int × Int)) (a : Option Addr) (c : Nat) (ok : Bool), BEnd (gSuccF g barred) u v L ok ∧ L.length ≤ 1000 ∧ e = .returned (.tuple #[.slice a L.length c, .int .i64 (if ok then v else 0), .bool ok, .bool false]) ∧ Cells w' a (visCells L) ∧ Below w.heap.size w w'

set_option maxRecDepth 100000 in
set_option maxHeartbeats 8000000 in
theorem bfirst_any (g : Gr) (an : Option Addr) (cn : Nat) (ae : Option Addr) (ce : Nat) (u v : Int) (barred : List (Int × Int × Int)) (ab : Option Addr) (cb : Nat) (w : World) (hn : g.nodes.length ≤ 1000) (he : g.edges.length ≤ 1048576) (hg : GrAt w g an cn ae) (hok : okGraph g = true) (hu : u ∈ g.nodes) (h64 : ∀ x ∈ g.nodes, In64 x)
    (hbl : barred.length ≤ 1048576) (hbc : Cells w ab (edgeCells barred)) :
    Calls Tryz.prog 13 #[.agg #[.bool g.dir, .slice an g.nodes.length cn, .slice ae g.edges.length ce], .int .i64 u, .int .i64 v, .slice ab barred.length cb] w (BFirstPost w g barred u v) := by
  obtain ⟨wa, hwa⟩ : ∃ wa, wa = w.alloc (.cells #[.bool g.dir, .slice an g.nodes.length cn, .slice ae g.edges.length ce] 25) := ⟨_, rfl⟩
  obtain ⟨wb, hwb⟩ : ∃ wb, wb = wa.alloc (.cells #[.int .i64 v] 3) := ⟨_, rfl⟩
  obtain ⟨wc, hwc⟩ : ∃ wc, wc = wb.alloc (.cells #[.slice none 0 0] 30) := ⟨_, rfl⟩
  obtain ⟨wd, hwd⟩ : ∃ wd, wd = wc.alloc (.cells #[.int .i64 u] 3) := ⟨_, rfl⟩
  have za : wa.heap.size = w.heap.size + 1 := by rw [hwa]; simp
  have zb : wb.heap.size = w.heap.size + 2 := by rw [hwb]; simp [za]
  have zc : wc.heap.size = w.heap.size + 3 := by rw [hwc]; simp [zb]
  have zd : wd.heap.size = w.heap.size + 4 := by rw [hwd]; simp [zc]
  have ba : Below w.heap.size w wa := by rw [hwa]; exact alloc_below _ _
  have bb : Below wa.heap.size wa wb := by rw [hwb]; exact alloc_below _ _
  have bc : Below wb.heap.size wb wc := by rw [hwc]; exact alloc_below _ _
  have bd : Below wc.heap.size wc wd := by rw [hwd]; exact alloc_below _ _
  have bad : Below wa.heap.size wa wd := (bb.trans (bc.mono (by omega))).trans (bd.mono (by omega))
  have bwd : Below w.heap.size w wd := ba.trans (bad.mono (by omega))
  have kg : wd.cell? ⟨w.heap.size, 0, none⟩ = some (.bool g.dir) := by
    rw [bad.cell (by show w.heap.size < _; omega), hwa]; simp
  have ku : wd.cell? ⟨w.heap.size + 1, 0, none⟩ = some (.int .i64 v) := by
    rw [(bc.trans (bd.mono (by omega))).cell (by show w.heap.size + 1 < _; omega), hwb, ← za]; simp
  have kp : VBlk wd (w.heap.size + 1 + 1) 30 (.slice none 0 0) := by
    refine (bd.block _ (by omega)).trans ?_
    have := heap_alloc_new wb (.cells #[.slice none 0 0] 30)
    rw [← hwc, zb] at this
    exact this
  have kl : wd.cell? ⟨w.heap.size + 3, 0, none⟩ = some (.int .i64 u) := by rw [hwd, ← zc]; simp
  have hfrom := from_one g an cn ae ce u (w.heap.size + 3) wd (by omega) he (hg.below bwd) hok kl
  have hwdh : Hid (wd = (((w.alloc (.cells #[.bool g.dir, .slice an g.nodes.length cn, .slice ae g.edges.length ce] 25)).alloc (.cells #[.int .i64 v] 3)).alloc (.cells #[.slice none 0 0] 30)).alloc (.cells #[.int .i64 u] 3)) := by
    unfold Hid; rw [hwd, hwc, hwb, hwa]
  rw [hwdh.out] at hfrom
  have hfromh := Lib.hid hfrom
  have hd1 : decide (u ∈ asc g.nodes) = true := decide_eq_true (asc_mem.2 hu)
  rw [hd1] at hfromh
  have hal := asc_length g.nodes
  have hids : (asc g.nodes).length ≤ 1000 := by omega
  have h64' : Hid (∀ x ∈ asc g.nodes, In64 x) := fun x hx => h64 x (asc_mem.1 hx)
  have huh := Lib.hid (asc_mem.2 hu)
  have bwdh := Lib.hid bwd
  have kgh := Lib.hid kg
  have kuh := Lib.hid ku
  have kph := Lib.hid kp
  have hbch := Lib.hid hbc
  clear hwa hwb hwc hwd za zb zc ba bb bc bd bad bwd kg ku kp kl hfrom hg hok hu h64 hd1 hal hbc
  go_enter Tryz.func13, Tryz.ntmps13
  go_wp2_with fail
  refine (unhide hfromh).mono ?_
  rintro e w3 ⟨gb, rfl, hb3, hp3, hfar3⟩
  rw [← hwdh.out] at hb3 hfar3
  have zd3 := hb3.size
  have hF3 := hfar3.within
  have g3 : w3.cell? ⟨w.heap.size, 0, none⟩ = some (.bool g.dir) := cell_below hb3 kgh.out
  have u3 : w3.cell? ⟨w.heap.size + 1, 0, none⟩ = some (.int .i64 v) := cell_below hb3 kuh.out
  have p3 : VBlk w3 (w.heap.size + 1 + 1) 30 (.slice none 0 0) := (hb3.block _ (lt_of_block kph.out)).trans kph.out
  have hfree := Lib.hid (freeFn_any g.dir ab barred.length cb w3)
  have hp3h := Lib.hid hp3
  have hF3h := Lib.hid hF3
  have hb3h := Lib.hid hb3
  have p3h := Lib.hid p3
  have u3h := Lib.hid u3
  clear hp3 hF3 hb3 p3 u3 hfar3 hfromh kgh kuh kph
  generalize hov : openv g.dir gb = ov
  have hovh := Lib.hid hov
  clear hov
  go_wp2_with fail
  refine (unhide hfree).mono ?_
  rintro e w4 ⟨rfl, hw4⟩
  have z4 : w4.heap.size = w3.heap.size + 2 := by rw [hw4]; simp
  have b4 : Below w3.heap.size w3 w4 := by rw [hw4]; exact (alloc_below _ _).trans ((alloc_below _ _).mono (by simp))
  have hd4 : w4.cell? ⟨w3.heap.size, 0, none⟩ = some (.bool g.dir) := by rw [hw4, Below.cell (alloc_below _ _) (by simp)]; simp
  have hbb4 : w4.cell? ⟨w3.heap.size + 1, 0, none⟩ = some (.slice ab barred.length cb) := by
    have := heap_alloc_new (w3.alloc (.cells #[.bool g.dir] 4)) (.cells #[.slice ab barred.length cb] 23)
    rw [← hw4, show (w3.alloc (.cells #[.bool g.dir] 4)).heap.size = w3.heap.size + 1 by simp] at this
    simp [World.cell?, this]
  have z4h := Lib.hid z4
  have b4h := Lib.hid b4
  have hd4h := Lib.hid hd4
  have hbb4h := Lib.hid hbb4
  have g4 : w4.cell? ⟨w.heap.size, 0, none⟩ = some (.bool g.dir) := cell_below b4 g3
  have hsf := store_func Tryz.prog
  clear hw4 z4 b4 hd4 hbb4 g3 hfree
  unfold freeFn
  go_wp2_with fail
  obtain ⟨w5, hw5⟩ : ∃ w5, w5 = w4.alloc (.cells #[.func (.func 42) #[] #[.pointer (some ⟨w.heap.size + 1 + 1, 0, none⟩)], .func (.func 76) #[] #[.pointer (some ⟨w3.heap.size, 0, none⟩), .pointer (some ⟨w3.heap.size + 1, 0, none⟩)], .int .i64 0, .slice none 0 0, .map none] 82) := ⟨_, rfl⟩
  rw [← hw5]
  have b5 : Below w4.heap.size w4 w5 := by rw [hw5]; exact alloc_below _ _
  have z5 : w5.heap.size = w4.heap.size + 1 := by rw [hw5]; simp
  have hD5 : TBlock w5 w4.heap.size 0 (.slice none 0 0) ⟨visitB (w.heap.size + 1 + 1), freeFn w3.heap.size (w3.heap.size + 1), .map none⟩ := by
    have := heap_alloc_new w4 (.cells #[.func (.func 42) #[] #[.pointer (some ⟨w.heap.size + 1 + 1, 0, none⟩)], .func (.func 76) #[] #[.pointer (some ⟨w3.heap.size, 0, none⟩), .pointer (some ⟨w3.heap.size + 1, 0, none⟩)], .int .i64 0, .slice none 0 0, .map none] 82)
    rw [← hw5] at this
    exact this
  have z4 := z4h.out
  have b35 : Below w3.heap.size w3 w5 := b4h.out.trans (b5.mono (by omega))
  have bdw : w.heap.size + 4 ≤ w3.heap.size := Nat.le_trans (by rw [hwdh.out]; simp) zd3
  have zdd : wd.heap.size = w.heap.size + 4 := by rw [hwdh.out]; simp
  have bw5 : Below w.heap.size w w5 := (bwdh.out.trans (hb3h.out.mono (by omega))).trans (b35.mono (by omega))
  have hP5 : VBlk w5 (w.heap.size + 1 + 1) 30 (.slice none 0 0) := (b35.block _ (by omega)).trans p3h.out
  have hE5 := denv_of (F := [w4.heap.size, w.heap.size + 1 + 1]) (ub := w.heap.size + 1) (v := v) bw5 (hF3h.out.below b35) hbch.out (cell_below b5 hd4h.out) (cell_below b5 hbb4h.out) (cell_below b35 u3h.out) (fun k hk => by
    rcases List.mem_cons.1 hk with rfl | hk
    · refine ⟨by omega, .inr (by omega), by omega, by omega, by omega⟩
    · rw [List.mem_singleton.1 hk]; exact ⟨by omega, .inl (by omega), by omega, by omega, by omega⟩)
  have hub5 : w.heap.size + 1 < w5.heap.size := by omega
  have hub5' : w.heap.size + 1 ∉ [w4.heap.size, w.heap.size + 1 + 1] := fun hk => by
    rcases List.mem_cons.1 hk with hk | hk
    · omega
    · have := List.mem_singleton.1 hk; omega
  have hwalk : Hid (Calls Tryz.prog 45
      #[.pointer (some ⟨w4.heap.size, 0, none⟩), ov, .iface 84 (.int .i64 u), untilB (w.heap.size + 1 + 1) (w.heap.size + 1)] w5
      fun e w' => ∃ (mb B N : Nat) (q O : List Int) (L : List (Int × Int)) (ap : Option Addr) (cp : Nat) (ok : Bool), BEnd (succF (asc g.nodes) (outsOf g) g.dir barred) u v L ok ∧
        e = .returned (if ok then .iface 84 (.int .i64 v) else .nilIface) ∧ L.length ≤ 1000 ∧
        BfsAt w' (asc g.nodes) w.heap.size B w4.heap.size mb (w.heap.size + 1 + 1) N (visitB (w.heap.size + 1 + 1)) (freeFn w3.heap.size (w3.heap.size + 1)) q O L (.slice ap L.length cp) ∧
          Moves [w4.heap.size, w.heap.size + 1 + 1] w5 (bfoot w' w4.heap.size mb (w.heap.size + 1 + 1) (.slice ap L.length cp)) w') := by
    unfold Hid
    rw [← hovh.out]
    cases hdir : g.dir
    · rw [hdir] at hE5
      exact bwUnd_any gb (asc g.nodes) (outsOf g) _ w.heap.size w4.heap.size (w.heap.size + 1 + 1) (w.heap.size + 1) w3.heap.size (w3.heap.size + 1) false barred u v w5 hids hbl h64'.out (succF_reach hp3h.out huh.out) hD5 hP5 (by omega) (by omega) (by omega) hE5 hub5 hub5'
    · rw [hdir] at hE5
      exact bwDir_any gb (asc g.nodes) (outsOf g) _ w.heap.size w4.heap.size (w.heap.size + 1 + 1) (w.heap.size + 1) w3.heap.size (w3.heap.size + 1) true barred u v w5 hids hbl h64'.out (succF_reach hp3h.out huh.out) hD5 hP5 (by omega) (by omega) (by omega) hE5 hub5 hub5'
  have hw4l : w.heap.size ≤ w4.heap.size := by omega
  have bw5h := Lib.hid bw5
  clear hub5 hub5' hw5 b5 z5 hD5 z4 b35 bdw zdd bw5 hP5 hE5 g4 z4h b4h hd4h hbb4h p3h u3h hF3h hb3h bwdh hwdh zd3 hp3h hovh
  unfold untilB at hwalk
  refine (unhide hwalk).mono ?_
  rintro e w6 ⟨mb, B, N, q, O, L, ap, cp, ok, hend, rfl, hLl, hD6, hM6⟩
  have b6 : Below w.heap.size w w6 := hM6.below bw5h.out (fun k hk => by
    rcases List.mem_cons.1 hk with rfl | hk
    · exact hw4l
    · rw [List.mem_singleton.1 hk]; omega) bw5h.out.size
  have c6 := hD6.pblk.c0
  have f6 := hD6.pblk.free 0
  have hset : ∀ x, (w6.setCell ⟨w.heap.size + 1 + 1, 0, none⟩ x).cell? ⟨w.heap.size + 1 + 1, 0, none⟩ = some x := fun x => (hD6.pblk.set x).c0
  have hfin : Hid (∀ W x, Below w6.heap.size w6 W → Cells (W.setCell ⟨w.heap.size + 1 + 1, 0, none⟩ x) ap (visCells L) ∧ Below w.heap.size w (W.setCell ⟨w.heap.size + 1 + 1, 0, none⟩ x)) := fun W x hW => by
    have hp := (hD6.below hW).1.prow
    have l := hD6.lts
    have hq : (W.setCell ⟨w.heap.size + 1 + 1, 0, none⟩ x).ownsRow B 37 2 (.slice ap L.length cp) L.length (visCells L) := owns_same hp fun j hj => by have := hp.lt j hj; exact Below.heap_setCell _ _ _ _ (show j ≠ w.heap.size + 1 + 1 by omega)
    obtain ⟨ag, cg, e, _, hcs, _⟩ := owns_cells hq
    injection e with e1 _ _
    subst e1
    exact ⟨hcs, (b6.trans (hW.mono b6.size)).setCell (by show w.heap.size ≤ w.heap.size + 1 + 1; omega) _⟩
  obtain ⟨nv, hnv⟩ : ∃ nv, nv = L.length := ⟨_, rfl⟩
  rw [← hnv] at c6
  have hnvh := Lib.hid hnv
  have hendh := Lib.hid hend
  clear hend hD6 hM6 b6 hwalk bw5h hnv
  cases ok
  · simp only [Bool.false_eq_true, if_false]
    go_wp2_with fail
    refine bodyPost_ret (v := .tuple #[.slice ap nv cp, .int .i64 0, .bool false, .bool false]) (by simp [results, Tryz.results13, go_sem, hset]) rfl ?_
    have h1 := hfin.out w6 (.slice ap nv cp) (Below.refl _ _)
    exact ⟨L, ap, cp, false, hendh.out, hLl, by rw [hnvh.out]; rfl, h1.1, h1.2⟩
  · simp only [if_true]
    go_wp2_with fail
    go_region_law (go_simp; go_at_call 43; ((with_reducible refine (number_any _ _).mono ?_)); rintro e w7 ⟨rfl, rfl⟩)
    all_goals
      go_wp2_with fail
      refine bodyPost_ret (v := .tuple #[.slice ap nv cp, .int .i64 v, .bool true, .bool false]) (by simp [results, Tryz.results13, go_sem, hset]) rfl ?_
      have h1 := hfin.out w6.drew (.slice ap nv cp) (drew_below w6)
      exact ⟨L, ap, cp, true, hendh.out, hLl, by rw [hnvh.out]; rfl, h1.1, h1.2⟩
end Go.Proofs.YtpmphefmmcbpaaaGreat
