/- graph.UndirectWeighted over a plain graph: Nodes and From, and what is iterated over.
   impl.near of one number.
   impl.near; impl.UndirectWeighted. -/
import Derived.Test.YtgkimjjodhnmiaaGreatUGrA
import Derived.Test.YtgkimjjodhnmiaaGreatUPair2
import Derived.Test.YtgkimjjodhnmiaaGreatSeenX
import Derived.Test.YtgkimjjodhnmiaaGreatNodes
import Derived.BigRegion
import Derived.Test.YtgkimjjodhnmiaaGreatOneWay
import Derived.Test.YtgkimjjodhnmiaaGreatCopyP
namespace Go.Proofs.YtgkimjjodhnmiaaGreat
open Go.RowKit Go.Maps

set_option maxRecDepth 100000 in
set_option maxHeartbeats 1000000 in
theorem unodes_any {pb hb va : Nat} {ids : List Int} {outs ins : List (List Arc)} {w : World} (hids : ids.length ≤ 1000) (hp : PlainAt w pb ids outs ins) :
    Calls Tryz.prog 150 #[uwV pb hb va] w (ItOf w ids) := by
  obtain ⟨w1, hw1⟩ : ∃ w1, w1 = w.alloc (.cells #[.iface 52 (.agg #[.pointer (some ⟨pb, 0, none⟩)]), .float .f64 va, mergeV hb] 62) := ⟨_, rfl⟩
  have hb1 : Below w.heap.size w w1 := by rw [hw1]; exact alloc_below _ _
  have hnd := nodesDir_any pb ids outs ins w1 hids (hp.below hb1)
  have hup : Hid (asc ids = ids) := (asc_unique (List.Perm.refl _) (hp.up.imp fun h => Int.le_of_lt h)).symm
  unfold mergeV at hw1
  rw [hw1] at hnd
  have hndh := Lib.hid hnd
  have hw1h := Lib.hid hw1
  have hb1h := Lib.hid hb1
  have m1 := u_nodes
  simp only [uwV, mergeV]
  clear hnd hw1 hb1 hp
  go_enter Tryz.func150, Tryz.ntmps150
  go_wp2_with fail
  refine (unhide hndh).mono ?_
  rintro e w2 ⟨ib, rfl, hit, hb2⟩
  rw [← hw1h.out] at hb2 hit
  have hfin : Hid (ItOf w ids (.returned (.iface 208 (.pointer (some ⟨ib, 0, none⟩)))) w2) := by
    have hbw : Below w.heap.size w w2 := hb1h.out.trans (hb2.mono hb1h.out.size)
    refine ⟨_, rfl, hbw, (iteratedON_any w.heap.size w2.heap.size ib ids w2 hids (hit.mono hb1h.out.size) (Nat.le_refl _)).mono fun _ _ ⟨a, c, r1, r2, r3⟩ => ?_⟩
    rw [hup.out] at r2
    exact ⟨a, c, r1, r2, r3⟩
  clear hb2 hit hndh
  go_wp2_with fail
  go_ret
  exact hfin.out

/-- An iterator at its start, above lo. -/
def OneU (lo : Nat) (w : World) (ib : Nat) (l : List Int) : Prop := ∃ B E, lo ≤ B ∧ E ≤ w.heap.size ∧ IterAt w B E ib 0 l
/-- Two of them, apart. -/
def TwoU (lo : Nat) (w : World) (ib1 : Nat) (l1 : List Int) (ib2 : Nat) (l2 : List Int) : Prop :=
  ∃ B1 E1 B2 E2, IterAt w B1 E1 ib1 0 l1 ∧ IterAt w B2 E2 ib2 0 l2 ∧ lo ≤ B1 ∧ lo ≤ B2 ∧ E1 ≤ w.heap.size ∧ E2 ≤ w.heap.size ∧ (E1 ≤ B2 ∨ E2 ≤ B1)
theorem OneU.drew {lo ib : Nat} {w : World} {l : List Int} (h : OneU lo w ib l) : OneU lo w.drew ib l := by
  obtain ⟨B, E, h1, h2, h3⟩ := h
  exact ⟨B, E, h1, h2, h3.same fun _ _ _ => rfl⟩
theorem TwoU.drew {lo ib1 ib2 : Nat} {w : World} {l1 l2 : List Int} (h : TwoU lo w ib1 l1 ib2 l2) : TwoU lo w.drew ib1 l1 ib2 l2 := by
  obtain ⟨B1, E1, B2, E2, h1, h2, h3, h4, h5, h6, h7⟩ := h
  exact ⟨B1, E1, B2, E2, h1.same fun _ _ _ => rfl, h2.same fun _ _ _ => rfl, h3, h4, h5, h6, h7⟩
theorem twoU_of {lo ib1 ib2 : Nat} {w w' : World} {l1 l2 : List Int} (h : OneU lo w ib1 l1) (hit : IterAt w' w.heap.size w'.heap.size ib2 0 l2) (hb : Below w.heap.size w w') (hl : lo ≤ w.heap.size) : TwoU lo w' ib1 l1 ib2 l2 ∧ TwoU lo w' ib2 l2 ib1 l1 := by
  obtain ⟨B, E, h1, h2, h3⟩ := h
  have h3' := h3.same (w' := w') fun j _ hj => hb.block j (by omega)
  have hs := hb.size
  exact ⟨⟨B, E, _, _, h3', hit, h1, hl, by omega, Nat.le_refl _, .inl h2⟩, ⟨_, _, B, E, hit, h3', hl, h1, Nat.le_refl _, by omega, .inr h2⟩⟩

/-- What From of such a graph gives. -/
def UFromPost (w : World) (ids xs ys : List Int) (e : Ending) (w' : World) : Prop :=
  ∃ fb, e = .returned (.iface 212 (.pointer (some ⟨fb, 0, none⟩))) ∧ Below w.heap.size w w' ∧ ∃ w0 lo hi, w.heap.size ≤ lo ∧ lo ≤ hi ∧ PairAt w0 w' lo hi fb ids xs ys 0 0 .nilIface

set_option maxRecDepth 100000 in
set_option maxHeartbeats 4000000 in
theorem ufrom_any {pb hb va : Nat} {ids : List Int} {outs ins : List (List Arc)} {x : Int} {w : World} (hids : ids.length ≤ 1000) (h64 : ∀ y ∈ ids, In64 y) (hp : PlainAt w pb ids outs ins) (hx : x ∈ ids)
    (hl1 : (succOf ids outs x).length ≤ 1000) (hl2 : (succOf ids ins x).length ≤ 1000) (hm1 : ∀ y ∈ succOf ids outs x, y ∈ ids) (hm2 : ∀ y ∈ succOf ids ins x, y ∈ ids) :
    Calls Tryz.prog 147 #[uwV pb hb va, .int .i64 x] w (UFromPost w ids (succOf ids outs x) (succOf ids ins x)) := by
  obtain ⟨w1, hw1⟩ : ∃ w1, w1 = w.alloc (.cells #[.iface 52 (.agg #[.pointer (some ⟨pb, 0, none⟩)]), .float .f64 va, mergeV hb] 62) := ⟨_, rfl⟩
  have hb1 : Below w.heap.size w w1 := by rw [hw1]; exact alloc_below _ _
  have hz1 : w1.heap.size = w.heap.size + 1 := by rw [hw1]; simp
  have hblk : w1.heap[w.heap.size]? = some (.cells #[.iface 52 (.agg #[.pointer (some ⟨pb, 0, none⟩)]), .float .f64 va, mergeV hb] 62 (0, 0)) := by rw [hw1]; exact heap_alloc_new _ _
  have c1 : w1.cell? ⟨w.heap.size, 0, none⟩ = some (.iface 52 (.agg #[.pointer (some ⟨pb, 0, none⟩)])) := by simp [World.cell?, hblk]
  have hp1 := hp.below hb1
  have hnode := Lib.hid (nodeQDir_any pb ids outs ins x w1 hids hp1 hx)
  have hN1 : Hid (∀ W, Below w1.heap.size w1 W → Calls Tryz.prog 134 #[.agg #[.pointer (some ⟨pb, 0, none⟩)], .int .i64 x] W fun e w' => ∃ ib, e = .returned (.iface 208 (.pointer (some ⟨ib, 0, none⟩))) ∧ OneU w.heap.size w' ib (succOf ids ins x) ∧ Below w1.heap.size w1 w' ∧ w'.cell? ⟨w.heap.size, 0, none⟩ = some (.iface 52 (.agg #[.pointer (some ⟨pb, 0, none⟩)]))) := fun W hW =>
    (toDir_any pb ids outs ins x W (by omega) (hp1.below hW) hx).mono fun e w' ⟨ib, e1, hit, hb⟩ =>
      have hbb := hW.trans (hb.mono hW.size)
      ⟨ib, e1, ⟨_, _, by have := hW.size; omega, Nat.le_refl _, hit⟩, hbb, cell_below hbb c1⟩
  have hN2 : Hid (∀ W ib1, Below w1.heap.size w1 W → OneU w.heap.size W ib1 (succOf ids outs x) → Calls Tryz.prog 134 #[.agg #[.pointer (some ⟨pb, 0, none⟩)], .int .i64 x] W fun e w' => ∃ ib, e = .returned (.iface 208 (.pointer (some ⟨ib, 0, none⟩))) ∧ TwoU w.heap.size w' ib1 (succOf ids outs x) ib (succOf ids ins x) ∧ Below w1.heap.size w1 w') := fun W ib1 hW ho =>
    (toDir_any pb ids outs ins x W (by omega) (hp1.below hW) hx).mono fun e w' ⟨ib, e1, hit, hb⟩ =>
      ⟨ib, e1, (twoU_of ho hit hb (by have := hW.size; omega)).1, hW.trans (hb.mono hW.size)⟩
  have hF1 : Hid (∀ W, Below w1.heap.size w1 W → Calls Tryz.prog 130 #[.agg #[.pointer (some ⟨pb, 0, none⟩)], .int .i64 x] W fun e w' => ∃ ib, e = .returned (.iface 208 (.pointer (some ⟨ib, 0, none⟩))) ∧ OneU w.heap.size w' ib (succOf ids outs x) ∧ Below w1.heap.size w1 w' ∧ w'.cell? ⟨w.heap.size, 0, none⟩ = some (.iface 52 (.agg #[.pointer (some ⟨pb, 0, none⟩)]))) := fun W hW =>
    (fromDir_any pb ids outs ins x W (by omega) (hp1.below hW) hx).mono fun e w' ⟨ib, e1, hit, hb⟩ =>
      have hbb := hW.trans (hb.mono hW.size)
      ⟨ib, e1, ⟨_, _, by have := hW.size; omega, Nat.le_refl _, hit⟩, hbb, cell_below hbb c1⟩
  have hF2 : Hid (∀ W ib2, Below w1.heap.size w1 W → OneU w.heap.size W ib2 (succOf ids ins x) → Calls Tryz.prog 130 #[.agg #[.pointer (some ⟨pb, 0, none⟩)], .int .i64 x] W fun e w' => ∃ ib, e = .returned (.iface 208 (.pointer (some ⟨ib, 0, none⟩))) ∧ TwoU w.heap.size w' ib (succOf ids outs x) ib2 (succOf ids ins x) ∧ Below w1.heap.size w1 w') := fun W ib2 hW ho =>
    (fromDir_any pb ids outs ins x W (by omega) (hp1.below hW) hx).mono fun e w' ⟨ib, e1, hit, hb⟩ =>
      ⟨ib, e1, (twoU_of ho hit hb (by have := hW.size; omega)).2, hW.trans (hb.mono hW.size)⟩
  have hG : Hid (∀ W ib1 ib2, Below w1.heap.size w1 W → TwoU w.heap.size W ib1 (succOf ids outs x) ib2 (succOf ids ins x) → Calls Tryz.prog 153 #[.iface 208 (.pointer (some ⟨ib1, 0, none⟩)), .iface 208 (.pointer (some ⟨ib2, 0, none⟩))] W
      fun e w' => ∃ fb, e = .returned (.pointer (some ⟨fb, 0, none⟩)) ∧ Hid (UFromPost w ids (succOf ids outs x) (succOf ids ins x) (.returned (.iface 212 (.pointer (some ⟨fb, 0, none⟩)))) w')) := fun W ib1 ib2 hW ⟨B1, E1, B2, E2, h1, h2, h3, h4, h5, h6, h7⟩ =>
    (newPair_any w.heap.size B1 E1 ib1 B2 E2 ib2 ids _ _ W hids h64 hm1 hm2 hl1 hl2 h1 h2 ⟨h3, h4⟩ ⟨h5, h6⟩ h7).mono fun e w' ⟨hi, B1', E1', ib1', B2', E2', ib2', mb, fb, i, c, e1, hF⟩ =>
      ⟨fb, e1, fb, rfl, (hb1.trans (hW.mono (by omega))).trans (hF.bel (by have := hW.size; omega)), W, w.heap.size, hi, Nat.le_refl _, by have := hF.b.fl; have := hF.b.fh; omega, B1', E1', ib1', B2', E2', ib2', mb, i, c, hF⟩
  unfold mergeV at hw1
  rw [hw1] at c1 hnode
  have hw1h := Lib.hid hw1
  have m0 := u_node
  simp only [uwV, mergeV]
  clear hp hp1 hblk hb1 hz1 hw1 hx hm1 hm2 hl1 hl2 h64
  go_enter Tryz.func147, Tryz.ntmps147
  go_wp2_with fail
  refine (unhide hnode).mono ?_
  rintro e w2 ⟨rfl, hb2⟩
  rw [← hw1h.out] at hb2 c1
  have c2 := cell_below hb2 c1
  have hb2h := Lib.hid hb2
  clear hb2 c1 hnode hw1h
  go_wp2_with fail
  have m1 := u_to
  have m2 := u_from
  go_region_law (first
    | (go_simp; go_at_call 134; (with_reducible refine (hN2.out _ ibF (by repeat (first | exact hbF | refine Below.drew ?_)) (by repeat (first | exact hoF | refine OneU.drew ?_))).mono ?_); rintro e w4 ⟨ibN, rfl, h2N, hb4⟩)
    | (go_simp; go_at_call 130; (with_reducible refine (hF2.out _ ibN (by repeat (first | exact hbN | refine Below.drew ?_)) (by repeat (first | exact hoN | refine OneU.drew ?_))).mono ?_); rintro e w4 ⟨ibF, rfl, h2N, hb4⟩)
    | (go_simp; go_at_call 134; (with_reducible refine (hN1.out _ (by repeat (first | exact hb2h.out | refine Below.drew ?_))).mono ?_); rintro e wN ⟨ibN, rfl, hoN, hbN, cN⟩)
    | (go_simp; go_at_call 130; (with_reducible refine (hF1.out _ (by repeat (first | exact hb2h.out | refine Below.drew ?_))).mono ?_); rintro e wF ⟨ibF, rfl, hoF, hbF, cF⟩)
    | (go_simp; go_at_call 153; (with_reducible refine (hG.out _ ibF ibN (by repeat (first | exact hb4 | refine Below.drew ?_)) (by repeat (first | exact h2N | refine TwoU.drew ?_))).mono ?_); rintro e w5 ⟨fb, rfl, hfin⟩))
  all_goals
    go_wp2_with fail
    go_ret
    exact hfin.out

/-- What From gives is iterated over. -/
theorem ufrom_it {w w1 : World} {ids xs ys l : List Int} {e : Ending} (h64 : ∀ y ∈ ids, In64 y) (hyi : ∀ y ∈ ys, y ∈ ids) (hal : xs.length ≤ 1000) (hbl : ys.length ≤ 1000) (hl : asc (remP xs ys 0 0) = l) (h : UFromPost w ids xs ys e w1) : ItOf w l e w1 := by
  obtain ⟨fb, rfl, hb, w0, lo, hi, h1, h2, hP⟩ := h
  refine ⟨_, rfl, hb, (iteratedP_any h64 hyi hal hbl h2 hP).mono fun _ _ ⟨a, c, r1, r2, r3⟩ => ?_⟩
  have e : (remP xs ys 0 0).length = l.length := by rw [← hl, asc_length]
  rw [e, hl] at r2
  rw [e] at r1
  exact ⟨a, c, r1, r2, ⟨r3.os, r3.tape, r3.output, r3.size, fun j hj => r3.block j (by omega)⟩⟩

/-- The beginnings ascend. -/
theorem gp_up {g : Gr} (hok : okGraph g = true) (x : Int) : (gPred g x).Pairwise (· < ·) := by
  have hup := ok_up hok
  unfold gPred succOf endsOf
  have hrow : RowOk (asc g.nodes).length ((insOf g).getD (posOf (asc g.nodes) x) []) := by
    rcases Nat.lt_or_ge (posOf (asc g.nodes) x) (insOf g).length with hl | hl
    · have hm : (insOf g).getD (posOf (asc g.nodes) x) [] ∈ insOf g := by simp [hl]
      exact (graph_tabs hok).r2 _ hm
    · rw [List.getD_eq_getElem?_getD, List.getElem?_eq_none hl]; exact RowOk.nil _
  generalize (insOf g).getD (posOf (asc g.nodes) x) [] = l at hrow
  show (l.map fun a => (asc g.nodes).getD a.1 0).Pairwise (· < ·)
  rw [List.pairwise_map]
  refine hrow.1.imp_of_mem fun {a b} ha hb hab => ?_
  have h1 := hrow.2 a ha
  have h2 := hrow.2 b hb
  have := List.pairwise_iff_getElem.1 hup a.1 b.1 h1 h2 hab
  simpa only [List.getD_eq_getElem?_getD, List.getElem?_eq_getElem h1, List.getElem?_eq_getElem h2, Option.getD_some] using this

theorem gp_len {g : Gr} (hok : okGraph g = true) (x : Int) : (gPred g x).length ≤ (asc g.nodes).length := by
  unfold gPred succOf endsOf
  rw [List.length_map]
  rcases Nat.lt_or_ge (posOf (asc g.nodes) x) (insOf g).length with hl | hl
  · have hm : (insOf g).getD (posOf (asc g.nodes) x) [] ∈ insOf g := by simp [hl]
    exact asc_short ((graph_tabs hok).r2 _ hm)
  · rw [List.getD_eq_getElem?_getD, List.getElem?_eq_none hl]; simp

/-- Those of both directions, together. -/
theorem both_asc {g : Gr} (hok : okGraph g = true) {x : Int} (hx : x ∈ asc g.nodes) : asc (remP (gSucc g x) (gPred g x) 0 0) = bSucc g x := by
  have hm : ∀ y, y ∈ remP (gSucc g x) (gPred g x) 0 0 ↔ y ∈ bSucc g x := fun y => by
    unfold remP remB bSucc
    rw [List.drop_zero, List.drop_zero, List.mem_append, List.mem_filter, List.mem_filter]
    constructor
    · rintro (h | ⟨h, _⟩)
      · obtain ⟨h1, h2⟩ := (gs_mem hok hx).1 h
        exact ⟨h1, by rw [Bool.or_eq_true]; exact .inl h2⟩
      · obtain ⟨h1, h2⟩ := (gPred_mem hok hx).1 h
        exact ⟨h1, by rw [Bool.or_eq_true]; exact .inr h2⟩
    · rintro ⟨h1, h2⟩
      rw [Bool.or_eq_true] at h2
      by_cases h3 : y ∈ gSucc g x
      · exact .inl h3
      · exact .inr ⟨(gPred_mem hok hx).2 ⟨h1, h2.resolve_left fun h => h3 ((gs_mem hok hx).2 ⟨h1, h⟩)⟩, by simp [h3]⟩
  have hn : (remP (gSucc g x) (gPred g x) 0 0).Nodup := by
    unfold remP remB
    rw [List.drop_zero, List.drop_zero]
    refine List.nodup_append.2 ⟨(gs_up hok x).imp fun h => Int.ne_of_lt h, ?_, fun a ha b hb e => ?_⟩
    · refine List.Pairwise.sublist List.filter_sublist ?_
      exact (gp_up hok x).imp fun h => Int.ne_of_lt h
    · subst e
      have := (List.mem_filter.1 hb).2
      simp [ha] at this
  refine up_ext (asc_incr hn) ((ok_up hok).sublist List.filter_sublist) fun y => by rw [asc_mem, hm y]
end Go.Proofs.YtgkimjjodhnmiaaGreat

namespace Go.Proofs.YtgkimjjodhnmiaaGreat
open Go.RowKit Go.Maps

set_option maxRecDepth 100000 in
set_option maxHeartbeats 1000000 in
theorem near_any (a : Option Addr) (n c : Nat) (zs : List Int) (w : World) (hn : n = zs.length) (hl : zs.length ≤ 1000) (hc : Cells w a (ints zs)) (hz : ∀ z ∈ zs, z ≤ 1099511627776 ∧ -1099511627776 ≤ z) :
    Calls Tryz.prog 21 #[.slice a n c] w fun e w' => e = .returned (.bool true) ∧ w = w' := by
  subst hn
  have hch := Lib.hid hc
  have hzh := Lib.hid hz
  clear hc hz
  go_enter Tryz.func21, Tryz.ntmps21
  go_wp2_with fail
  go_loopw [7] (fun iv wr => ∃ (k : Nat), k ≤ zs.length ∧ iv = .int .i64 k ∧ wr = w) (fun iv _ => zs.length - (intOf iv).toNat)
  case atStart => exact ⟨0, Nat.zero_le _, rfl, rfl⟩
  case round =>
    obtain ⟨k, hk, rfl, rfl⟩ := hrel
    by_cases hlt : k < zs.length
    · obtain ⟨b, o, rfl, _, hr⟩ := hch.out.at (by rw [ints_length]; omega)
      have x0 := ints_cell hr hlt
      obtain ⟨z, hzz⟩ : ∃ z, z = zs[k] := ⟨_, rfl⟩
      obtain ⟨h1, h2⟩ := hzh.out z (by rw [hzz]; exact List.getElem_mem hlt)
      rw [← hzz] at x0
      have d1 : decide (1099511627776 < z) = false := decide_eq_false (by omega)
      have d2 : decide (z < -1099511627776) = false := decide_eq_false (by omega)
      clear hr hzz h1 h2
      go_wp2_with fail
      go_roundw
      case rel => exact ⟨k + 1, by omega, by go_num, by first | rfl | trivial⟩
      case measure => simp [intOf]; omega
    · go_wp2_with fail
      go_ret
      exact ⟨rfl, by first | rfl | trivial⟩

theorem belowA {w W : World} (h : Below w.heap.size w W) (o : Obj) : Below w.heap.size w (W.alloc o) := h.alloc h.size o

/-- A graph that a function gives. -/
def GivesG (w : World) (g : Gr) (e : Ending) (w' : World) : Prop :=
  ∃ (an : Option Addr) (cn : Nat) (ae : Option Addr) (ce : Nat), e = .returned (.tuple #[.agg #[.bool g.dir, .slice an g.nodes.length cn, .slice ae g.edges.length ce], .bool false]) ∧ GrAt w' g an cn ae ∧ Below w.heap.size w w'

theorem gives_done {g : Gr} {w w4 : World} {a4 a5 : Option Addr} {c4 c5 rb : Nat} (hcn : Cells w4 a4 (ints g.nodes)) (hnone : a4 = none → c4 = 0) (hce : Cells w4 a5 (edgeCells g.edges))
    (h1 : ∀ g k, a4 = some ⟨g, k, none⟩ → rb < g) (h2 : ∀ g k, a5 = some ⟨g, k, none⟩ → rb < g) (hb : Below w.heap.size w w4) (hrb : w.heap.size ≤ rb) (x y z : Value) :
    GivesG w g (.returned (.tuple #[.agg #[.bool g.dir, .slice a4 g.nodes.length c4, .slice a5 g.edges.length c5], .bool false])) (((w4.setCell ⟨rb, 0, none⟩ x).setCell ⟨rb, 1, none⟩ y).setCell ⟨rb, 2, none⟩ z) := by
  have hse : ∀ j, j < w4.heap.size → j ≠ rb → (((w4.setCell ⟨rb, 0, none⟩ x).setCell ⟨rb, 1, none⟩ y).setCell ⟨rb, 2, none⟩ z).heap[j]? = w4.heap[j]? := fun j _ hj => by
    rw [Below.heap_setCell _ _ _ _ hj, Below.heap_setCell _ _ _ _ hj, Below.heap_setCell _ _ _ _ hj]
  have hsz : (((w4.setCell ⟨rb, 0, none⟩ x).setCell ⟨rb, 1, none⟩ y).setCell ⟨rb, 2, none⟩ z).heap.size = w4.heap.size := by simp only [size_setCell]
  refine ⟨a4, c4, a5, c5, rfl, ⟨?_, ?_, hnone⟩, ?_⟩
  · exact hcn.same' (by omega) hse fun g k e => by have := h1 g k e; omega
  · exact hce.same' (by omega) hse fun g k e => by have := h2 g k e; omega
  · exact ((hb.setCell (by show w.heap.size ≤ rb; omega) _).setCell (by show w.heap.size ≤ rb; omega) _).setCell (by show w.heap.size ≤ rb; omega) _

theorem u_mNodes (n pb hb va : Nat) (W : World) : (method (n + 2) 62 (.agg #[.iface 52 (.agg #[.pointer (some ⟨pb, 0, none⟩)]), .float .f64 va, .func (.func 22) #[] #[.pointer (some ⟨hb, 0, none⟩)]]) "Nodes").run Tryz.prog W = .ok (150, .agg #[.iface 52 (.agg #[.pointer (some ⟨pb, 0, none⟩)]), .float .f64 va, .func (.func 22) #[] #[.pointer (some ⟨hb, 0, none⟩)]]) W := by kernel_rfl
theorem u_mFrom (n pb hb va : Nat) (W : World) : (method (n + 2) 62 (.agg #[.iface 52 (.agg #[.pointer (some ⟨pb, 0, none⟩)]), .float .f64 va, .func (.func 22) #[] #[.pointer (some ⟨hb, 0, none⟩)]]) "From").run Tryz.prog W = .ok (147, .agg #[.iface 52 (.agg #[.pointer (some ⟨pb, 0, none⟩)]), .float .f64 va, .func (.func 22) #[] #[.pointer (some ⟨hb, 0, none⟩)]]) W := by kernel_rfl
theorem u_neq (pb hb va : Nat) (W : World) : (binOp BinOp.neq 48 (.func (.func 23) #[.agg #[.iface 52 (.agg #[.pointer (some ⟨pb, 0, none⟩)]), .float .f64 va, .func (.func 22) #[] #[.pointer (some ⟨hb, 0, none⟩)]]] #[]) .nilFunc).run Tryz.prog W = .ok (.bool true) W := by kernel_rfl

theorem aW_le {g : Gr} (hok : okGraph g = true) {ab : Int} (hab : ab ≤ 1099511627776 ∧ -1099511627776 ≤ ab) (x y : Int) : (aW g ab x y).natAbs ≤ 1099511627776 := by
  unfold aW
  have := wOf_le hok x y
  split <;> omega
theorem mW_le {how a b : Int} (ha : a.natAbs ≤ 1099511627776) (hb : b.natAbs ≤ 1099511627776) : (mW how a b).natAbs < FlB := by
  unfold mW FlB
  split
  · omega
  · split <;> omega
theorem bSucc_len (g : Gr) (x : Int) : (bSucc g x).length ≤ (asc g.nodes).length := List.length_filter_le _ _
theorem bSucc_mem {g : Gr} (hok : okGraph g = true) {x y : Int} (hx : x ∈ asc g.nodes) (h : y ∈ bSucc g x) : y ∈ asc g.nodes ∧ x ≠ y := by
  obtain ⟨h1, h2⟩ := List.mem_filter.1 h
  refine ⟨h1, fun e => ?_⟩
  subst e
  rw [Bool.or_self] at h2
  exact gs_self hok hx ((gs_mem hok hx).2 ⟨hx, h2⟩)

/-- What impl.seen tells of such a graph. -/
theorem seenU_any {g : Gr} {pb hb : Nat} {ab how : Int} {w : World} (hn : (asc g.nodes).length ≤ 1000) (h64 : ∀ y ∈ asc g.nodes, In64 y) (hok : okGraph g = true) (hp : PlainAt w pb (asc g.nodes) (outsOf g) (insOf g)) (hab : ab ≤ 1099511627776 ∧ -1099511627776 ≤ ab)
    (hc : w.cell? ⟨hb, 0, none⟩ = some (.int .i64 how)) (hh : HowOk how) :
    Calls Tryz.prog 16 #[.iface 62 (.agg #[.iface 52 (.agg #[.pointer (some ⟨pb, 0, none⟩)]), .float .f64 (fl ab), .func (.func 22) #[] #[.pointer (some ⟨hb, 0, none⟩)]]), .bool false,
      .func (.func 23) #[.agg #[.iface 52 (.agg #[.pointer (some ⟨pb, 0, none⟩)]), .float .f64 (fl ab), .func (.func 22) #[] #[.pointer (some ⟨hb, 0, none⟩)]]] #[]] w
      (SeenWPost w false (undG g ab how).nodes (undG g ab how).edges) :=
  seenXU_any hn (fun args w => by simp [go_sem]) (fun args w => by simp [go_sem]) (fun args w => by simp [go_sem]) (fun n W => u_mNodes n pb hb (fl ab) W) (fun n W => u_mFrom n pb hb (fl ab) W) (fun W => u_neq pb hb (fl ab) W)
    (fun W hW => unodes_any hn (hp.below hW))
    (fun W hW u hu => (ufrom_any hn h64 (hp.below hW) hu (Nat.le_trans (gs_len hok u) hn) (Nat.le_trans (gp_len hok u) hn) (succ_mem hp u) (fun y hy => ((gPred_mem hok hu).1 hy).1)).mono fun _ _ h =>
      ufrom_it h64 (fun y hy => ((gPred_mem hok hu).1 hy).1) (Nat.le_trans (gs_len hok u) hn) (Nat.le_trans (gp_len hok u) hn) (both_asc hok hu) h)
    (fun W hW u hu v hv => by
      obtain ⟨hvm, huv⟩ := bSucc_mem hok hu hv
      refine uweight_any hn (hp.below hW) huv (arc_is hok hu hvm) (arc_is hok hvm hu) ?_ ?_ (aW_le hok hab u v) (aW_le hok hab v u) (cell_below hW hc) hh
      · unfold aW; cases arcB g u v <;> simp
      · unfold aW; cases arcB g v u <;> simp)
    (fun x => Nat.le_trans (bSucc_len g x) hn) (fun x y => mW_le (aW_le hok hab x y) (aW_le hok hab y x))

set_option maxRecDepth 100000 in
set_option maxHeartbeats 4000000 in
theorem undW_any (g : Gr) (an : Option Addr) (cn : Nat) (ae : Option Addr) (ce : Nat) (ab how : Int) (w : World) (hn : g.nodes.length ≤ 1000) (he : g.edges.length ≤ 1048576) (hg : GrAt w g an cn ae) (hok : okGraph g = true) (hd : g.dir = true) (h64 : ∀ x ∈ g.nodes, In64 x)
    (hab : ab ≤ 1099511627776 ∧ -1099511627776 ≤ ab) (hh : HowOk how) :
    Calls Tryz.prog 7 #[.agg #[.bool true, .slice an g.nodes.length cn, .slice ae g.edges.length ce], .int .i64 ab, .int .i64 how] w (GivesG w (undG g ab how)) := by
  obtain ⟨w1, hw1⟩ : ∃ w1, w1 = w.alloc (.cells #[.bool true, .slice an g.nodes.length cn, .slice ae g.edges.length ce] 25) := ⟨_, rfl⟩
  obtain ⟨w2, hw2⟩ : ∃ w2, w2 = w1.alloc (.cells #[.int .i64 how] 3) := ⟨_, rfl⟩
  obtain ⟨w3, hw3⟩ : ∃ w3, w3 = w2.alloc (.cells #[.bool false, .slice none 0 0, .slice none 0 0] 25) := ⟨_, rfl⟩
  have b1 : Below w.heap.size w w1 := by rw [hw1]; exact alloc_below _ _
  have z1 : w1.heap.size = w.heap.size + 1 := by rw [hw1]; simp
  have b12 : Below w1.heap.size w1 w2 := by rw [hw2]; exact alloc_below _ _
  have z2 : w2.heap.size = w.heap.size + 1 + 1 := by rw [hw2]; simp [z1]
  have b23 : Below w2.heap.size w2 w3 := by rw [hw3]; exact alloc_below _ _
  have z3 : w3.heap.size = w.heap.size + 1 + 1 + 1 := by rw [hw3]; simp [z2]
  have b3 : Below w.heap.size w w3 := (b1.trans (b12.mono (by omega))).trans (b23.mono (by omega))
  have kz : w3.heap[w.heap.size + 1 + 1]? = some (.cells #[.bool false, .slice none 0 0, .slice none 0 0] 25 (0, 0)) := by rw [hw3, ← z2]; exact heap_alloc_new _ _
  have kh : w3.cell? ⟨w.heap.size + 1, 0, none⟩ = some (.int .i64 how) := cell_below b23 (by rw [hw2, ← z1]; simp)
  have hop := oneWay_any g an cn ae ce w3 (by omega) he (hg.below b3)
  rw [hd] at hop
  have hw3e : w3 = ((w.alloc (.cells #[.bool true, .slice an g.nodes.length cn, .slice ae g.edges.length ce] 25)).alloc (.cells #[.int .i64 how] 3)).alloc (.cells #[.bool false, .slice none 0 0, .slice none 0 0] 25) := by rw [hw3, hw2, hw1]
  rw [hw3e] at hop
  have hoph := Lib.hid hop
  have hw3h := Lib.hid hw3e
  have hK := Lib.hid (And.intro b3 (And.intro kz (And.intro kh z3)))
  have hokh := Lib.hid hok
  have hdh := Lib.hid hd
  have habh := Lib.hid hab
  have hhh := Lib.hid hh
  have h64h : Hid (∀ x ∈ asc g.nodes, In64 x) := fun x hx => h64 x (asc_mem.1 hx)
  have hnh : Hid ((asc g.nodes).length ≤ 1000) := by unfold Hid; rw [asc_length]; exact hn
  have dn1 : decide (how < 0) = false := decide_eq_false (by rcases hh with rfl | rfl | rfl <;> omega)
  have dn2 : decide (2 < how) = false := decide_eq_false (by rcases hh with rfl | rfl | rfl <;> omega)
  have hnear : Hid (∀ (W : World) b, W.heap[b]? = some (.cells #[.int .i64 ab] 3 (0, 0)) → Calls Tryz.prog 21 #[.slice (some ⟨b, 0, none⟩) 1 1] W fun e w' => e = .returned (.bool true) ∧ W = w') := fun W b hW => by
    refine near_any _ 1 1 [ab] W rfl (by simp) (Cells.mk (lt_of_block hW) fun j u hj => ?_) fun z hz => by rw [List.mem_singleton.1 hz]; exact hab
    rw [cell_of_row W b (0 + j) _ _ _ hW]
    have e : ints [ab] = [.int .i64 ab] := rfl
    rw [e] at hj
    simpa using hj
  clear hw1 hw2 hw3 b1 z1 b12 z2 b23 z3 b3 kz kh hop hw3e hg hok hd h64 hab hh
  go_enter Tryz.func7, Tryz.ntmps7
  go_wp2_with fail
  refine (unhide hoph).mono ?_
  rintro e w4 ⟨pb, rfl, hb4, hpl⟩
  rw [← hw3h.out] at hb4
  rw [hokh.out, hdh.out]
  have hp := Lib.hid (hpl hokh.out)
  obtain ⟨b3, kz, kh, z3⟩ := hK.out
  have b4 : Hid (Below w.heap.size w w4) := b3.trans (hb4.mono b3.size)
  have hkz : Hid (w4.heap[w.heap.size + 1 + 1]? = some (.cells #[.bool false, .slice none 0 0, .slice none 0 0] 25 (0, 0))) := (hb4.block _ (by omega)).trans kz
  have kh4 := cell_below hb4 kh
  have kh4h := Lib.hid kh4
  have hsee : Hid (∀ W, Below w4.heap.size w4 W → Calls Tryz.prog 16 #[.iface 62 (.agg #[.iface 52 (.agg #[.pointer (some ⟨pb, 0, none⟩)]), .float .f64 (floatOfInt FloatKind.f64 ab), .func (.func 22) #[] #[.pointer (some ⟨w.heap.size + 1, 0, none⟩)]]), .bool false,
      .func (.func 23) #[.agg #[.iface 52 (.agg #[.pointer (some ⟨pb, 0, none⟩)]), .float .f64 (floatOfInt FloatKind.f64 ab), .func (.func 22) #[] #[.pointer (some ⟨w.heap.size + 1, 0, none⟩)]]] #[]] W
      (SeenWPost W false (undG g ab how).nodes (undG g ab how).edges)) := fun W hW => seenU_any hnh.out h64h.out hokh.out ((hpl hokh.out).below hW) habh.out (cell_below hW kh4) hhh.out
  have hsf := store_float Tryz.prog
  have hsg : ∀ (W : World) (a : Addr) (f : Fn) (x y : Array Value) (m : Go.Mode), (store a (.func f x y) m).run Tryz.prog W = stored Tryz.prog W a (.func f x y) m := fun W a f x y m => run_store Tryz.prog W a _ m rfl
  have kh5 : ∀ o, (w4.alloc o).cell? ⟨w.heap.size + 1, 0, none⟩ = some (.int .i64 how) := fun o => cell_alloc kh4 o
  have hlt4 := lt_of_block hkz.out
  have hlt5 : w.heap.size + 1 < w4.heap.size := by omega
  clear b3 kz kh z3 hb4 hpl hoph hw3h hK
  go_wp2_with fail
  refine (hnear.out _ _ (heap_alloc2_new w4 _ _)).mono ?_
  rintro e w' ⟨rfl, rfl⟩
  go_wp2_with fail
  refine (hsee.out _ (by repeat (first | exact Below.refl _ _ | apply belowA))).mono ?_
  rintro e w6 ⟨a4, c4, a5, c5, rfl, hcn, hnone, hce, hr4, hr5, hb6⟩
  have hb46 : Below w4.heap.size w4 w6 := Below.trans (by repeat (first | exact Below.refl _ _ | apply belowA)) (hb6.mono (by simp; omega))
  have hkz6 := (hb46.block _ hlt4).trans hkz.out
  have hnl : (undG g ab how).nodes.length = (asc g.nodes).length := rfl
  obtain ⟨nl, hnl⟩ : ∃ nl, nl = (undG g ab how).nodes.length := ⟨_, rfl⟩
  obtain ⟨m, hm⟩ : ∃ m, m = (undG g ab how).edges.length := ⟨_, rfl⟩
  have hfin := gives_done (g := undG g ab how) (w := w) (rb := w.heap.size + 1 + 1) (c4 := c4) (c5 := c5) hcn hnone hce (fun g k e => by have := hr4 g k e; simp at this; omega) (fun g k e => by have := hr5 g k e; simp at this; omega) (b4.out.trans (hb46.mono b4.out.size)) (by omega) (.bool false) (.slice a4 nl c4) (.slice a5 m c5)
  rw [← hnl, ← hm] at hfin ⊢
  obtain ⟨y0, y1, y2, y3, y4, y5, y6, y7, y8⟩ := ebox3 hkz6 (.bool false) (.slice a4 nl c4) (.slice a5 m c5)
  have hfinh := Lib.hid hfin
  clear hcn hnone hce hr4 hr5 hb6 hb46 hkz6 hsee hfin hm hnl kh5 kh4 hkz
  go_wp2_with fail
  (try simp only [Exit.inBlock, Exit.then])
  refine bodyPost_ret (v := .tuple #[.agg #[.bool false, .slice a4 nl c4, .slice a5 m c5], .bool false]) (by simp [results, show Tryz.func7.results = #[.cell 6 25, .tmp 7] from rfl, go_sem, y6, y7, y8]) rfl ?_
  exact hfinh.out
end Go.Proofs.YtgkimjjodhnmiaaGreat
