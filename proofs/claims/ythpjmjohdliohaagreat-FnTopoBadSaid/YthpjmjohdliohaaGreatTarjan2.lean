/- topo.tarjan.strongconnect: the walk, with the successors in an order of their own. -/
import Derived.Test.YthpjmjohdliohaaGreatTarjan
import Derived.StillTailTactics
import Derived.Deep.LoopGhost
import Derived.Deep.DeepCutAuto
import Derived.Deep.RegionLaw
import Derived.Deep.RegionHeld3
import Derived.BigQuiet
namespace Go.Proofs.YthpjmjohdliohaaGreat
open Go.RowKit

/-- The closure that tells the successors: what it needs of a world, what it gives. -/
def SuccAt2 (w0 : World) (A : Nat) (ids : List Int) (succ : Int → List Int) (gb : Nat) : Prop :=
  ∀ (W : World) (x : Int), Below A w0 W → x ∈ ids → Calls Tryz.prog 68 #[.int .i64 x, .pointer (some ⟨gb, 0, none⟩), .pointer (some ⟨gb + 1, 0, none⟩)] W
    fun e w' => ∃ a c, e = .returned (.slice a (succ x).length c) ∧ w'.ownsRow W.heap.size 85 1 (.slice a (succ x).length c) (succ x).length (nodes (succ x)) ∧ Below W.heap.size W w'

def fnv2 (gb : Nat) : Value := .func (.func 68) #[] #[.pointer (some ⟨gb, 0, none⟩), .pointer (some ⟨gb + 1, 0, none⟩)]

/-- What strongconnect gives. -/
def SconPost2 (ids : List Int) (A B tb m1 m2 m3 gb : Nat) (st' : TS) (sa sv : Value) (w : World) (e : Ending) (w' : World) : Prop :=
  e = .returned (.tuple #[]) ∧ ∃ sa' sv' vs', TarAt w' ids A B tb m1 m2 m3 (fnv2 gb) st'.tm sa' sv' vs' ∧ Moves (foot tb m1 m2 m3 sa sv) w (foot tb m1 m2 m3 sa' sv') w'

set_option maxRecDepth 100000 in
set_option maxHeartbeats 4000000 in
theorem scon2_any {ids : List Int} {succ : Int → List Int} (hs : ∀ x ∈ ids, ∀ y ∈ succ x, y ∈ ids) (h64 : ∀ x ∈ ids, In64 x) (hids : ids.length ≤ 1000) (hlen : ∀ x ∈ ids, (succ x).length ≤ ids.length) (A B tb m1 m2 m3 gb : Nat) (w0 : World) (hS : SuccAt2 w0 A ids succ gb) :
    ∀ (f : Nat) (st : TS) (v : Int) (w : World) (sa sv : Value) (vs : List Value), TInv ids succ st → v ∈ ids → st.idx v = 0 → ids.length - st.n ≤ f → TarAt w ids A B tb m1 m2 m3 (fnv2 gb) st.tm sa sv vs → Below A w0 w →
      Calls Tryz.prog 69 #[.pointer (some ⟨tb, 0, none⟩), .iface 127 (.int .i64 v)] w (SconPost2 ids A B tb m1 m2 m3 gb (sc succ f st v) sa sv w) := by
  intro f
  induction f with
  | zero =>
    intro st v w sa sv vs hI hv h0 hf
    have := hI.nlt hv h0
    omega
  | succ f ih =>
    intro st v w sa sv vs hI hv h0 hf hT hb
    have hnlt := hI.nlt hv h0
    have hv64 := h64 v hv
    have c1 := hT.blk.c1
    have f1 := hT.blk.free 1
    obtain ⟨aa, ca, rfl, _⟩ := owns_cells hT.os
    obtain ⟨av, cv, rfl, _⟩ := owns_cells hT.ov
    have hstl : st.tm.stk.length ≤ 1000 := by
      have h1 := hI.cnt
      have h2 := hI.nle
      rw [List.length_append] at h1
      show st.stack.length ≤ 1000
      omega
    have hscl : st.tm.sccs.length ≤ 1000 := by
      have h1 := hI.cnt
      have h2 := hI.nle
      rw [List.length_append] at h1
      have h3 := flatten_len hI.ne
      show st.sccs.length ≤ 1000
      omega
    have hIh := Lib.hid hI
    have hTh := Lib.hid hT
    have hbh := Lib.hid hb
    have hvh := Lib.hid hv
    have h0h := Lib.hid h0
    have hfh := Lib.hid hf
    have hSh := Lib.hid hS
    have hsh := Lib.hid hs
    have h64h := Lib.hid h64
    have hlenh := Lib.hid hlen
    have ihh := Lib.hid ih
    obtain ⟨n, hn⟩ : ∃ n, n = st.n := ⟨_, rfl⟩
    have c1' : w.cell? ⟨tb, 1, none⟩ = some (.int .i64 n) := by rw [hn]; exact c1
    have hnh := Lib.hid hn
    have hn1000 : n ≤ 1000 := by omega
    clear hI hT hb hv h0 hf hS hs h64 hlen ih c1 hn hnlt
    go_enter Tryz.func69, Tryz.ntmps69
    go_wp2_with (go_at_call 184; refine (id_any _ _).mono ?_; rintro e w' ⟨rfl, rfl⟩)
    obtain ⟨w1, hw1⟩ : ∃ w1, w1 = w.setCell ⟨tb, 1, none⟩ (.int .i64 ((n : Int) + 1)) := ⟨_, rfl⟩
    have hT1 : TarAt w1 ids A B tb m1 m2 m3 (fnv2 gb) { st.tm with n := n + 1 } (.slice aa st.tm.stk.length ca) (.slice av st.tm.sccs.length cv) vs := by
      have := hTh.out.setN (n + 1)
      rw [hw1]; rwa [show ((n + 1 : Nat) : Int) = (n : Int) + 1 by omega] at this
    have hmv1 : Moves (foot tb m1 m2 m3 (.slice aa st.tm.stk.length ca) (.slice av st.tm.sccs.length cv)) w (foot tb m1 m2 m3 (.slice aa st.tm.stk.length ca) (.slice av st.tm.sccs.length cv)) w1 := by rw [hw1]; exact Moves.of_setCell w _ (mem_foot.2 (.inl rfl))
    rw [← hw1]
    have d1 : w1.cell? ⟨tb, 1, none⟩ = some (.int .i64 ((n : Int) + 1)) := hT1.blk.c1
    have d2 := hT1.blk.c2
    have hT1h := Lib.hid hT1
    have hmv1h := Lib.hid hmv1
    clear hw1 hT1 hmv1 c1' f1
    go_still_tail 9, (by kernel_rfl)
    change wpList _ _ _ _ _ w1.drew
    go_wp2_with (at_mapUpdate; refine wpList_imap_put _ (by rfl) _ _ _ (by rfl) (by rfl) (hT1h.out.i1.same (by rfl)) v (by rfl) hv64 hvh.out (by omega) (n + 1) (by omega) (by rfl) ?_; intro w2 hi2 hg2)
    have hT2 := (hT1h.out.below (drew_below w1)).put1 hg2 hi2
    have hmv2 := (hmv1h.out.trans (Moves.of_drew _ w1)).trans (Moves.of_grown hg2 (mem_foot.2 (by simp)))
    have e1 : w2.cell? ⟨tb, 1, none⟩ = some (.int .i64 ((n : Int) + 1)) := hT2.blk.c1
    have e3 := hT2.blk.c3
    have hT2h := Lib.hid hT2
    have hmv2h := Lib.hid hmv2
    clear hT2 hmv2 d1 d2 hi2 hg2 hT1h hmv1h
    go_still_tail 9, (by kernel_rfl)
    change wpList _ _ _ _ _ w2.drew
    go_wp2_with (first
      | (at_mapUpdate; refine wpList_imap_put _ (by rfl) _ _ _ (by rfl) (by rfl) (hT2h.out.i2.same (by rfl)) v (by rfl) hv64 hvh.out (by omega) (n + 1) (by omega) (by rfl) ?_; intro w3 hi3 hg3; have hT3 := Lib.hid ((hT2h.out.below (drew_below w2)).put2 hg3 hi3); have hmv3 := Lib.hid ((hmv2h.out.trans (Moves.of_drew _ w2)).trans (Moves.of_grown hg3 (mem_foot.2 (by simp)))); have g5 := hT3.out.blk.c5; have ho3 := Lib.hid (fun o => hT3.out.os.alloc o); have hz3 := hT3.out.lts.2.2.2.2; clear hi3 hg3 hT2h hmv2h e1 e3)
      | (at_builtin; refine append_law 50 85 .nilIface 1 16 Tryz.underlying50 info_node rfl (by omega) (by omega) rfl _ _ rfl B aa st.tm.stk.length ca (nodes st.tm.stk.reverse) rfl (ho3.out _) ⟨w3.heap.size, 0, none⟩ 1 1 [.iface 127 (.int .i64 v)] rfl rfl (new_one w3 _ _) (one_node _) (by omega) (by simp; omega) ?_; intro b2 c2 w4 hown4 hg4 hat4; obtain ⟨p0, p3⟩ := hT3.out.push v rfl hg4 hown4 hat4; have p1 := p0.c5; have p2 := p0.free 5; have q4 := p0.c4; clear p0 hown4 hg4 hat4 ho3 g5 hz3))
    obtain ⟨w5, hw5⟩ : ∃ w5, w5 = w4.setCell ⟨tb, 5, none⟩ (.slice b2 (st.tm.stk.length + 1) c2) := ⟨_, rfl⟩
    have hT5 := p3.out.1
    have hmv5 := hmv3.out.trans p3.out.2
    rw [← hw5] at hT5 hmv5 ⊢
    have hT5h := Lib.hid hT5
    have hmv5h := Lib.hid hmv5
    have hadd := Lib.hid (isetAdd_any ids m3 _ v w5 hv64 hvh.out (by omega) hT5.i3)
    clear hT5 hmv5 hw5 p1 p2 p3 q4 hT3 hmv3
    refine (unhide hadd).mono ?_
    rintro e w6 ⟨rfl, hi6, hg6⟩
    have hT6 : TarAt w6 ids A B tb m1 m2 m3 (fnv2 gb) (st.push v).tm (.slice b2 (st.tm.stk.length + 1) c2) (.slice av st.tm.sccs.length cv) vs := by
      have := hT5h.out.put3 hg6 hi6
      rw [hnh.out] at this
      exact this
    have hmv6 := hmv5h.out.trans (Moves.of_grown hg6 (mem_foot.2 (by simp)))
    have k0 : w6.cell? ⟨tb, 0, none⟩ = some (.func (.func 68) #[] #[.pointer (some ⟨gb, 0, none⟩), .pointer (some ⟨gb + 1, 0, none⟩)]) := hT6.blk.c0
    have hA6 : A ≤ w.heap.size := by have := hTh.out.lts; have := hTh.out.low; omega
    have hb6 := hmv6.below hbh.out hTh.out.footlow hA6
    have hT6h := Lib.hid hT6
    have hmv6h := Lib.hid hmv6
    have hb6h := Lib.hid hb6
    clear hi6 hg6 hadd hT6 hmv6 hb6 hT5h hmv5h
    go_wp2_with fail
    refine (hSh.out w6 v hb6h.out hvh.out).mono ?_
    rintro e w7 ⟨an, cn, rfl, hown7, hb7⟩
    have hT7 := hT6h.out.below hb7
    have hmv7 := hmv6h.out.trans (Moves.of_below _ hb7)
    have hb7' := hb6h.out.trans (hb7.mono (by have := hT6h.out.lts; have := hT6h.out.low; omega))
    have hnl : (succ v).length ≤ 1000 := by have := hlenh.out v hvh.out; omega
    have hcs : Cells w7 an (nodes (succ v)) := by
      obtain ⟨aa', cc', e', _, hc, _⟩ := owns_cells hown7
      injection e' with e1' _ _
      rw [e1']; exact hc
    have hfar : ∀ g, an = some ⟨g, 0, none⟩ → g < w7.heap.size ∧ g ∉ foot tb m1 m2 m3 (.slice b2 (st.tm.stk.length + 1) c2) (.slice av st.tm.sccs.length cv) := fun g hg => by
      have h1 := hown7.lt g (by rw [hg]; rfl)
      exact ⟨h1.2, fun hm => by have := hT6h.out.footlt g hm; omega⟩
    have hhead : an = none ∨ ∃ g, an = some ⟨g, 0, none⟩ := owns_head hown7
    have hT7h := Lib.hid hT7
    have hmv7h := Lib.hid hmv7
    have hb7h := Lib.hid hb7'
    have hcsh := Lib.hid hcs
    have hfarh := Lib.hid hfar
    have hheadh := Lib.hid hhead
    have hA7 : Hid (A ≤ w7.heap.size) := by have := hT7.lts; have := hT7.low; unfold Hid; omega
    clear hown7 hb7 hT7 hmv7 hb7' hcs hfar hhead k0 hT6h hmv6h hb6h
    have hmid := Lib.hid (mid_take (sc_post hsh.out f) hsh.out hIh.out hvh.out h0h.out (by have := hfh.out; omega))
    obtain ⟨F7, hF7⟩ : ∃ F, F = foot tb m1 m2 m3 (.slice b2 (st.tm.stk.length + 1) c2) (.slice av st.tm.sccs.length cv) := ⟨_, rfl⟩
    have hF7h := Lib.hid hF7
    have hlow7 : Hid (∀ k ∈ F7, A ≤ k) := by unfold Hid; rw [hF7]; exact hT7h.out.footlow
    clear hF7
    go_wp2_with fail
    go_loopw [6, 7, 60] (fun _ _ i wr => ∃ (k : Nat) (sa' sv' : Value) (vs' : List Value), k ≤ (succ v).length ∧ i = .int .i64 k ∧ TarAt wr ids A B tb m1 m2 m3 (fnv2 gb) (sFold succ f v st k).tm sa' sv' vs' ∧ Moves F7 w7 (foot tb m1 m2 m3 sa' sv') wr) (fun _ _ i _ => (succ v).length - (intOf i).toNat)
    case atStart => exact ⟨0, _, _, _, Nat.zero_le _, rfl, hT7h.out, by rw [hF7h.out]; exact Moves.refl _ _⟩
    case round =>
      obtain ⟨k, sa', sv', vs', hk, rfl, hT, hm⟩ := hrel
      have hTr := Lib.hid hT
      have hmr := Lib.hid hm
      have hbr : Hid (Below A w0 wr) := hm.below hb7h.out hlow7.out hA7.out
      by_cases hlt : k < (succ v).length
      · have hcr : Cells wr an (nodes (succ v)) := by
          rcases hheadh.out with e | ⟨g, e⟩
          · rcases hcsh.out with e2 | ⟨b, o, e2, _⟩
            · have := congrArg List.length e2
              rw [nodes_length] at this
              simp at this; rw [this] at hlt; simp at hlt
            · rw [e] at e2; cases e2
          · have hc := hcsh.out
            rw [e] at hc ⊢
            exact hm.cells hc (by rw [hF7h.out]; exact (hfarh.out g e).2)
        obtain ⟨nb, no, rfl, _, hr⟩ := hcr.at (by rw [nodes_length]; omega)
        have hnode := hr _ _ (nodes_get (succ v) k hlt)
        have hstep := sFold_succ succ f v st hlt
        obtain ⟨x, hx⟩ : ∃ x, x = (succ v)[k] := ⟨_, rfl⟩
        rw [← hx] at hnode hstep
        have hxm : x ∈ succ v := by rw [hx]; exact List.getElem_mem hlt
        have hxid := hsh.out v hvh.out x hxm
        have hx64 := h64h.out x hxid
        have hmd := hmid.out k (by omega)
        obtain ⟨S, hS⟩ : ∃ S, S = sFold succ f v st k := ⟨_, rfl⟩
        rw [← hS] at hstep hmd hTr
        rw [← hS] at hT
        have hstepx : Hid (sFold succ f v st (k + 1) = scStep (sc succ f) v S x) := hstep
        have hmdh := Lib.hid hmd
        have hxidh := Lib.hid hxid
        have hSh2 := Lib.hid hS
        have t2 := hT.blk.c2
        have hlook := imap_look hT.i1 hx64
        unfold nodev at hnode
        clear hr hx hxm hxid hmd hS hT hm hstep
        by_cases hz : S.idx x = 0
        · have hz' : S.tm.idx x = 0 := hz
          rw [hz'] at hlook
          have hrec := Lib.hid (ihh.out S x wr sa' sv' vs' hmdh.out.inv hxidh.out hz (by have := hfh.out; have := hmdh.out.n; omega) hTr.out hbr.out)
          clear hz'
          go_wp2_with (go_at_call 184; refine (id_any _ _).mono ?_; rintro e w' ⟨rfl, rfl⟩)
          refine (unhide hrec).mono ?_
          rintro e w8 ⟨rfl, sa2, sv2, vs2, hT8, hm8⟩
          have hp := sc_post hsh.out f S x hmdh.out.inv hxidh.out hz (by have := hfh.out; have := hmdh.out.n; omega)
          obtain ⟨R, hR⟩ : ∃ R, R = sc succ f S x := ⟨_, rfl⟩
          rw [← hR] at hT8 hp
          have hlv := hp.inv.lowle v
          have hlx := hp.inv.lowle x
          have hrn := hp.inv.nle
          have hst2 : Hid (sFold succ f v st (k + 1) = R.setLow v (min (R.low v) (R.low x))) := by
            unfold Hid; rw [hstepx.out]; unfold scStep; rw [if_pos hz, hR]
          have u3 := hT8.blk.c3
          have l1 := imap_look (w := w8.drew) (hT8.i2.same rfl) hv64
          have l2 := imap_look (w := w8.drew) (hT8.i2.same rfl) hx64
          have hT8h := Lib.hid hT8
          have hm8h := Lib.hid (hmr.out.trans hm8)
          clear hR hT8 hm8 hp hrec hlook hmr hTr t2 hnode hstepx hbr
          go_wp2_with fail
          go_still_tail 18, (by kernel_rfl)
          change wpList _ _ _ _ _ w8.drew
          go_wp2_with (at_mapUpdate; refine wpList_imap_put _ (by rfl) _ _ _ (by rfl) (by rfl) (hT8h.out.i2.same (by rfl)) v (by rfl) hv64 hvh.out (by omega) (min (R.low v) (R.low x)) (by omega) (by simp [Act.eval]; show min ((R.low v : Nat) : Int) (R.low x : Nat) = ((min (R.low v) (R.low x) : Nat) : Int); omega) ?_; intro w9 hi9 hg9; have hT9 := Lib.hid ((hT8h.out.below (drew_below w8)).put2 hg9 hi9); have hm9 := Lib.hid ((hm8h.out.trans (Moves.of_drew _ w8)).trans (Moves.of_grown hg9 (mem_foot.2 (by simp)))); clear hi9 hg9 l1 l2 u3)
          go_roundw
          case rel =>
            exact ⟨k + 1, sa2, sv2, vs2, by omega, by go_num, by rw [hst2.out]; exact hT9.out, hm9.out⟩
          case measure => simp [intOf]; omega
        · obtain ⟨y, hy⟩ : ∃ y, y = S.tm.idx x := ⟨_, rfl⟩
          rw [← hy] at hlook
          have hy0 : ((y : Int) == 0) = false := by
            have : y ≠ 0 := fun e => hz (by rw [← show y = S.idx x from hy, e])
            simp; omega
          have hyle : y ≤ 1000 := by
            have h1 := hmdh.out.inv.le x
            have h2 := hmdh.out.inv.nle
            have h3 : y = S.idx x := hy
            omega
          have hlowle : S.low v ≤ 1000 := by
            have h1 := hmdh.out.inv.lowle v
            have h2 := hmdh.out.inv.nle
            omega
          have t4 := hTr.out.blk.c4
          have hhas := Lib.hid (isetHas_any ids m3 S.tm.on x wr hx64 hTr.out.i3)
          have hyh := Lib.hid hy
          clear hy
          go_wp2_with (go_at_call 184; refine (id_any _ _).mono ?_; rintro e w' ⟨rfl, rfl⟩)
          refine (unhide hhas).mono ?_
          rintro e w8 ⟨rfl, o8, hw8⟩
          have hT8 : TarAt w8 ids A B tb m1 m2 m3 (fnv2 gb) S.tm sa' sv' vs' := by rw [hw8]; exact hTr.out.below (alloc_below _ _)
          have hm8 : Moves F7 w7 (foot tb m1 m2 m3 sa' sv') w8 := by rw [hw8]; exact hmr.out.trans (Moves.of_alloc _ _ _)
          have hT8h := Lib.hid hT8
          have hm8h := Lib.hid hm8
          clear hw8 hhas hlook t2 t4 hnode
          by_cases hin : x ∈ S.stack
          · have hst2 : Hid (sFold succ f v st (k + 1) = S.setLow v (min (S.low v) y)) := by
              unfold Hid; rw [hstepx.out]; unfold scStep; rw [if_neg hz, if_pos hin, show y = S.idx x from hyh.out]
            have hin' : decide (x ∈ S.tm.on) = true := decide_eq_true hin
            have u2 := hT8.blk.c2
            have u3 := hT8.blk.c3
            have l1 := imap_look (w := w8.drew) (hT8.i2.same rfl) hv64
            have l2 := imap_look (w := w8.drew) (hT8.i1.same rfl) hx64
            rw [← hyh.out] at l2
            clear hT8 hm8 hin hz hmr hTr hstepx hbr hy0
            go_wp2_with fail
            go_still_tail 18, (by kernel_rfl)
            change wpList _ _ _ _ _ w8.drew
            go_wp2_with (at_mapUpdate; refine wpList_imap_put _ (by rfl) _ _ _ (by rfl) (by rfl) (hT8h.out.i2.same (by rfl)) v (by rfl) hv64 hvh.out (by omega) (min (S.low v) y) (by omega) (by simp [Act.eval]; show min ((S.low v : Nat) : Int) (y : Nat) = ((min (S.low v) y : Nat) : Int); omega) ?_; intro w9 hi9 hg9; have hT9 := Lib.hid ((hT8h.out.below (drew_below w8)).put2 hg9 hi9); have hm9 := Lib.hid ((hm8h.out.trans (Moves.of_drew _ w8)).trans (Moves.of_grown hg9 (mem_foot.2 (by simp)))); clear hi9 hg9 l1 l2 u3 u2)
            go_roundw
            case rel =>
              exact ⟨k + 1, sa', sv', vs', by omega, by go_num, by rw [hst2.out]; exact hT9.out, hm9.out⟩
            case measure => simp [intOf]; omega
          · have hst2 : Hid (sFold succ f v st (k + 1) = S) := by
              unfold Hid; rw [hstepx.out]; unfold scStep; rw [if_neg hz, if_neg hin]
            have hin' : decide (x ∈ S.tm.on) = false := decide_eq_false hin
            clear hT8 hm8 hin hz hmr hTr hstepx hbr hy0
            go_wp2_with fail
            go_roundw
            case rel =>
              exact ⟨k + 1, sa', sv', vs', by omega, by go_num, by rw [hst2.out]; exact hT8h.out, hm8h.out⟩
            case measure => simp [intOf]; omega
      · have hkn : k = (succ v).length := by omega
        subst hkn
        have hmd := hmid.out (succ v).length (Nat.le_refl _)
        rw [List.take_length] at hmd
        have hfin := sFold_all succ f v st
        obtain ⟨E, hE⟩ : ∃ E, E = sFold succ f v st (succ v).length := ⟨_, rfl⟩
        rw [← hE] at hmd hfin hT
        have hTE := Lib.hid hT
        obtain ⟨S, hS, _⟩ := hmd.rest
        have hvS : v ∉ S := by
          have := hmd.inv.nd
          rw [hS, List.append_assoc, List.nodup_append] at this
          exact fun e => this.2.2 v e v (by simp) rfl
        have hElen : E.stack.length ≤ 1000 ∧ E.sccs.length ≤ 1000 := by
          have h1 := hmd.inv.cnt
          have h2 := hmd.inv.nle
          have h3 := flatten_len hmd.inv.ne
          rw [List.length_append] at h1
          omega
        have hsub : ∀ y ∈ E.stack, y ∈ ids := fun y hy => hmd.inv.sub y (List.mem_append.2 (.inl hy))
        have hsubh := Lib.hid hsub
        have hndE := Lib.hid (List.nodup_append.1 hmd.inv.nd).1
        have hSeq := Lib.hid hS
        have hvSh := Lib.hid hvS
        have hfinh : Hid (sc succ (f + 1) st v = E.fin v) := hfin
        have d2 := hT.blk.c2
        have d3 := hT.blk.c3
        have l1 : ∀ q, (Instr.lookup 141 (.map (some m2)) (.int .i64 v) false).run Tryz.prog (wr.drewN q) = .ok (.int .i64 (E.tm.low v)) (wr.drewN q) := fun q => imap_look (w := wr.drewN q) (hT.i2.same rfl) hv64
        have l2 : ∀ q, (Instr.lookup 141 (.map (some m1)) (.int .i64 v) false).run Tryz.prog (wr.drewN q) = .ok (.int .i64 (E.tm.idx v)) (wr.drewN q) := fun q => imap_look (w := wr.drewN q) (hT.i1.same rfl) hv64
        obtain ⟨el, hel⟩ : ∃ el, el = E.tm.low v := ⟨_, rfl⟩
        obtain ⟨ei, hei⟩ : ∃ ei, ei = E.tm.idx v := ⟨_, rfl⟩
        simp only [← hel] at l1
        simp only [← hei] at l2
        have hle : Hid (el = E.low v) := hel
        have hie : Hid (ei = E.idx v) := hei
        clear hE hT hmd hS hvS hsub hfin hel hei hm hTr
        by_cases hlow : el = ei
        · subst hlow
          have hsc : Hid (sc succ (f + 1) st v = ⟨E.n, E.idx, E.low, st.stack, E.sccs ++ [S ++ [v]]⟩) := by
            unfold Hid; rw [hfinh.out]; unfold TS.fin; rw [if_pos (by rw [← hle.out, hie.out]), hSeq.out, cutAt_app hvSh.out]
          go_wp2_with fail
          go_quiet (fail)
          go_wp2_with fail
          obtain ⟨wq, hwq⟩ : ∃ wq, wq = wr.drewN nq := ⟨_, rfl⟩
          have hTq := hTE.out.below (drewN_below wr nq)
          have hmq := hmr.out.trans (Moves.of_drewN (foot tb m1 m2 m3 sa' sv') wr nq)
          rw [← hwq] at hTq hmq ⊢
          have hEl : E.tm.stk = S ++ v :: st.stack := hSeq.out
          obtain ⟨aq, cs, hsa, _⟩ := owns_cells hTq.os
          subst hsa
          obtain ⟨g, has, _⟩ := owns_at hTq.os (by rw [hEl]; simp; omega)
          subst has
          obtain ⟨aw, cw, hsw, _⟩ := owns_cells hTq.ov
          subst hsw
          have hbig : (S ++ v :: st.stack).length ≤ 1000 := by rw [← hSeq.out]; exact hElen.1
          have hTq0 : TarAt wq ids A B tb m1 m2 m3 (fnv2 gb) ⟨E.n, E.idx, E.low, S.drop 0 ++ v :: st.stack, S.drop 0 ++ v :: st.stack, E.sccs⟩ (.slice (some ⟨g, 0, none⟩) (S.drop 0 ++ v :: st.stack).length cs) (.slice aw E.sccs.length cw) vs' := by
            have h1 : E.tm = ⟨E.n, E.idx, E.low, S.drop 0 ++ v :: st.stack, S.drop 0 ++ v :: st.stack, E.sccs⟩ := by
              unfold TS.tm; rw [hSeq.out]; rfl
            have h2 := hTq
            rw [hEl] at h2
            rw [h1] at h2
            exact h2
          have hmq0 : Moves F7 w7 (foot tb m1 m2 m3 (.slice (some ⟨g, 0, none⟩) 0 cs) (.slice aw E.sccs.length cw)) wq := hmq
          have hTq0h := Lib.hid hTq0
          have hmq0h := Lib.hid hmq0
          have hSl : S.length ≤ 1000 := by rw [List.length_append] at hbig; omega
          have hbigh := Lib.hid hbig
          have hEs := hElen.2
          clear hTq hmq hwq hTq0 hmq0 l1 l2 d2 d3 hEl hbr hElen hbig
          go_loopg [8, 9] (S.length) (fun gi s8 _ wi => ∃ (j : Nat) (ax : Option Addr) (cx : Nat), j ≤ S.length ∧ gi = S.length - j ∧ s8 = .slice ax j cx ∧
            TarAt wi ids A B tb m1 m2 m3 (fnv2 gb) ⟨E.n, E.idx, E.low, S.drop j ++ v :: st.stack, S.drop j ++ v :: st.stack, E.sccs⟩ (.slice (some ⟨g, 0, none⟩) (S.drop j ++ v :: st.stack).length cs) (.slice aw E.sccs.length cw) vs' ∧
            wi.ownsRow B 85 1 (.slice ax j cx) j (nodes (S.take j)) ∧ (∀ q, (Value.slice ax j cx).ownBlock = some q → q ∉ foot tb m1 m2 m3 (.slice (some ⟨g, 0, none⟩) 0 cs) (.slice aw E.sccs.length cw) ∧ q ∉ blks vs' ∧ w7.heap.size ≤ q) ∧
            Moves F7 w7 (foot tb m1 m2 m3 (.slice (some ⟨g, 0, none⟩) 0 cs) (.slice aw E.sccs.length cw)) wi)
          case atStart => exact ⟨0, none, 0, Nat.zero_le _, rfl, rfl, hTq0h.out, World.ownsRow_nil _ _ _ _, by simp [Value.ownBlock], hmq0h.out⟩
          case round =>
            obtain ⟨j, ax, cx, hj, hgi, rfl, hT, hown, hdis, hm⟩ := hrel
            clear hTq0h hmq0h
            have hcase : (∃ y cur, S.drop j ++ v :: st.stack = y :: cur ∧ ((j < S.length ∧ y ≠ v ∧ cur = S.drop (j + 1) ++ v :: st.stack ∧ S.take (j + 1) = S.take j ++ [y]) ∨ (j = S.length ∧ y = v ∧ cur = st.stack))) := by
              by_cases hlt2 : j < S.length
              · refine ⟨S[j], S.drop (j + 1) ++ v :: st.stack, by rw [List.drop_eq_getElem_cons hlt2]; rfl, .inl ⟨hlt2, fun e => hvSh.out (e ▸ List.getElem_mem hlt2), rfl, List.take_succ_eq_append_getElem hlt2⟩⟩
              · have : j = S.length := by omega
                exact ⟨v, st.stack, by rw [this, List.drop_length]; rfl, .inr ⟨this, rfl, rfl⟩⟩
            obtain ⟨y, cur, hcur, hyc⟩ := hcase
            have hyid : y ∈ ids := hsubh.out y (by
              rw [hSeq.out]
              have h1 : y ∈ S.drop j ++ v :: st.stack := by rw [hcur]; simp
              rcases List.mem_append.1 h1 with e | e
              · exact List.mem_append.2 (.inl (List.mem_of_mem_drop e))
              · exact List.mem_append.2 (.inr e))
            have hy64 := h64h.out y hyid
            obtain ⟨e1, e2, hT2⟩ := hT.pop hcur rfl
            have hNl : (S.drop j ++ v :: st.stack).length = cur.length + 1 := by rw [hcur]; rfl
            have hN : (S.drop j ++ v :: st.stack).length ≤ 1000 := by have := hbigh.out; rw [List.length_append] at this ⊢; rw [List.length_drop]; omega
            have t5 := hT.blk.c5
            have f5 := hT.blk.free 5
            rw [hNl] at e1 e2 hT2 t5
            have hN2 : cur.length ≤ 999 := by omega
            have e1' : wr.cell? ⟨g, cur.length, none⟩ = some (.iface 127 (.int .i64 y)) := e1
            have hT2' : TarAt (wr.setCell ⟨tb, 5, none⟩ (.slice (some ⟨g, 0, none⟩) cur.length cs)) ids A B tb m1 m2 m3 (fnv2 gb) ⟨E.n, E.idx, E.low, cur, S.drop j ++ v :: st.stack, E.sccs⟩ (.slice (some ⟨g, 0, none⟩) cur.length cs) (.slice aw E.sccs.length cw) vs' := hT2
            have hT2h := Lib.hid hT2'
            have hownh := Lib.hid hown
            have hdish := Lib.hid hdis
            have hmh := Lib.hid hm
            have hycH := Lib.hid hyc
            have hcurh := Lib.hid hcur
            have hTh2 := Lib.hid hT
            have hgih := Lib.hid hgi
            have hyidh := Lib.hid hyid
            clear hT2 hT2' hown hdis hm hyc hcur hT hN hNl e1 hgi hyid
            obtain ⟨m, hm'⟩ : ∃ m, m = cur.length := ⟨_, rfl⟩
            rw [← hm'] at e1' e2 t5 hN2
            have hmmh := Lib.hid hm'
            have hw1 : IntKind.i64.wrap ((m : Int) + 1 - 1) = (m : Int) := by rw [IntKind.wrap_i64]; omega
            have hw2 : IntKind.i64.wrap (m : Int) = (m : Int) := by rw [IntKind.wrap_i64]; omega
            have hw3 : (0 : Int) ≤ (m : Int) := by omega
            have hw4 : (m : Int) < (m : Int) + 1 := by omega
            have hw5 : (m : Int) ≤ (cs : Int) := by omega
            clear hm'
            go_wp2_with fail
            go_still_tail 27, (by kernel_rfl)
            change wpList _ _ _ _ _ wr.drew
            go_wp2_with fail
            obtain ⟨w5, hw5e⟩ : ∃ w5, w5 = (wr.setCell ⟨tb, 5, none⟩ (.slice (some ⟨g, 0, none⟩) m cs)).drew := ⟨_, rfl⟩
            have hT5 : TarAt w5 ids A B tb m1 m2 m3 (fnv2 gb) ⟨E.n, E.idx, E.low, cur, S.drop j ++ v :: st.stack, E.sccs⟩ (.slice (some ⟨g, 0, none⟩) cur.length cs) (.slice aw E.sccs.length cw) vs' := by
              rw [hw5e, hmmh.out]; exact hT2h.out.below (drew_below _)
            have hm5 : Moves F7 w7 (foot tb m1 m2 m3 (.slice (some ⟨g, 0, none⟩) 0 cs) (.slice aw E.sccs.length cw)) w5 := by
              rw [hw5e]; exact (hmh.out.trans (Moves.of_setCell wr _ (mem_foot.2 (.inl rfl)))).trans (Moves.of_drew _ _)
            have hown5 : w5.ownsRow B 85 1 (.slice ax j cx) j (nodes (S.take j)) := by
              rw [hw5e]
              exact owns_same hownh.out fun q hq => Below.heap_setCell wr ⟨tb, 5, none⟩ _ q (fun e => (hdish.out q hq).1 (mem_foot.2 (.inl e)))
            rw [← hw5e]
            have q4 := hT5.blk.c4
            have hT5h := Lib.hid hT5
            have hm5h := Lib.hid hm5
            have hown5h := Lib.hid hown5
            clear hw5e hT5 hm5 hown5 hT2h hmh hownh hTh2 t5 f5 e1' e2 hw1 hw2 hw3 hw4 hw5
            go_region_held3 (fun w' => w'.cell? ⟨tb, 4, none⟩ = some (.map (some m3))) (go_keep)
              (first
                | (go_at_call 184; refine (id_any _ _).mono ?_; rintro e w' ⟨rfl, rfl⟩)
                | (go_at_call 93; ((with_reducible refine (isetRemove_any ids m3 (S.drop j ++ v :: st.stack) y w5.drew hy64 (hT5h.out.i3.same rfl)).mono ?_)); rintro e w6 ⟨rfl, hi6, hg6⟩; have hT6 := (hT5h.out.below (drew_below w5)).put3 hg6 hi6; have q6 := hT6.blk.c4; have hT6h := Lib.hid hT6; have hg6h := Lib.hid hg6; clear hi6 hg6 hT6))
            have hT6' : TarAt w6 ids A B tb m1 m2 m3 (fnv2 gb) ⟨E.n, E.idx, E.low, cur, cur, E.sccs⟩ (.slice (some ⟨g, 0, none⟩) cur.length cs) (.slice aw E.sccs.length cw) vs' := by
              refine hT6h.out.on_ext (s := cur) fun z => ?_
              have hnd : (y :: cur).Nodup := by
                have h1 := hndE.out
                rw [hSeq.out] at h1
                rw [← hcurh.out]
                exact h1.sublist (List.Sublist.append (List.drop_sublist _ _) (List.Sublist.refl _))
              rw [List.nodup_cons] at hnd
              show z ∈ remI (S.drop j ++ v :: st.stack) y ↔ z ∈ cur
              rw [mem_remI, hcurh.out]
              constructor
              · rintro ⟨h1, h2⟩
                rcases List.mem_cons.1 h1 with e | e
                · exact absurd e h2
                · exact e
              · intro h1
                exact ⟨List.mem_cons_of_mem _ h1, fun e => hnd.1 (e ▸ h1)⟩
            have hm6 : Moves F7 w7 (foot tb m1 m2 m3 (.slice (some ⟨g, 0, none⟩) 0 cs) (.slice aw E.sccs.length cw)) w6 := (hm5h.out.trans (Moves.of_drew _ w5)).trans (Moves.of_grown hg6h.out (mem_foot.2 (by simp)))
            have hown6 : w6.ownsRow B 85 1 (.slice ax j cx) j (nodes (S.take j)) :=
              owns_same hown5h.out fun q hq => hg6h.out.block q (hown5h.out.lt q hq).2 (fun e => by
                injection e with e
                exact (hdish.out q hq).1 (mem_foot.2 (by simp [e])))
            have hB6 : B ≤ w6.heap.size := hT6'.lts.2.2.2.2
            have ho6 := Lib.hid (fun o => hown6.alloc o)
            have hT6g := Lib.hid hT6'
            have hm6h := Lib.hid hm6
            clear hT6' hm6 hown6 q6 q4 hT6h hg6h hT5h hm5h hown5h
            go_wp2_with (at_builtin; refine append_law 50 85 .nilIface 1 16 Tryz.underlying50 info_node rfl (by omega) (by omega) rfl _ _ rfl B ax j cx (nodes (S.take j)) rfl (ho6.out _) ⟨w6.heap.size, 0, none⟩ 1 1 [.iface 127 (.int .i64 y)] rfl rfl (new_one w6 _ _) (one_node _) (by omega) (by simp; omega) ?_; intro b3 c3 w8 hown8 hg8 hat8; have hown8h := Lib.hid hown8; have hg8h := Lib.hid hg8; have hat8h := Lib.hid hat8; clear hown8 hg8 hat8 ho6)
            have hd8 : Hid (∀ q, (Value.slice b3 (j + 1) c3).ownBlock = some q → q ∉ foot tb m1 m2 m3 (.slice (some ⟨g, 0, none⟩) 0 cs) (.slice aw E.sccs.length cw) ∧ q ∉ blks vs' ∧ w7.heap.size ≤ q) := fun q hq => by
              rcases hat8h.out with e | e
              · subst e
                exact hdish.out q (by cases b3 <;> exact hq)
              · subst e
                simp only [Value.ownBlock] at hq
                injection hq with hq
                have hz : w6.heap.size + 1 = q := by rw [← hq]; simp
                have h7 := hm6h.out.size
                refine ⟨fun hm => ?_, fun hm => ?_, by omega⟩
                · have := hT6g.out.footlt q hm; omega
                · have := (hT6g.out.rows.lt q hm).2; omega
            have hT8 := Lib.hid ((hT6g.out.below (alloc_below w6 _)).grown hg8h.out (fun q hq hmem => by
              have := hdish.out q hq
              rcases List.mem_append.1 hmem with e | e
              · exact this.1 e
              · exact this.2.1 e))
            have hm8 := Lib.hid ((hm6h.out.trans (Moves.of_alloc _ w6 _)).grown hg8h.out (fun q hq => (hdish.out q hq).2.2))
            clear hg8h hat8h hT6g hm6h
            rcases hycH.out with ⟨hjl, hyv, hcu, htk⟩ | ⟨hjl, hyv, hcu⟩
            · have hyv' : (y == v) = false := by simpa using hyv
              have hown9 : Hid (w8.ownsRow B 85 1 (.slice b3 (j + 1) c3) (j + 1) (nodes (S.take (j + 1)))) := by
                unfold Hid; rw [htk]; unfold nodes; rw [List.map_append]; exact hown8h.out
              have hT9 : Hid (TarAt w8 ids A B tb m1 m2 m3 (fnv2 gb) ⟨E.n, E.idx, E.low, S.drop (j + 1) ++ v :: st.stack, S.drop (j + 1) ++ v :: st.stack, E.sccs⟩ (.slice (some ⟨g, 0, none⟩) (S.drop (j + 1) ++ v :: st.stack).length cs) (.slice aw E.sccs.length cw) vs') := by
                unfold Hid; rw [← hcu]; exact hT8.out
              clear hyv hcu htk hown8h hT8
              go_wp2_with (go_at_call 184; refine (id_any _ _).mono ?_; rintro e w' ⟨rfl, rfl⟩)
              go_roundg (S.length - (j + 1))
              case measure => have := hgih.out; omega
              case rel => exact ⟨j + 1, b3, c3, by omega, rfl, rfl, hT9.out, hown9.out, hd8.out, hm8.out⟩
            · have hyv' : (y == v) = true := by simpa using hyv
              subst hjl
              have hown9 : w8.ownsRow B 85 1 (.slice b3 (S.length + 1) c3) (S ++ [v]).length (nodes (S ++ [v])) := by
                have h1 := hown8h.out
                rw [List.take_length, hyv] at h1
                unfold nodes; rw [List.map_append, List.length_append]; exact h1
              have hT9 : TarAt w8 ids A B tb m1 m2 m3 (fnv2 gb) ⟨E.n, E.idx, E.low, st.stack, st.stack, E.sccs⟩ (.slice (some ⟨g, 0, none⟩) st.stack.length cs) (.slice aw E.sccs.length cw) vs' := by
                rw [← hcu]; exact hT8.out
              have r6 := hT9.blk.c6
              have hB8 := hT9.lts.2.2.2.2
              have ho8 := Lib.hid (fun o => hT9.ov.alloc o)
              have hT9h := Lib.hid hT9
              have hown9h := Lib.hid hown9
              clear hyv hcu hown8h hT8 hT9 hown9
              go_wp2_with (first
                | (go_at_call 184; refine (id_any _ _).mono ?_; rintro e w' ⟨rfl, rfl⟩)
                | (at_builtin; refine append_law 58 50 (.slice none 0 0) 1 24 Tryz.underlying58 info_nrow rfl (by omega) (by omega) rfl _ _ rfl B aw E.sccs.length cw vs' rfl (ho8.out _) ⟨w8.heap.size, 0, none⟩ 1 1 [.slice b3 (S.length + 1) c3] rfl rfl (new_one w8 _ _) (one_row _ _ _) (by omega) (by simp; omega) ?_; intro b4 c4 w9 hown4 hg4 hat4; obtain ⟨p0, p3⟩ := hT9h.out.emit rfl hown9h.out (fun q hq => ⟨(hd8.out q hq).1, (hd8.out q hq).2.1⟩) hg4 hown4 hat4; have p1 := p0.c6; have p2 := p0.free 6; clear p0 hown4 hg4 hat4 ho8 r6))
              go_end0
              refine ⟨rfl, .slice (some ⟨g, 0, none⟩) st.stack.length cs, .slice b4 (E.sccs.length + 1) c4, vs' ++ [.slice b3 (S.length + 1) c3], ?_, ?_⟩
              · rw [hsc.out]; exact p3.out.1
              · have h1 := hm8.out.trans p3.out.2
                rw [hF7h.out] at h1
                exact hmv7h.out.trans h1
        · have hne : ((el : Int) == (ei : Int)) = false := by simp; omega
          have hsc : Hid (sc succ (f + 1) st v = E) := by
            unfold Hid; rw [hfinh.out]; unfold TS.fin; rw [if_neg (by rw [← hle.out, ← hie.out]; exact hlow)]
          clear hlow
          go_wp2_with fail
          go_quiet (fail)
          go_wp2_with fail
          go_end0
          refine ⟨rfl, sa', sv', vs', ?_, ?_⟩
          · rw [hsc.out]; exact hTE.out.below (drewN_below _ _)
          · rw [hF7h.out] at hmr
            exact (hmv7h.out.trans hmr.out).trans (Moves.of_drewN _ _ _)
end Go.Proofs.YthpjmjohdliohaaGreat
