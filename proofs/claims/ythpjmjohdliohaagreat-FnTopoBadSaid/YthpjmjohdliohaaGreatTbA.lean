/- impl.UndirectedCycles at a good graph: that it ends, and that it is not bad.
   topo.DegeneracyOrdering: what lies in the slices that it gives.
   impl.Degeneracy at a good graph: that it ends, and that it is not bad.
   impl.IsPathIn at an empty path.
   What the functions of impl say to a graph: whether they refuse it. -/
import Derived.Test.YthpjmjohdliohaaGreatPat
import Derived.Test.YthpjmjohdliohaaGreatBothWays
import Derived.Test.YthpjmjohdliohaaGreatNumA
import Derived.Test.YthpjmjohdliohaaGreatTabsS
import Derived.Test.YthpjmjohdliohaaGreatPeelA
import Derived.Test.YthpjmjohdliohaaGreatOpenA
import Derived.StillTailTactics
import Derived.Test.YthpjmjohdliohaaGreatSortA
import Derived.Test.YthpjmjohdliohaaGreatSortSt
import Derived.Test.YthpjmjohdliohaaGreatCcB
import Derived.Test.YthpjmjohdliohaaGreatEqualA
import Derived.Test.YthpjmjohdliohaaGreatRefuse
import Derived.Test.YthpjmjohdliohaaGreatPartsA
import Derived.Deep.DeepCutAuto
namespace Go.Proofs.YthpjmjohdliohaaGreat
open Go.RowKit

theorem pinfo_irow : (Tryz.prog.info? 22).map (fun i => (i.zero, i.size, i.bytes)) = some (some (.slice none 0 0), 1, 24) := by kernel_rfl

/-- What holds of the neighbours in a good graph without directions. -/
theorem arcSym {g : Gr} (hd : g.dir = false) (x y : Int) : arcB g x y = arcB g y x := by
  unfold arcB
  congr 1
  funext e
  unfold hits
  rw [hd]
  refine decide_eq_decide.2 ?_
  simp only [true_and]
  exact or_comm
theorem okNodes {g : Gr} (hok : okGraph g = true) : g.nodes.Nodup := by
  unfold okGraph at hok
  rw [Bool.and_eq_true] at hok
  exact of_decide_eq_true hok.1
theorem succNodup {ids : List Int} {outs : List (List Arc)} (hup : ids.Pairwise (· < ·)) (hok : ∀ l ∈ outs, RowOk ids.length l) (x : Int) : (succOf ids outs x).Nodup := by
  unfold succOf endsOf
  have hrow : RowOk ids.length (outs.getD (posOf ids x) []) := by
    rcases Nat.lt_or_ge (posOf ids x) outs.length with hl | hl
    · have hm : outs.getD (posOf ids x) [] ∈ outs := by simp [hl]
      exact hok _ hm
    · rw [List.getD_eq_getElem?_getD, List.getElem?_eq_none hl]; exact RowOk.nil _
  generalize outs.getD (posOf ids x) [] = l at hrow
  show (l.map fun a => ids.getD a.1 0).Pairwise (· ≠ ·)
  rw [List.pairwise_map]
  refine hrow.1.imp_of_mem fun {a b} ha hb hab => ?_
  have h1 := hrow.2 a ha
  have h2 := hrow.2 b hb
  have := List.pairwise_iff_getElem.1 hup a.1 b.1 h1 h2 hab
  simp only [List.getD_eq_getElem?_getD, List.getElem?_eq_getElem h1, List.getElem?_eq_getElem h2, Option.getD_some]
  omega
theorem noLoop {g : Gr} (hok : okGraph g = true) (x : Int) : arcB g x x = false := by
  unfold okGraph at hok
  rw [Bool.and_eq_true, List.all_eq_true] at hok
  refine arcB_false fun k hk h => ?_
  have h1 := of_decide_eq_true (hok.2 _ (List.getElem_mem hk))
  rcases h with h | h
  · exact h1.1 (h.1.trans h.2.symm)
  · exact h1.1 (h.2.1.trans h.2.2.symm)

/-- Rows of nodes that can be read. -/
def RowsAt (w : World) (a : Option Addr) (n : Nat) : Prop :=
  ∀ i, i < n → ∃ g a' zs c', a = some ⟨g, 0, none⟩ ∧ w.cell? ⟨g, i, none⟩ = some (.slice a' (zs : List Int).length c') ∧ zs.length ≤ 1000000 ∧ Cells w a' (nodes zs)
theorem RowsAt.below {w w' : World} {a : Option Addr} {n : Nat} (h : RowsAt w a n) (hb : Below w.heap.size w w') : RowsAt w' a n := fun i hi => by
  obtain ⟨g, a', zs, c', h1, h2, h3, h4⟩ := h i hi
  exact ⟨g, a', zs, c', h1, cell_below hb h2, h3, h4.below hb⟩

theorem UCycPost.rowsAt {w w' : World} {e : Ending} (h : UCycPost w e w') : ∃ a n c, e = .returned (.slice a n c) ∧ n ≤ 1000000 ∧ RowsAt w' a n ∧ Below w.heap.size w w' := by
  obtain ⟨a, n, c, cy, vs, rfl, hn, hl, hrow, hr, h200, hb⟩ := h
  refine ⟨a, n, c, rfl, hl, fun i hi => ?_, hb⟩
  obtain ⟨g, rfl, _⟩ := owns_at hrow (by omega)
  obtain ⟨a', c', he, _, hc, _⟩ := owns_cells (hr i)
  refine ⟨g, a', cy.getD i [], c', rfl, ?_, by have := h200 i; omega, hc⟩
  rw [← he]
  exact owns_cell hrow (by rw [List.getElem?_map, List.getElem?_range hi]; rfl)

set_option maxRecDepth 100000 in
set_option maxHeartbeats 4000000 in
theorem ucycI_any (g : Gr) (an : Option Addr) (cn : Nat) (ae : Option Addr) (ce : Nat) (w : World) (hn : g.nodes.length ≤ 100) (he : g.edges.length ≤ 1048576) (hg : GrAt w g an cn ae) (hok : okGraph g = true) (hd : g.dir = false) (h64 : ∀ x ∈ g.nodes, In64 x) :
    Calls Tryz.prog 13 #[.agg #[.bool g.dir, .slice an g.nodes.length cn, .slice ae g.edges.length ce]] w fun e w' => ∃ a n c, e = .returned (.tuple #[.slice a n c, .bool false]) ∧ Below w.heap.size w w' := by
  obtain ⟨w1, hw1⟩ : ∃ w1, w1 = w.alloc (.cells #[.bool g.dir, .slice an g.nodes.length cn, .slice ae g.edges.length ce] 25) := ⟨_, rfl⟩
  have hb1 : Below w.heap.size w w1 := by rw [hw1]; exact alloc_below w _
  have hbw := bothWays_any g an cn ae ce w1 (by omega) he (hg.below hb1)
  rw [hw1] at hbw
  have hbwh := Lib.hid hbw
  have hw1h := Lib.hid hw1
  have hb1h := Lib.hid hb1
  have hokh := Lib.hid hok
  have hdh := Lib.hid hd
  have h64h : Hid (∀ x ∈ asc g.nodes, In64 x) := fun x hx => h64 x (asc_mem.1 hx)
  have hids : Hid ((asc g.nodes).length ≤ 100) := by unfold Hid; rw [asc_length]; exact hn
  have hsymh : Hid (∀ x ∈ asc g.nodes, ∀ y ∈ gSucc g x, x ∈ gSucc g y) := fun x hx y hy => by
    obtain ⟨h1, h2⟩ := (gSucc_mem hok (asc_mem.1 hx)).1 hy
    exact (gSucc_mem hok h1).2 ⟨asc_mem.1 hx, by rw [arcSym hd]; exact h2⟩
  have hndh : Hid (∀ x ∈ asc g.nodes, (gSucc g x).Nodup) := fun x _ => by
    have ht := graph_tabs hok
    exact succNodup (asc_incr (okNodes hok)) ht.r1 x
  have hnoh : Hid (∀ x ∈ asc g.nodes, x ∉ gSucc g x) := fun x hx hm => by
    have := ((gSucc_mem hok (asc_mem.1 hx)).1 hm).2
    rw [noLoop hok] at this
    cases this
  clear hw1 hb1 hbw hg h64 hok hd
  go_enter Tryz.func13, Tryz.ntmps13
  go_wp2_with fail
  refine (unhide hbwh).mono ?_
  rintro e w2 ⟨gb, rfl, hb2, hp2⟩
  rw [← hw1h.out] at hb2 hp2
  have hFA := hp2 hokh.out
  have hres : (okGraph g && !g.dir) = true := by rw [hokh.out, hdh.out]; rfl
  rw [hres]
  have hbw2 := Lib.hid (hb1h.out.trans (hb2.mono hb1h.out.size))
  have hPl : Hid (∀ W, Below w2.heap.size w2 W → PlainAt W gb (asc g.nodes) (outsOf g) (tabs bitsOf (asc g.nodes) g.dir g.edges).2) := fun W hW => hFA.plain.below hW
  obtain ⟨w3, hw3⟩ : ∃ w3, w3 = w2.alloc (.cells #[.pointer (some ⟨gb, 0, none⟩)] 62) := ⟨_, rfl⟩
  have hb3 : Below w2.heap.size w2 w3 := by rw [hw3]; exact alloc_below _ _
  have c0 : w3.cell? ⟨w2.heap.size, 0, none⟩ = some (.pointer (some ⟨gb, 0, none⟩)) := by rw [hw3]; simp
  have hco := ucyc_any gb (asc g.nodes) (outsOf g) _ w3 hids.out h64h.out (hPl.out w3 hb3) hsymh.out hndh.out hnoh.out
  rw [hw3] at hco
  have hcoh := Lib.hid hco
  have hw3h := Lib.hid hw3
  have hb3h : Hid (Below w.heap.size w w3) := hbw2.out.trans (hb3.mono hbw2.out.size)
  have c0h := Lib.hid c0
  clear hp2 hFA hres hb2 hbwh hw3 hb3 c0 hco
  go_wp2_with fail
  refine (unhide hcoh).mono ?_
  rintro e w4 hpost
  rw [← hw3h.out] at hpost
  obtain ⟨a4, n, c4, rfl, hnl, hrows, hb4⟩ := hpost.rowsAt
  have hrowsh := Lib.hid hrows
  have hbw4 : Hid (Below w.heap.size w w4) := hb3h.out.trans (hb4.mono hb3h.out.size)
  obtain ⟨D, hD⟩ : ∃ D, D = w4.heap.size := ⟨_, rfl⟩
  have hDh := Lib.hid hD
  clear hpost hrows hb4 hcoh hD hPl
  go_wp2_with fail
  go_loopw [2, 7, 19] (fun s _ i wr => ∃ (k : Nat) (b : Option Addr) (cb : Nat) (vs2 : List Value), k ≤ n ∧ i = .int .i64 k ∧ s = .slice b k cb ∧ wr.ownsRow D 22 1 (.slice b k cb) k vs2 ∧ Below D w4 wr) (fun _ _ i _ => n - (intOf i).toNat)
  case atStart => exact ⟨0, none, 0, [], Nat.zero_le _, rfl, rfl, World.ownsRow_nil _ _ _ _, Below.refl _ _⟩
  case round =>
    obtain ⟨k, b, cb, vs2, hk, rfl, rfl, hown, hb⟩ := hrel
    have hbw : Below w4.heap.size w4 wr := by rw [← hDh.out]; exact hb
    by_cases hlt : k < n
    · obtain ⟨g4, ag, cl, cg, rfl, hc4, hcl1, hcs⟩ := hrowsh.out k hlt
      have hcell := cell_below hbw hc4
      have hnum := Lib.hid (numbers_any ag cl.length cg cl wr rfl (by omega) (hcs.below hbw))
      have hDw : D ≤ wr.heap.size := by rw [hDh.out]; exact hbw.size
      have hownh := Lib.hid hown
      have hbh := Lib.hid hb
      clear hc4 hcs hown hb hbw
      go_wp2_with fail
      refine (unhide hnum).mono ?_
      rintro e w5 ⟨ax, cx, rfl, own5, hb5⟩
      have hown5 : w5.ownsRow D 22 1 (.slice b k cb) k vs2 := hownh.out.kept (row := none) ⟨hb5.os, hb5.tape, hb5.output, hb5.size, fun j hj _ => hb5.block j hj⟩ (by
        rcases hq : (Value.slice b k cb).ownBlock with _ | i
        · exact .inl rfl
        · exact .inr (by simp))
      have hb5' : Hid (Below D w4 w5) := hbh.out.trans (hb5.mono hDw)
      have hD5 : D ≤ w5.heap.size := Nat.le_trans hDw hb5.size
      have ho5 := Lib.hid (fun o => hown5.alloc o)
      have hst : Hid (∀ (w7 : World) (o : Obj), (w5.alloc o).grownBy w7 (Value.slice b k cb).ownBlock → Below D w4 w7) := fun w7 o hg7 =>
        (hb5'.out.alloc hD5 o).grown hg7 (by simp; omega) fun j e => (hown5.lt j e).1
      clear hnum hcell hb5 own5 hown5
      go_wp2_with (at_builtin; refine append_law 28 22 (.slice none 0 0) 1 24 Tryz.underlying28 pinfo_irow rfl (by omega) (by omega) rfl _ _ rfl D b k cb vs2 rfl (ho5.out _) ⟨w5.heap.size, 0, none⟩ 1 1 [.slice ax cl.length cx] rfl rfl (new_one w5 _ _) (pone_row _ _ _) (by omega) (by simp; omega) ?_; intro b2 c2 w7 hown7 hg7 hat7; have hq := Lib.hid (hst.out w7 _ hg7); have hown7h := Lib.hid hown7; clear hown7 hg7 hat7 ho5)
      go_roundw
      case rel => exact ⟨k + 1, b2, c2, _, by omega, by go_num, rfl, hown7h.out, hq.out⟩
      case measure => simp [intOf]; omega
    · have hkn : k = n := by omega
      subst hkn
      have hfin : Hid (∃ a n c, Ending.returned (.tuple #[.slice b k cb, .bool false]) = .returned (.tuple #[.slice a n c, .bool false]) ∧ Below w.heap.size w wr) :=
        ⟨b, k, cb, rfl, hbw4.out.trans (hbw.mono hbw4.out.size)⟩
      clear hown hb hbw
      go_wp2_with fail
      go_ret2
      exact hfin.out
end Go.Proofs.YthpjmjohdliohaaGreat

namespace Go.Proofs.YthpjmjohdliohaaGreat
open Go.RowKit

/-- A stretch of a row. -/
theorem cells_sub {w : World} {base e n cap q m : Nat} {la a' : Option Addr} {zs : List Int} (h : w.ownsRow base e 1 (.slice la n cap) n (nodes zs)) (hq : q + m ≤ n) (hn : n ≤ cap) (ha : cap ≠ q → a' = la.map (·.add (q * 1))) : Cells w a' (nodes ((zs.drop q).take m)) := by
  rcases Nat.eq_zero_or_pos m with h0 | h0
  · subst h0; exact .inl rfl
  · obtain ⟨gl, rfl, _, hlt, hcp⟩ := owns_at h (by omega)
    rw [ha (by omega)]
    have e1 : (some (⟨gl, 0, none⟩ : Addr)).map (·.add (q * 1)) = some ⟨gl, q, none⟩ := by
      rw [Nat.mul_one]; show some (Addr.add ⟨gl, 0, none⟩ q) = _; rw [Addr.add_mid, Nat.zero_add]
    rw [e1]
    refine .mk hlt fun j v hj => ?_
    refine owns_cell h ?_
    unfold nodes at hj ⊢
    rw [List.getElem?_map, List.getElem?_take] at hj
    split at hj
    · rw [List.getElem?_drop] at hj
      rw [List.getElem?_map]; exact hj
    · simp at hj

/-- What DegeneracyOrdering gives. -/
def CoresPost2 (w : World) (e : Ending) (w' : World) : Prop :=
  ∃ (a : Option Addr) (L : List Int) (ca : Nat) (b : Option Addr) (kk cb : Nat), e = .returned (.tuple #[.slice a L.length ca, .slice b kk cb]) ∧ kk ≤ 1001 ∧ L.length ≤ 1000 ∧ Cells w' a (nodes L) ∧ RowsAt w' b kk ∧ Below w.heap.size w w'

set_option maxRecDepth 100000 in
set_option maxHeartbeats 4000000 in
theorem cores2_any (gb : Nat) (ids : List Int) (outs ins : List (List Arc)) (w : World) (hids : ids.length ≤ 1000) (h64 : ∀ y ∈ ids, In64 y) (hp : PlainAt w gb ids outs ins) (hsym : ∀ x ∈ ids, ∀ y ∈ succOf ids outs x, x ∈ succOf ids outs y) (hnd : ∀ x ∈ ids, (succOf ids outs x).Nodup) :
    Calls Tryz.prog 29 #[.iface 62 (.agg #[.pointer (some ⟨gb, 0, none⟩)])] w (CoresPost2 w) := by
  have hdeg := Lib.hid (degOrd_any gb ids outs ins w hids h64 hp hsym hnd)
  have hsl : Hid (∀ x, (succOf ids outs x).length ≤ 1000) := fun x => by have := succ_len hp x; omega
  have hsm : Hid (∀ x ∈ ids, ∀ y ∈ succOf ids outs x, y ∈ ids) := fun x _ => succ_mem hp x
  obtain ⟨s, hs⟩ : ∃ s, s = succOf ids outs := ⟨_, rfl⟩
  rw [← hs] at hdeg hsl hsm
  clear hp h64 hsym hnd hs
  go_enter Tryz.func29, Tryz.ntmps29
  go_wp2_with fail
  refine (unhide hdeg).mono ?_
  rintro e w1 ⟨L, k, c, la, sa, lc, sc, rfl, ownL, ownS, hne, hI, hall, hb1⟩
  have hk := k_le hI hall hsm.out hsl.out
  have hlen := hI.len
  have hsum := hI.sum
  have hLl : L.length ≤ 1000 := by have := nodup_len hI.nd hI.sub; omega
  have hrl : Hid (L.reverse.length = L.length) := List.length_reverse
  obtain ⟨R, hR⟩ : ∃ R, R = L.reverse := ⟨_, rfl⟩
  have hRn : Hid ((nodes L).reverse = nodes R) := by rw [hR]; unfold Hid nodes; rw [List.map_reverse]
  rw [← hR] at hrl
  have hbh := Lib.hid hb1
  obtain ⟨l, hl⟩ : ∃ l, l = L.length := ⟨_, rfl⟩
  rw [← hl] at ownL hsum hLl hne hrl ⊢
  have hrev := Lib.hid (reverse_own rvNLays w.heap.size 85 l lc la (nodes L) w1 (nodes_cells L) (by omega) ownL)
  have hcap : l ≤ lc ∨ (la = none ∧ l = 0 ∧ lc = 0) := by
    obtain ⟨_, h | ⟨g, cap, _, hv, _, _, hn, _⟩⟩ := ownL
    · obtain ⟨h1, h2⟩ := h
      injection h1 with h1 h3 h4
      exact .inr ⟨h1, h2, h4⟩
    · injection hv with _ _ h3
      subst h3
      exact .inl hn
  have hlow : Hid (∀ j, (Value.slice la l lc).ownBlock = some j → w.heap.size ≤ j) := fun j hj => (ownL.lt j hj).1
  have hownS : Hid (∀ W, w1.grownBy W (Value.slice la l lc).ownBlock → W.ownsRow w.heap.size 3 1 (.slice sa (k + 1) sc) (k + 1) (ints (c.map fun (n : Nat) => (n : Int)))) := fun W hW =>
    owns_same ownS fun j hj => hW.block j (ownS.lt j hj).2 fun e => hne j e.symm hj
  have hlenh := Lib.hid hlen
  have hsumh := Lib.hid hsum
  have hstep := Lib.hid (sum_take_succ c)
  have hstl := Lib.hid (sum_take_le c)
  have hlelc : l ≤ lc := by omega
  have hmk : ∀ W : World, (Instr.makeSlice 58 (.int .i64 ((k : Int) + 1)) (.int .i64 ((k : Int) + 1))).run Tryz.prog W = .ok (.slice (some ⟨W.heap.size, 0, none⟩) (k + 1) (k + 1)) (W.alloc (.cells (madeCells #[.slice none 0 0] (k + 1)) 50)) := fun W => by
    have := run_make_row' (P := Tryz.prog) 58 50 (.slice none 0 0) 24 Tryz.underlying58 info_nrowD rfl .i64 .i64 (k + 1) (by omega) (by omega) W
    rwa [show ((k + 1 : Nat) : Int) = (k : Int) + 1 from by omega] at this
  clear hI hall hb1 hl hR ownL ownS hne hlen hsum hcap hdeg hsl hsm
  go_wp2_with fail
  refine (unhide hrev).mono ?_
  rintro e w2 ⟨rfl, ownL2, hg2⟩
  have own2 : w2.ownsRow w.heap.size 85 1 (.slice la l lc) l (nodes R) := by rw [← hRn.out]; exact ownL2
  have own2h := Lib.hid own2
  have hb2 : Hid (Below w.heap.size w w2) := hbh.out.grown hg2 hbh.out.size hlow.out
  have hS2 := hownS.out w2 hg2
  obtain ⟨gs, rfl, hgs1, hgs2, _⟩ := owns_at hS2 (by omega)
  have hcc : Hid (∀ i (hi : i < c.length), w2.cell? ⟨gs, i, none⟩ = some (.int .i64 (c[i] : Nat))) := fun i hi => owns_cell hS2 (nat_ints_get c i hi)
  have hmr := Lib.hid (made_row w2 (.slice none 0 0) 50 (k + 1) (by omega))
  obtain ⟨w3, hw3⟩ : ∃ w3, w3 = w2.alloc (.cells (madeCells #[.slice none 0 0] (k + 1)) 50) := ⟨_, rfl⟩
  have hb3 : Hid (Below w2.heap.size w2 w3) := by unfold Hid; rw [hw3]; exact alloc_below _ _
  rw [← hw3] at hmr
  have hw3h := Lib.hid hw3
  obtain ⟨db, hdb⟩ : ∃ db, db = w2.heap.size := ⟨_, rfl⟩
  have hdbh := Lib.hid hdb
  rw [← hdb] at hmr
  clear hw3 ownL2 own2 hg2 hS2 hdb hrev hlow hownS hbh
  go_wp2_with fail
  rw [← hw3h.out, ← hdbh.out]
  clear hmk hw3h
  go_loopw [5, 6, 7, 22] (fun ov _ _ iv wr => ∃ (i o : Nat) (vs : List Value), i ≤ k + 1 ∧ iv = .int .i64 i ∧ ov = .int .i64 o ∧ o + (c.take i).sum = l ∧ wr.ownsRow db 50 1 (.slice (some ⟨db, 0, none⟩) (k + 1) (k + 1)) (k + 1) vs ∧ (∀ i', i' < i → ∃ (a' : Option Addr) (zs : List Int) (c' : Nat), vs[i']? = some (.slice a' zs.length c') ∧ zs.length ≤ 1000 ∧ Cells w2 a' (nodes zs)) ∧ Below w2.heap.size w2 wr) (fun _ _ _ iv _ => k + 1 - (intOf iv).toNat)
  case atStart => exact ⟨0, l, _, Nat.zero_le _, rfl, rfl, by simp, hmr.out, fun _ h => absurd h (by omega), hb3.out⟩
  case round =>
    clear hmr hb3
    obtain ⟨i, o, vs, hi, rfl, rfl, ho, hown, hvs, hb⟩ := hrel
    have hvsh := Lib.hid hvs
    clear hvs
    have hb5 := Lib.hid hb
    have ownh := Lib.hid hown
    by_cases hlt : i < k + 1
    · have hic : i < c.length := by have := hlenh.out; omega
      have hst := hstep.out i hic
      have hle := hstl.out (i + 1)
      have x1 := cell_below hb (hcc.out i hic)
      obtain ⟨m, hm⟩ : ∃ m, m = c[i] := ⟨_, rfl⟩
      rw [← hm] at hst x1
      have hmo : m ≤ o := by have := hsumh.out; omega
      have ho1 : o ≤ 1000 := by omega
      have hol : o ≤ l := by omega
      obtain ⟨q, hq⟩ : ∃ q, q = o - m := ⟨_, rfl⟩
      have hqi : (((o : Int) - (m : Int))).toNat = q := by omega
      obtain ⟨a', c', ha', hsl⟩ : ∃ (a' : Option Addr) (c' : Nat), (lc ≠ q → a' = la.map (·.add (q * 1))) ∧ ∀ W, (Instr.slice 50 (.slice la l lc) (some (.int .i64 ((o : Int) - (m : Int)))) (some (.int .i64 (o : Int))) none).run Tryz.prog W = .ok (.slice a' m c') W := by
        refine ⟨if lc = q then la else la.map (·.add (q * 1)), lc - q, fun h => if_neg h, fun W => (run_slice_lh (P := Tryz.prog) (w := W) 50 la l lc (by kernel_rfl) .i64 .i64 _ _ (by omega) (by omega) (by omega)).trans ?_⟩
        rw [show Tryz.prog.elem 50 = 85 from by kernel_rfl, Tryz.sizeOf85]
        unfold sliced
        rw [hqi, show ((o : Int)).toNat - q = m from by omega]
        rfl
      have hzl : Hid (((R.drop q).take m).length = m) := by unfold Hid; rw [List.length_take, List.length_drop, hrl.out]; omega
      have hzc : Hid (Cells w2 a' (nodes ((R.drop q).take m))) := cells_sub own2h.out (by omega) hlelc ha'
      clear ha' hqi hq hol
      have x2 : ∃ u, wr.cell? ⟨db, i, none⟩ = some u := by
        have hvl : vs.length = k + 1 := by have := hown.1; omega
        exact ⟨_, owns_cell hown (List.getElem?_eq_getElem (by omega))⟩
      obtain ⟨u, x2⟩ := x2
      have x3 := owns_free hown i
      have hset := Lib.hid (owns_set hown (j := i) (.slice a' m c'))
      have hvl2 : vs.length = k + 1 := by have := hown.1; omega
      have hvs2 : Hid (∀ i', i' < i + 1 → ∃ (a'' : Option Addr) (zs : List Int) (c'' : Nat), (vs.set i (.slice a' m c'))[i']? = some (.slice a'' zs.length c'') ∧ zs.length ≤ 1000 ∧ Cells w2 a'' (nodes zs)) := fun i' hi' => by
        rcases Nat.lt_or_ge i' i with h | h
        · obtain ⟨a'', zs, c'', h1, h2⟩ := hvsh.out i' h
          exact ⟨a'', zs, c'', by rw [List.getElem?_set_ne (by omega)]; exact h1, h2⟩
        · have e : i' = i := by omega
          subst e
          refine ⟨a', (R.drop q).take m, c', ?_, by rw [hzl.out]; omega, hzc.out⟩
          rw [hzl.out, List.getElem?_set_self (by omega)]
      have hset2 : Hid (Below w2.heap.size w2 (wr.setCell ⟨db, i, none⟩ (.slice a' m c'))) := hb5.out.setCell (by rw [hdbh.out]; exact Nat.le_refl _) _
      have hnx : Hid (o - m + (c.take (i + 1)).sum = l) := by unfold Hid; omega
      have hcast : Hid (((o : Int) - (m : Int)) = ((o - m : Nat) : Int)) := by unfold Hid; omega
      clear hst hle hm hown hb hic ho hvl2
      go_wp2_with fail
      go_roundw
      case rel => exact ⟨i + 1, o - m, _, by omega, by go_num, by rw [← hcast.out], hnx.out, hset.out, hvs2.out, hset2.out⟩
      case measure => simp [intOf]; omega
    · have hik : i = k + 1 := by omega
      have hfin : Hid (CoresPost2 w (.returned (.tuple #[.slice la l lc, .slice (some ⟨db, 0, none⟩) (k + 1) (k + 1)])) wr) := by
        obtain ⟨ax, cx, he, _, hcL, _⟩ := owns_cells own2h.out
        injection he with he1 he2 he3
        subst he1
        refine ⟨la, R, lc, some ⟨db, 0, none⟩, k + 1, k + 1, by rw [hrl.out], by omega, by have := hrl.out; omega, hcL.below hb5.out, fun i' hi' => ?_, hb2.out.trans (hb5.out.mono hb2.out.size)⟩
        obtain ⟨a', zs, c', h1, h2, h3⟩ := hvsh.out i' (by omega)
        exact ⟨db, a', zs, c', rfl, owns_cell ownh.out h1, by omega, h3.below hb5.out⟩
      clear hown hb ho
      go_wp2_with fail
      go_ret2
      exact hfin.out

end Go.Proofs.YthpjmjohdliohaaGreat

namespace Go.Proofs.YthpjmjohdliohaaGreat
open Go.RowKit

set_option maxRecDepth 100000 in
set_option maxHeartbeats 4000000 in
theorem degenI_any (g : Gr) (an : Option Addr) (cn : Nat) (ae : Option Addr) (ce : Nat) (w : World) (hn : g.nodes.length ≤ 1000) (he : g.edges.length ≤ 1048576) (hg : GrAt w g an cn ae) (hok : okGraph g = true) (hd : g.dir = false) (h64 : ∀ x ∈ g.nodes, In64 x) :
    Calls Tryz.prog 11 #[.agg #[.bool g.dir, .slice an g.nodes.length cn, .slice ae g.edges.length ce]] w fun e w' => ∃ a n c a2 n2 c2, e = .returned (.tuple #[.slice a n c, .slice a2 n2 c2, .bool false]) ∧ Below w.heap.size w w' := by
  obtain ⟨w1, hw1⟩ : ∃ w1, w1 = w.alloc (.cells #[.bool g.dir, .slice an g.nodes.length cn, .slice ae g.edges.length ce] 25) := ⟨_, rfl⟩
  have hb1 : Below w.heap.size w w1 := by rw [hw1]; exact alloc_below w _
  have hbw := bothWays_any g an cn ae ce w1 (by omega) he (hg.below hb1)
  rw [hw1] at hbw
  have hbwh := Lib.hid hbw
  have hw1h := Lib.hid hw1
  have hb1h := Lib.hid hb1
  have hokh := Lib.hid hok
  have hdh := Lib.hid hd
  have h64h : Hid (∀ x ∈ asc g.nodes, In64 x) := fun x hx => h64 x (asc_mem.1 hx)
  have hids : Hid ((asc g.nodes).length ≤ 1000) := by unfold Hid; rw [asc_length]; exact hn
  have hsymh : Hid (∀ x ∈ asc g.nodes, ∀ y ∈ gSucc g x, x ∈ gSucc g y) := fun x hx y hy => by
    obtain ⟨h1, h2⟩ := (gSucc_mem hok (asc_mem.1 hx)).1 hy
    exact (gSucc_mem hok h1).2 ⟨asc_mem.1 hx, by rw [arcSym hd]; exact h2⟩
  have hndh : Hid (∀ x ∈ asc g.nodes, (gSucc g x).Nodup) := fun x _ => by
    have ht := graph_tabs hok
    exact succNodup (asc_incr (okNodes hok)) ht.r1 x
  clear hw1 hb1 hbw hg h64 hok hd
  go_enter Tryz.func11, Tryz.ntmps11
  go_wp2_with fail
  refine (unhide hbwh).mono ?_
  rintro e w2 ⟨gb, rfl, hb2, hp2⟩
  rw [← hw1h.out] at hb2 hp2
  have hFA := hp2 hokh.out
  have hres : (okGraph g && !g.dir) = true := by rw [hokh.out, hdh.out]; rfl
  rw [hres]
  have hbw2 := Lib.hid (hb1h.out.trans (hb2.mono hb1h.out.size))
  have hPl : Hid (∀ W, Below w2.heap.size w2 W → PlainAt W gb (asc g.nodes) (outsOf g) (tabs bitsOf (asc g.nodes) g.dir g.edges).2) := fun W hW => hFA.plain.below hW
  obtain ⟨w3, hw3⟩ : ∃ w3, w3 = w2.alloc (.cells #[.pointer (some ⟨gb, 0, none⟩)] 62) := ⟨_, rfl⟩
  have hb3 : Below w2.heap.size w2 w3 := by rw [hw3]; exact alloc_below _ _
  have c0 : w3.cell? ⟨w2.heap.size, 0, none⟩ = some (.pointer (some ⟨gb, 0, none⟩)) := by rw [hw3]; simp
  have hco := cores2_any gb (asc g.nodes) (outsOf g) _ w3 hids.out h64h.out (hPl.out w3 hb3) hsymh.out hndh.out
  rw [hw3] at hco
  have hcoh := Lib.hid hco
  have hw3h := Lib.hid hw3
  have hb3h : Hid (Below w.heap.size w w3) := hbw2.out.trans (hb3.mono hbw2.out.size)
  have c0h := Lib.hid c0
  clear hp2 hFA hres hb2 hbwh hw3 hb3 c0 hco
  go_wp2_with fail
  refine (unhide hcoh).mono ?_
  rintro e w4 hpost
  rw [← hw3h.out] at hpost
  obtain ⟨aL, L, cL, a4, n, c4, rfl, hnl, hLl, hcL, hrows, hb4⟩ := hpost
  have hcLh := Lib.hid hcL
  have hrowsh := Lib.hid hrows
  have hbw4 : Hid (Below w.heap.size w w4) := hb3h.out.trans (hb4.mono hb3h.out.size)
  obtain ⟨D, hD⟩ : ∃ D, D = w4.heap.size := ⟨_, rfl⟩
  have hDh := Lib.hid hD
  clear hrows hb4 hcoh hD hPl hcL
  go_wp2_with fail
  go_loopw [3, 10, 26] (fun s _ i wr => ∃ (k : Nat) (b : Option Addr) (cb : Nat) (vs2 : List Value), k ≤ n ∧ i = .int .i64 k ∧ s = .slice b k cb ∧ wr.ownsRow D 22 1 (.slice b k cb) k vs2 ∧ Below D w4 wr) (fun _ _ i _ => n - (intOf i).toNat)
  case atStart => exact ⟨0, none, 0, [], Nat.zero_le _, rfl, rfl, World.ownsRow_nil _ _ _ _, Below.refl _ _⟩
  case round =>
    obtain ⟨k, b, cb, vs2, hk, rfl, rfl, hown, hb⟩ := hrel
    have hbw : Below w4.heap.size w4 wr := by rw [← hDh.out]; exact hb
    by_cases hlt : k < n
    · obtain ⟨g4, ag, cl, cg, rfl, hc4, hcl1, hcs⟩ := hrowsh.out k hlt
      have hcell := cell_below hbw hc4
      have hnum := Lib.hid (numbers_any ag cl.length cg cl wr rfl (by omega) (hcs.below hbw))
      have hDw : D ≤ wr.heap.size := by rw [hDh.out]; exact hbw.size
      have hownh := Lib.hid hown
      have hbh := Lib.hid hb
      clear hc4 hcs hown hb hbw
      go_wp2_with fail
      refine (unhide hnum).mono ?_
      rintro e w5 ⟨ax, cx, rfl, own5, hb5⟩
      have hown5 : w5.ownsRow D 22 1 (.slice b k cb) k vs2 := hownh.out.kept (row := none) ⟨hb5.os, hb5.tape, hb5.output, hb5.size, fun j hj _ => hb5.block j hj⟩ (by
        rcases hq : (Value.slice b k cb).ownBlock with _ | i
        · exact .inl rfl
        · exact .inr (by simp))
      have hb5' : Hid (Below D w4 w5) := hbh.out.trans (hb5.mono hDw)
      have hD5 : D ≤ w5.heap.size := Nat.le_trans hDw hb5.size
      have ho5 := Lib.hid (fun o => hown5.alloc o)
      have hst : Hid (∀ (w7 : World) (o : Obj), (w5.alloc o).grownBy w7 (Value.slice b k cb).ownBlock → Below D w4 w7) := fun w7 o hg7 =>
        (hb5'.out.alloc hD5 o).grown hg7 (by simp; omega) fun j e => (hown5.lt j e).1
      clear hnum hcell hb5 own5 hown5
      go_wp2_with (at_builtin; refine append_law 28 22 (.slice none 0 0) 1 24 Tryz.underlying28 pinfo_irow rfl (by omega) (by omega) rfl _ _ rfl D b k cb vs2 rfl (ho5.out _) ⟨w5.heap.size, 0, none⟩ 1 1 [.slice ax cl.length cx] rfl rfl (new_one w5 _ _) (pone_row _ _ _) (by omega) (by simp; omega) ?_; intro b2 c2 w7 hown7 hg7 hat7; have hq := Lib.hid (hst.out w7 _ hg7); have hown7h := Lib.hid hown7; clear hown7 hg7 hat7 ho5)
      go_roundw
      case rel => exact ⟨k + 1, b2, c2, _, by omega, by go_num, rfl, hown7h.out, hq.out⟩
      case measure => simp [intOf]; omega
    · have hkn : k = n := by omega
      subst hkn
      have hnl2 := Lib.hid (numbers_any aL L.length cL L wr rfl (by omega) (hcLh.out.below hbw))
      have hbw9 : Hid (Below w.heap.size w wr) := hbw4.out.trans (hbw.mono hbw4.out.size)
      clear hown hb hbw
      go_wp2_with fail
      refine (unhide hnl2).mono ?_
      rintro e w9 ⟨a9, c9, rfl, _, hb9⟩
      have hfin : Hid (Below w.heap.size w w9) := hbw9.out.trans (hb9.mono hbw9.out.size)
      clear hb9 hnl2
      go_wp2_with fail
      (try simp only [Exit.inBlock, Exit.then])
      refine bodyPost_ret (v := .tuple #[.slice a9 L.length c9, .slice b k cb, .bool false]) (by simp [results, Tryz.results11, go_sem]) rfl ?_
      exact ⟨_, _, _, _, _, _, rfl, hfin.out⟩
end Go.Proofs.YthpjmjohdliohaaGreat

namespace Go.Proofs.YthpjmjohdliohaaGreat
open Go.RowKit

theorem nodesNil_any (w : World) : Calls Tryz.prog 34 #[.slice none 0 0] w fun e w' => e = .returned (.slice none 0 0) ∧ w = w' := by
  go_enter Tryz.func34, Tryz.ntmps34
  go_wp2_with fail
  go_loopw [3, 5, 8] (fun s _ i wr => s = .slice none 0 0 ∧ i = .int .i64 (0 : Int) ∧ wr = w) (fun _ _ _ _ => 0)
  case atStart => exact ⟨rfl, rfl, rfl⟩
  case round =>
    obtain ⟨rfl, rfl, rfl⟩ := hrel
    go_wp2_with fail
    go_ret
    exact ⟨by first | rfl | trivial, by first | rfl | trivial⟩

theorem isPathNil_any (v : Value) (w : World) : Calls Tryz.prog 33 #[v, .slice none 0 0] w fun e w' => e = .returned (.bool true) ∧ w = w' := by
  go_enter Tryz.func33, Tryz.ntmps33
  go_wp2_with fail
  go_ret
  exact ⟨by first | rfl | trivial, by first | rfl | trivial⟩

set_option maxRecDepth 100000 in
set_option maxHeartbeats 1000000 in
theorem isPathI_any (g : Gr) (an : Option Addr) (cn : Nat) (ae : Option Addr) (ce : Nat) (w : World) (hn : g.nodes.length ≤ 1000) (he : g.edges.length ≤ 1048576) (hg : GrAt w g an cn ae) :
    Calls Tryz.prog 14 #[.agg #[.bool g.dir, .slice an g.nodes.length cn, .slice ae g.edges.length ce], .slice none 0 0] w fun e w' => ∃ b, e = .returned (.tuple #[.bool b, .bool (!okGraph g)]) ∧ Below w.heap.size w w' := by
  obtain ⟨w1, hw1⟩ : ∃ w1, w1 = w.alloc (.cells #[.bool g.dir, .slice an g.nodes.length cn, .slice ae g.edges.length ce] 25) := ⟨_, rfl⟩
  have b1 : Below w.heap.size w w1 := by rw [hw1]; exact alloc_below _ _
  have ho := open_any g an cn ae ce w1 (by omega) he (hg.below b1)
  rw [hw1] at ho
  have hoh := Lib.hid ho
  have hw1h := Lib.hid hw1
  have b1h := Lib.hid b1
  clear hw1 b1 ho hg
  go_enter Tryz.func14, Tryz.ntmps14
  go_wp2_with fail
  refine (unhide hoh).mono ?_
  rintro e w2 ⟨pb, b, rfl, hb, hb2, _⟩
  rw [← hw1h.out] at hb2
  have hbb : Hid (Below w.heap.size w w2) := b1h.out.trans (hb2.mono b1h.out.size)
  have hbh := Lib.hid hb
  clear hb hb2 hoh
  cases b
  · go_wp2_with fail
    (try simp only [Exit.inBlock, Exit.then])
    refine bodyPost_ret (v := .tuple #[.bool false, .bool true]) (by simp [results, Tryz.results14, go_sem]) rfl ?_
    exact ⟨false, by rw [← hbh.out]; rfl, hbb.out⟩
  · go_wp2_with fail
    refine (nodesNil_any _).mono ?_
    rintro e w' ⟨rfl, rfl⟩
    go_wp2_with fail
    refine (isPathNil_any _ _).mono ?_
    rintro e w' ⟨rfl, rfl⟩
    go_wp2_with fail
    go_ret2
    exact ⟨true, by rw [← hbh.out]; rfl, hbb.out⟩
end Go.Proofs.YthpjmjohdliohaaGreat

namespace Go.Proofs.YthpjmjohdliohaaGreat
open Go.RowKit

def lightB (g : Gr) : Bool := g.edges.all fun e => decide (e.2.2 ≤ 1099511627776 ∧ -1099511627776 ≤ e.2.2)

set_option maxHeartbeats 1000000 in
theorem light_any (g : Gr) (an : Option Addr) (cn : Nat) (ae : Option Addr) (ce : Nat) (w : World) (he : g.edges.length ≤ 1048576) (hg : GrAt w g an cn ae) :
    Calls Tryz.prog 5 #[.agg #[.bool g.dir, .slice an g.nodes.length cn, .slice ae g.edges.length ce]] w fun e w' => e = .returned (.bool (lightB g)) ∧ Below w.heap.size w w' := by
  have hc := Lib.hid (hg.edges.alloc (.cells #[.bool g.dir, .slice an g.nodes.length cn, .slice ae g.edges.length ce] 25))
  have hl : Hid (∀ i (hi : i < g.edges.length), ¬ (g.edges[i].2.2 ≤ 1099511627776 ∧ -1099511627776 ≤ g.edges[i].2.2) → lightB g = false) := fun i hi h =>
    List.all_eq_false.2 ⟨_, List.getElem_mem hi, by simp only [decide_eq_true_eq]; exact h⟩
  have hl2 : Hid ((∀ i (hi : i < g.edges.length), g.edges[i].2.2 ≤ 1099511627776 ∧ -1099511627776 ≤ g.edges[i].2.2) → lightB g = true) := fun h =>
    List.all_eq_true.2 fun e he => by
      obtain ⟨i, hi, rfl⟩ := List.mem_iff_getElem.1 he
      exact decide_eq_true (h i hi)
  have hb := Lib.hid (alloc_below w (.cells #[.bool g.dir, .slice an g.nodes.length cn, .slice ae g.edges.length ce] 25))
  clear hg
  go_enter Tryz.func5, Tryz.ntmps5
  go_wp2_with fail
  obtain ⟨w1, hw1⟩ : ∃ w1, w1 = w.alloc (.cells #[.bool g.dir, .slice an g.nodes.length cn, .slice ae g.edges.length ce] 25) := ⟨_, rfl⟩
  have k2 : w1.cell? ⟨w.heap.size, 2, none⟩ = some (.slice ae g.edges.length ce) := by rw [hw1]; simp
  rw [← hw1] at hc hb ⊢
  clear hw1
  go_loopw [3] (fun kv wr => ∃ (k : Nat), k ≤ g.edges.length ∧ kv = .int .i64 k ∧ wr = w1 ∧ ∀ i (hi : i < g.edges.length), i < k → g.edges[i].2.2 ≤ 1099511627776 ∧ -1099511627776 ≤ g.edges[i].2.2) (fun kv _ => g.edges.length - (intOf kv).toNat)
  case atStart => exact ⟨0, Nat.zero_le _, rfl, rfl, fun i _ h => absurd h (Nat.not_lt_zero i)⟩
  case round =>
    obtain ⟨k, hk, rfl, rfl, hall⟩ := hrel
    by_cases hlt : k < g.edges.length
    · obtain ⟨b, off, rfl, _, hrg⟩ := hc.out.at (by rw [edgeCells_length]; omega)
      obtain ⟨_, _, x2⟩ := edge_cells hrg hlt
      obtain ⟨z, hz⟩ : ∃ z, z = g.edges[k].2.2 := ⟨_, rfl⟩
      have hnx : Hid (z ≤ 1099511627776 ∧ -1099511627776 ≤ z → ∀ i (hi : i < g.edges.length), i < k + 1 → g.edges[i].2.2 ≤ 1099511627776 ∧ -1099511627776 ≤ g.edges[i].2.2) := fun h i hi hik => by
        by_cases e : i = k
        · subst e; rw [← hz]; exact h
        · exact hall i hi (by omega)
      have hbd : Hid (¬ (z ≤ 1099511627776 ∧ -1099511627776 ≤ z) → lightB g = false) := fun h => hl.out k hlt (by rw [← hz]; exact h)
      rw [← hz] at x2
      clear hz hall hrg
      by_cases h1 : z ≤ 1099511627776
      · have h1' : ¬ (1099511627776 : Int) < z := by omega
        by_cases h2 : -1099511627776 ≤ z
        · have h2' : ¬ z < (-1099511627776 : Int) := by omega
          go_wp2_with fail
          go_roundw
          case rel => exact ⟨k + 1, by omega, by go_num, by trivial, hnx.out ⟨h1, h2⟩⟩
          case measure => simp [intOf]; omega
        · have h2' : z < (-1099511627776 : Int) := by omega
          have hf := Lib.hid (hbd.out fun h => h2 h.2)
          go_wp2_with fail
          go_ret
          exact ⟨by rw [hf.out]; rfl, hb.out⟩
      · have h1' : (1099511627776 : Int) < z := by omega
        have hf := Lib.hid (hbd.out fun h => h1 h.1)
        go_wp2_with fail
        go_ret
        exact ⟨by rw [hf.out]; rfl, hb.out⟩
    · have hf := Lib.hid (hl2.out fun i hi => hall i hi (by omega))
      clear hall
      go_wp2_with fail
      go_ret
      exact ⟨by rw [hf.out]; rfl, hb.out⟩

theorem and_split {a b : Bool} (h : (a && b) = true) : a = true ∧ b = true := by
  rwa [Bool.and_eq_true] at h
theorem and_not_split {a b : Bool} (h : (a && !b) = true) : a = true ∧ b = false := by
  rw [Bool.and_eq_true] at h
  exact ⟨h.1, by have := h.2; revert this; cases b <;> simp⟩

theorem sortU_any (g : Gr) (an : Option Addr) (cn : Nat) (ae : Option Addr) (ce : Nat) (w : World) (hn : g.nodes.length ≤ 100) (he : g.edges.length ≤ 1048576) (hg : GrAt w g an cn ae) (h64 : ∀ x ∈ g.nodes, In64 x) :
    Calls Tryz.prog 7 #[.agg #[.bool g.dir, .slice an g.nodes.length cn, .slice ae g.edges.length ce]] w fun e w' => ∃ (a : Option Addr) (n c : Nat) (a2 : Option Addr) (n2 c2 : Nat) (b : Bool), e = .returned (.tuple #[.slice a n c, .slice a2 n2 c2, .bool b, .bool (!(okGraph g && g.dir))]) ∧ Below w.heap.size w w' := by
  rcases h : (okGraph g && g.dir) with _ | _
  · exact (sortNo_any g an cn ae ce w (by omega) he hg h).mono fun e w' ⟨h1, h2⟩ => ⟨_, _, _, _, _, _, _, h1, h2⟩
  · obtain ⟨hok, hd⟩ := and_split h
    exact (sort_any g an cn ae ce w (by omega) he hg hok hd h64).mono fun e w' ⟨_, _, _, _, _, _, h1, _, _, _, _, h2⟩ => ⟨_, _, _, _, _, _, _, h1, h2⟩

theorem sortStU_any (g : Gr) (an : Option Addr) (cn : Nat) (ae : Option Addr) (ce : Nat) (w : World) (hn : g.nodes.length ≤ 100) (he : g.edges.length ≤ 1048576) (hg : GrAt w g an cn ae) (h64 : ∀ x ∈ g.nodes, In64 x) :
    Calls Tryz.prog 8 #[.agg #[.bool g.dir, .slice an g.nodes.length cn, .slice ae g.edges.length ce]] w fun e w' => ∃ (a : Option Addr) (n c : Nat) (a2 : Option Addr) (n2 c2 : Nat) (b : Bool), e = .returned (.tuple #[.slice a n c, .slice a2 n2 c2, .bool b, .bool (!(okGraph g && g.dir))]) ∧ Below w.heap.size w w' := by
  rcases h : (okGraph g && g.dir) with _ | _
  · exact (sortStNo_any g an cn ae ce w (by omega) he hg h).mono fun e w' ⟨h1, h2⟩ => ⟨_, _, _, _, _, _, _, h1, h2⟩
  · obtain ⟨hok, hd⟩ := and_split h
    exact (sortSt_any g an cn ae ce w (by omega) he hg hok hd h64).mono fun e w' ⟨_, _, _, _, _, _, h1, _, _, _, _, h2⟩ => ⟨_, _, _, _, _, _, _, h1, h2⟩

theorem sccU_any (g : Gr) (an : Option Addr) (cn : Nat) (ae : Option Addr) (ce : Nat) (w : World) (hn : g.nodes.length ≤ 100) (he : g.edges.length ≤ 1048576) (hg : GrAt w g an cn ae) (h64 : ∀ x ∈ g.nodes, In64 x) :
    Calls Tryz.prog 9 #[.agg #[.bool g.dir, .slice an g.nodes.length cn, .slice ae g.edges.length ce]] w fun e w' => ∃ (a : Option Addr) (n c : Nat), e = .returned (.tuple #[.slice a n c, .bool (!(okGraph g && g.dir))]) ∧ Below w.heap.size w w' := by
  rcases h : (okGraph g && g.dir) with _ | _
  · exact (sccNo_any g an cn ae ce w (by omega) he hg h).mono fun e w' ⟨h1, h2⟩ => ⟨_, _, _, h1, h2⟩
  · obtain ⟨hok, hd⟩ := and_split h
    exact (scc_any g an cn ae ce w (by omega) he hg hok hd h64).mono fun e w' ⟨_, _, _, _, h1, _, _, _, h2⟩ => ⟨_, _, _, h1, h2⟩

theorem compU_any (g : Gr) (an : Option Addr) (cn : Nat) (ae : Option Addr) (ce : Nat) (w : World) (hn : g.nodes.length ≤ 100) (he : g.edges.length ≤ 1048576) (hg : GrAt w g an cn ae) (h64 : ∀ x ∈ g.nodes, In64 x) :
    Calls Tryz.prog 10 #[.agg #[.bool g.dir, .slice an g.nodes.length cn, .slice ae g.edges.length ce]] w fun e w' => ∃ (a : Option Addr) (n c : Nat), e = .returned (.tuple #[.slice a n c, .bool (!(okGraph g && !g.dir))]) ∧ Below w.heap.size w w' := by
  rcases h : (okGraph g && !g.dir) with _ | _
  · exact (compNo_any g an cn ae ce w (by omega) he hg h).mono fun e w' ⟨h1, h2⟩ => ⟨_, _, _, h1, h2⟩
  · obtain ⟨hok, hd⟩ := and_not_split h
    exact (components_any g an cn ae ce w (by omega) he hg hok hd h64).mono fun e w' ⟨_, _, _, _, h1, _, h2⟩ => ⟨_, _, _, h1, h2⟩

theorem degenU_any (g : Gr) (an : Option Addr) (cn : Nat) (ae : Option Addr) (ce : Nat) (w : World) (hn : g.nodes.length ≤ 100) (he : g.edges.length ≤ 1048576) (hg : GrAt w g an cn ae) (h64 : ∀ x ∈ g.nodes, In64 x) :
    Calls Tryz.prog 11 #[.agg #[.bool g.dir, .slice an g.nodes.length cn, .slice ae g.edges.length ce]] w fun e w' => ∃ (a : Option Addr) (n c : Nat) (a2 : Option Addr) (n2 c2 : Nat), e = .returned (.tuple #[.slice a n c, .slice a2 n2 c2, .bool (!(okGraph g && !g.dir))]) ∧ Below w.heap.size w w' := by
  rcases h : (okGraph g && !g.dir) with _ | _
  · exact (degenNo_any g an cn ae ce w (by omega) he hg h).mono fun e w' ⟨h1, h2⟩ => ⟨_, _, _, _, _, _, h1, h2⟩
  · obtain ⟨hok, hd⟩ := and_not_split h
    exact (degenI_any g an cn ae ce w (by omega) he hg hok hd h64).mono fun e w' ⟨_, _, _, _, _, _, h1, h2⟩ => ⟨_, _, _, _, _, _, h1, h2⟩

theorem kcoreU_any (g : Gr) (an : Option Addr) (cn : Nat) (ae : Option Addr) (ce : Nat) (w : World) (hn : g.nodes.length ≤ 100) (he : g.edges.length ≤ 1048576) (hg : GrAt w g an cn ae) (h64 : ∀ x ∈ g.nodes, In64 x) :
    Calls Tryz.prog 12 #[.int .i64 0, .agg #[.bool g.dir, .slice an g.nodes.length cn, .slice ae g.edges.length ce]] w fun e w' => ∃ (a : Option Addr) (n c : Nat), e = .returned (.tuple #[.slice a n c, .bool (!(okGraph g && !g.dir))]) ∧ Below w.heap.size w w' := by
  rcases h : (okGraph g && !g.dir) with _ | _
  · exact (kcoreNo_any g an cn ae ce w (by omega) he hg h).mono fun e w' ⟨h1, h2⟩ => ⟨_, _, _, h1, h2⟩
  · obtain ⟨hok, hd⟩ := and_not_split h
    exact (kcoreI_any 0 g an cn ae ce w (by omega) he hg hok hd h64 (.inl (by omega))).mono fun e w' ⟨_, _, _, h1, _, h2, _⟩ => ⟨_, _, _, h1, h2⟩

theorem ucycU_any (g : Gr) (an : Option Addr) (cn : Nat) (ae : Option Addr) (ce : Nat) (w : World) (hn : g.nodes.length ≤ 100) (he : g.edges.length ≤ 1048576) (hg : GrAt w g an cn ae) (h64 : ∀ x ∈ g.nodes, In64 x) :
    Calls Tryz.prog 13 #[.agg #[.bool g.dir, .slice an g.nodes.length cn, .slice ae g.edges.length ce]] w fun e w' => ∃ (a : Option Addr) (n c : Nat), e = .returned (.tuple #[.slice a n c, .bool (!(okGraph g && !g.dir))]) ∧ Below w.heap.size w w' := by
  rcases h : (okGraph g && !g.dir) with _ | _
  · exact (ucycNo_any g an cn ae ce w (by omega) he hg h).mono fun e w' ⟨h1, h2⟩ => ⟨_, _, _, h1, h2⟩
  · obtain ⟨hok, hd⟩ := and_not_split h
    exact (ucycI_any g an cn ae ce w hn he hg hok hd h64).mono fun e w' ⟨_, _, _, h1, h2⟩ => ⟨_, _, _, h1, h2⟩

set_option maxRecDepth 100000 in
set_option maxHeartbeats 1000000 in
theorem equalNo_any (g : Gr) (an : Option Addr) (cn : Nat) (ae : Option Addr) (ce : Nat) (w : World) (hn : g.nodes.length ≤ 1000) (he : g.edges.length ≤ 1048576) (hg : GrAt w g an cn ae) (hno : okGraph g = false) :
    Calls Tryz.prog 15 #[.agg #[.bool g.dir, .slice an g.nodes.length cn, .slice ae g.edges.length ce], .agg #[.bool g.dir, .slice an g.nodes.length cn, .slice ae g.edges.length ce]] w fun e w' => e = .returned (.tuple #[.bool false, .bool true]) ∧ Below w.heap.size w w' := by
  obtain ⟨w2, hw2⟩ : ∃ w2, w2 = (w.alloc (.cells #[.bool g.dir, .slice an g.nodes.length cn, .slice ae g.edges.length ce] 25)).alloc (.cells #[.bool g.dir, .slice an g.nodes.length cn, .slice ae g.edges.length ce] 25) := ⟨_, rfl⟩
  have hb2 : Below w.heap.size w w2 := by rw [hw2]; exact (alloc_below w _).trans ((alloc_below _ _).mono (by simp))
  have k1 : w2.cell? ⟨w.heap.size + 1, 0, none⟩ = some (.bool g.dir) ∧ w2.cell? ⟨w.heap.size + 1, 1, none⟩ = some (.slice an g.nodes.length cn) ∧ w2.cell? ⟨w.heap.size + 1, 2, none⟩ = some (.slice ae g.edges.length ce) := by
    have h : w2.heap[w.heap.size + 1]? = some (.cells #[.bool g.dir, .slice an g.nodes.length cn, .slice ae g.edges.length ce] 25 (0, 0)) := by
      rw [hw2]
      have := heap_alloc_new (w.alloc (.cells #[.bool g.dir, .slice an g.nodes.length cn, .slice ae g.edges.length ce] 25)) (.cells #[.bool g.dir, .slice an g.nodes.length cn, .slice ae g.edges.length ce] 25)
      rwa [show (w.alloc (.cells #[.bool g.dir, .slice an g.nodes.length cn, .slice ae g.edges.length ce] 25)).heap.size = w.heap.size + 1 by simp] at this
    simp [World.cell?, h]
  have hopA := open_any g an cn ae ce w2 (by omega) he (hg.below hb2)
  have hopB := Lib.hid (fun w3 (h : Below w2.heap.size w2 w3) => open_any g an cn ae ce w3 (by omega) he ((hg.below hb2).below h))
  have hw2h := Lib.hid hw2
  have hb2h := Lib.hid hb2
  have k1h := Lib.hid k1
  rw [hw2] at hopA
  have hopAh := Lib.hid hopA
  have hnoh := Lib.hid hno
  clear hw2 hb2 k1 hopA hg hno
  go_enter Tryz.func15, Tryz.ntmps15
  go_wp2_with fail
  refine (unhide hopAh).mono ?_
  rintro e w3 ⟨pa, ba, rfl, hba, hb3, _⟩
  rw [← hw2h.out] at hb3
  rw [hnoh.out] at hba
  subst hba
  have hopB3 := Lib.hid (unhide hopB w3 hb3)
  have c0 := cell_below hb3 k1h.out.1
  have c1 := cell_below hb3 k1h.out.2.1
  have c2 := cell_below hb3 k1h.out.2.2
  have hb3h := Lib.hid hb3
  clear hb3 hopAh hopB
  go_wp2_with fail
  refine (unhide hopB3).mono ?_
  rintro e w4 ⟨pb, bb, rfl, hbb, hb4, _⟩
  rw [hnoh.out] at hbb
  subst hbb
  have hbw4 : Hid (Below w.heap.size w w4) := hb2h.out.trans ((hb3h.out.mono hb2h.out.size).trans (hb4.mono (Nat.le_trans hb2h.out.size hb3h.out.size)))
  clear hb4 hopB3 c0 c1 c2
  go_wp2_with fail
  (try simp only [Exit.inBlock, Exit.then])
  refine bodyPost_ret (v := .tuple #[.bool false, .bool true]) (by simp [results, Tryz.results15, go_sem]) rfl ?_
  exact ⟨rfl, hbw4.out⟩

theorem equalU_any (g : Gr) (an : Option Addr) (cn : Nat) (ae : Option Addr) (ce : Nat) (w : World) (hn : g.nodes.length ≤ 100) (he : g.edges.length ≤ 1048576) (hg : GrAt w g an cn ae) :
    Calls Tryz.prog 15 #[.agg #[.bool g.dir, .slice an g.nodes.length cn, .slice ae g.edges.length ce], .agg #[.bool g.dir, .slice an g.nodes.length cn, .slice ae g.edges.length ce]] w fun e w' => ∃ b : Bool, e = .returned (.tuple #[.bool b, .bool (!okGraph g)]) ∧ Below w.heap.size w w' := by
  rcases h : okGraph g with _ | _
  · exact (equalNo_any g an cn ae ce w (by omega) he hg h).mono fun e w' ⟨h1, h2⟩ => ⟨_, h1, h2⟩
  · exact (equal_any g g an cn ae ce an cn ae ce w (by omega) he (by omega) he hg hg h h).mono fun e w' ⟨h1, h2⟩ => ⟨_, h1, h2⟩
end Go.Proofs.YthpjmjohdliohaaGreat
