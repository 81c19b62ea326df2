/- laws.FnComplementTwice: the walk.
   For every input, laws.FnComplementTwice returns true, and its argument reads as it did: the complement of the complement of a graph (of at most 40 nodes) is the graph, without weights; one of both is connected, if it is undirected and has a node.
   No condition is laid on the input: what the law itself lets by (graphs that are none, or too large) is answered true by the law. -/
import Derived.Test.YtanbhibllilccaaGreatSameG
import Derived.Test.YtanbhibllilccaaGreatCompl
import Derived.Test.YtanbhibllilccaaGreatLPlain
import Derived.Test.YtanbhibllilccaaGreatCompImpl
import Derived.Test.YtanbhibllilccaaGreatRowBase
namespace Go.Proofs.YtanbhibllilccaaGreat
open Go.RowKit

theorem compl_any (g : Gr) (an : Option Addr) (cn : Nat) (ae : Option Addr) (ce : Nat) (w : World) (hn : g.nodes.length ≤ 1000) (he : g.edges.length ≤ 1048576) (hg : GrAt w g an cn ae) (hok : okGraph g = true) (h64 : ∀ x ∈ g.nodes, In64 x) :
    Calls Tryz.prog 7 #[.agg #[.bool g.dir, .slice an g.nodes.length cn, .slice ae g.edges.length ce]] w (ComplPost w g) := by
  rcases hd : g.dir with _ | _
  · exact complUnd_any g an cn ae ce w hn he hg hok hd h64
  · exact complDir_any g an cn ae ce w hn he hg hok hd h64

theorem flat0_flatE (g : Gr) : flat0 (flatE g) = flatE g := by
  unfold flat0 flatE
  rw [List.map_flatMap]
  congr 1
  funext u
  rw [List.map_map]
  rfl

theorem compG_nodes_len (g : Gr) : (compG g).nodes.length = g.nodes.length := asc_length _
theorem compG_edges_len {g : Gr} {n : Nat} (h : g.nodes.length ≤ n) : (compG g).edges.length ≤ n * n := by
  have h1 := seenE_len g.dir (asc g.nodes) (cOuts g) n (fun u => Nat.le_trans (cOuts_len g u) h)
  rw [asc_length] at h1
  exact Nat.le_trans h1 (Nat.mul_le_mul_right _ h)
theorem compG_in64 {g : Gr} (h : ∀ x ∈ g.nodes, In64 x) : ∀ x ∈ (compG g).nodes, In64 x := fun x hx => h x (asc_mem.1 hx)

/-- What the walk needs to know of the lists. -/
theorem twice_facts {g : Gr} (h : okGraph g = true) : (compG (compG g)).nodes = asc g.nodes ∧ flat0 (compG (compG g)).edges = flatE g ∧ flat0 (plainE g) = flatE g ∧ (compG (compG g)).edges.length = (flatE g).length ∧ (plainE g).length = (flatE g).length := by
  obtain ⟨h1, _, h3⟩ := compG_twice h
  have h4 := plain_flat h
  refine ⟨h1, by rw [h3]; exact flat0_flatE g, h4, by rw [h3], ?_⟩
  rw [← h4, flat0_len]

theorem one_of_two {g : Gr} (hok : okGraph g = true) (hd : g.dir = false) (hne : g.nodes ≠ []) {M M' : List (List Int)} (h1 : Comps (sFrom g) (asc g.nodes) (asc g.nodes).length M) (h2 : Comps (sFrom (compG g)) (asc (compG g).nodes) (asc (compG g).nodes).length M') : M.length = 1 ∨ M'.length = 1 := by
  have hn : asc g.nodes ≠ [] := fun e => hne (List.eq_nil_of_length_eq_zero (by rw [← asc_length, e]; rfl))
  have hcn : asc (compG g).nodes = asc g.nodes := asc_asc _
  rcases one_connected hok hd with h | h
  · left
    exact one_class h1 hn (fun x hx y hy => h x (asc_mem.1 hx) y (asc_mem.1 hy)) (h1.sub (from_sym hd))
  · right
    refine one_class h2 (by rw [hcn]; exact hn) (fun x hx y hy => ?_) (h2.sub (from_sym (g := compG g) hd))
    rw [hcn] at hx hy
    exact h x (asc_mem.1 hx) y (asc_mem.1 hy)

set_option maxRecDepth 100000 in
set_option maxHeartbeats 8000000 in
theorem twice_any (g : Gr) (an : Option Addr) (cn : Nat) (ae : Option Addr) (ce : Nat) (w : World) (hm : g.nodes.length ≤ 9223372036854775807) (hm' : g.edges.length ≤ 9223372036854775807) (hg : GrAt w g an cn ae) (h64 : ∀ x ∈ g.nodes, In64 x) :
    Calls Tryz.prog 3 #[.agg #[.bool g.dir, .slice an g.nodes.length cn, .slice ae g.edges.length ce]] w
      fun e w' => e = .returned (.bool true) ∧ Below w.heap.size w w' := by
  obtain ⟨w1, hw1⟩ : ∃ w1, w1 = w.alloc (.cells #[.bool g.dir, .slice an g.nodes.length cn, .slice ae g.edges.length ce] 25) := ⟨_, rfl⟩
  have hb1 : Below w.heap.size w w1 := by rw [hw1]; exact alloc_below w _
  have hz1 : w1.heap.size = w.heap.size + 1 := by rw [hw1]; simp
  have k0 : w1.cell? ⟨w.heap.size, 0, none⟩ = some (.bool g.dir) := by rw [hw1]; simp
  have k1 : w1.cell? ⟨w.heap.size, 1, none⟩ = some (.slice an g.nodes.length cn) := by rw [hw1]; simp
  have k2 : w1.cell? ⟨w.heap.size, 2, none⟩ = some (.slice ae g.edges.length ce) := by rw [hw1]; simp
  have hK : Hid (∀ wr, Below w1.heap.size w1 wr → (Below w.heap.size w wr ∧ GrAt wr g an cn ae) ∧ wr.cell? ⟨w.heap.size, 0, none⟩ = some (.bool g.dir) ∧ wr.cell? ⟨w.heap.size, 1, none⟩ = some (.slice an g.nodes.length cn) ∧ wr.cell? ⟨w.heap.size, 2, none⟩ = some (.slice ae g.edges.length ce)) :=
    fun wr h => ⟨⟨hb1.trans (h.mono (by omega)), (hg.below hb1).below h⟩, cell_below h k0, cell_below h k1, cell_below h k2⟩
  have hfits := Lib.hid (fits_any g an cn ae ce w1 hm hm')
  rw [hw1] at hfits
  have hw1h := Lib.hid hw1
  have h64h := Lib.hid h64
  clear hg hb1 hw1 k0 k1 k2 h64 hz1
  go_enter Tryz.func3, Tryz.ntmps3
  go_wp2_with fail
  refine (unhide hfits).mono ?_
  rintro e w2 ⟨rfl, hb2⟩
  rw [← hw1h.out] at hb2
  obtain ⟨⟨hbw2, hg2⟩, c0, c1, c2⟩ := hK.out w2 hb2
  have hb2h := Lib.hid hb2
  have hbw2h := Lib.hid hbw2
  rcases hf : fitsB g with _ | _
  · clear hb2 hbw2
    go_wp2_with fail
    go_ret
    exact ⟨rfl, hbw2h.out⟩
  have hfew := Lib.hid (few_any g an cn ae ce w2 40 (by omega) hg2)
  obtain ⟨fw, hfw⟩ : ∃ fw, fw = fewB g 40 := ⟨_, rfl⟩
  rw [← hfw] at hfew
  have hfwh := Lib.hid hfw
  clear hb2 hbw2 hg2 hfits hfw hf
  go_wp2_with fail
  refine (unhide hfew).mono ?_
  rintro e w3 ⟨rfl, hb3⟩
  have hb3' := hb2h.out.trans (hb3.mono hb2h.out.size)
  obtain ⟨⟨hbw3, hg3⟩, d0, d1, d2⟩ := hK.out w3 hb3'
  have hbw3h := Lib.hid hbw3
  have hb3h := Lib.hid hb3'
  have hg3h := Lib.hid hg3
  clear hb3 hb3' hbw3 hg3 hfew c0 c1 c2
  cases fw
  · go_wp2_with fail
    go_ret
    exact ⟨rfl, hbw3h.out⟩
  have hfw2 := hfwh.out.symm
  unfold fewB at hfw2
  rw [Bool.and_eq_true, Bool.and_eq_true] at hfw2
  have hn40 : g.nodes.length ≤ 40 := of_decide_eq_true hfw2.1.1
  have he320 : g.edges.length ≤ 8 * 40 := of_decide_eq_true hfw2.1.2
  have hok := Lib.hid hfw2.2
  have hc1 := Lib.hid (compl_any g an cn ae ce w3 (by omega) (by omega) hg3h.out hok.out h64h.out)
  clear hfwh hfw2 hm hm'
  go_wp2_with fail
  refine (unhide hc1).mono ?_
  rintro e w4 ⟨a1, c1, a2, c2, rfl, hG4, hb4⟩
  rw [show (compG g).dir = g.dir from rfl]
  obtain ⟨nc, hnc⟩ : ∃ nc, nc = (compG g).nodes.length := ⟨_, rfl⟩
  obtain ⟨mc, hmc⟩ : ∃ mc, mc = (compG g).edges.length := ⟨_, rfl⟩
  obtain ⟨w5, hw5⟩ : ∃ w5, w5 = w4.alloc (.cells #[.bool g.dir, .slice a1 nc c1, .slice a2 mc c2] 25) := ⟨_, rfl⟩
  have b5 : Below w4.heap.size w4 w5 := by rw [hw5]; exact alloc_below _ _
  have hb5 : Hid (Below w1.heap.size w1 w5) := hb3h.out.trans ((hb4.trans (b5.mono hb4.size)).mono hb3h.out.size)
  have hm16 := compG_edges_len hn40
  have hc2 := compl_any (compG g) a1 c1 a2 c2 w5 (by rw [compG_nodes_len]; omega) (by omega) (hG4.below b5) (compG_ok hok.out) (compG_in64 h64h.out)
  rw [show (compG g).dir = g.dir from rfl, ← hnc, ← hmc] at hc2
  rw [← hnc, ← hmc]
  have p0 : w5.cell? ⟨w4.heap.size, 0, none⟩ = some (.bool g.dir) := by rw [hw5]; simp
  have p1 : w5.cell? ⟨w4.heap.size, 1, none⟩ = some (.slice a1 nc c1) := by rw [hw5]; simp
  have p2 : w5.cell? ⟨w4.heap.size, 2, none⟩ = some (.slice a2 mc c2) := by rw [hw5]; simp
  have hG5 := hG4.below b5
  have hcomp := Lib.hid (fun (W : World) (hW : Below w5.heap.size w5 W) (hd : g.dir = false) => components_any (compG g) a1 c1 a2 c2 W (by rw [compG_nodes_len]; omega) (by omega) (hG5.below hW) (compG_ok hok.out) hd (compG_in64 h64h.out))
  rw [show (compG g).dir = g.dir from rfl, ← hnc, ← hmc] at hcomp
  have hP : Hid (∀ W, Below w5.heap.size w5 W → W.cell? ⟨w4.heap.size, 0, none⟩ = some (.bool g.dir) ∧ W.cell? ⟨w4.heap.size, 1, none⟩ = some (.slice a1 nc c1) ∧ W.cell? ⟨w4.heap.size, 2, none⟩ = some (.slice a2 mc c2)) := fun W hW => ⟨cell_below hW p0, cell_below hW p1, cell_below hW p2⟩
  have hc2h : Hid (Calls Tryz.prog 7 #[.agg #[.bool g.dir, .slice a1 nc c1, .slice a2 mc c2]] (w4.alloc (.cells #[.bool g.dir, .slice a1 nc c1, .slice a2 mc c2] 25)) (ComplPost w5 (compG g))) := by
    unfold Hid; rw [← hw5]; exact hc2
  clear hG4 hb4 hnc hmc hw5 b5 hm16 hc2 p0 p1 p2 hG5 d0 d1 d2 hc1
  go_wp2_with fail
  refine (unhide hc2h).mono ?_
  rintro e w6 ⟨b1, e1, b2, e2, rfl, hG6, hb6⟩
  obtain ⟨hf1, hf2, hf3, hf4, hf5⟩ := twice_facts hok.out
  obtain ⟨nn, hnn⟩ : ∃ nn, nn = (asc g.nodes).length := ⟨_, rfl⟩
  obtain ⟨mm, hmm⟩ : ∃ mm, mm = (flatE g).length := ⟨_, rfl⟩
  have hn2 : (compG (compG g)).nodes.length = nn := by rw [hf1, hnn]
  have hm2 : (compG (compG g)).edges.length = mm := by rw [hf4, hmm]
  have hmp : (plainE g).length = mm := by rw [hf5, hmm]
  have hnl : nn ≤ 40 := by rw [hnn, asc_length]; exact hn40
  have hml : mm ≤ 1600 := by
    rw [← hm2]
    exact compG_edges_len (by rw [compG_nodes_len]; exact hn40)
  rw [show (compG (compG g)).dir = g.dir from rfl, hn2, hm2]
  obtain ⟨w7, hw7⟩ : ∃ w7, w7 = w6.alloc (.cells #[.bool g.dir, .slice b1 nn e1, .slice b2 mm e2] 25) := ⟨_, rfl⟩
  have b7 : Below w6.heap.size w6 w7 := by rw [hw7]; exact alloc_below _ _
  have hb57 : Below w5.heap.size w5 w7 := hb6.trans (b7.mono hb6.size)
  have hb17 : Hid (Below w1.heap.size w1 w7) := hb5.out.trans (hb57.mono hb5.out.size)
  have q0 : w7.cell? ⟨w6.heap.size, 0, none⟩ = some (.bool g.dir) := by rw [hw7]; simp
  have q1 : w7.cell? ⟨w6.heap.size, 1, none⟩ = some (.slice b1 nn e1) := by rw [hw7]; simp
  have q2 : w7.cell? ⟨w6.heap.size, 2, none⟩ = some (.slice b2 mm e2) := by rw [hw7]; simp
  have hG7 := hG6.below b7
  have hS1 : Hid (∀ W, Below w7.heap.size w7 W → Calls Tryz.prog 9 #[.agg #[.bool g.dir, .slice b1 nn e1, .slice b2 mm e2]] W fun e w' => ∃ a c, e = .returned (.agg #[.bool g.dir, .slice b1 nn e1, .slice a mm c]) ∧ Cells w' a (edgeCells (flatE g)) ∧ Below W.heap.size W w' ∧ Below w7.heap.size w7 w' ∧ w'.cell? ⟨w.heap.size, 0, none⟩ = some (.bool g.dir) ∧ w'.cell? ⟨w.heap.size, 1, none⟩ = some (.slice an g.nodes.length cn) ∧ w'.cell? ⟨w.heap.size, 2, none⟩ = some (.slice ae g.edges.length ce)) := fun W hW => by
    have h := shape_any (compG (compG g)) b1 e1 b2 e2 W (by omega) (hG7.below hW).edges
    rw [show (compG (compG g)).dir = g.dir from rfl, hn2, hm2] at h
    refine h.mono ?_
    rintro e w' ⟨a, c, rfl, hc, hb⟩
    rw [hf2] at hc
    have hbb := hW.trans (hb.mono hW.size)
    refine ⟨a, c, by rw [show (compG (compG g)).dir = g.dir from rfl, hn2, hm2], hc, hb, hbb, ?_⟩
    exact (hK.out w' (hb17.out.trans (hbb.mono hb17.out.size))).2
  have hPl : Hid (∀ W, Below w7.heap.size w7 W → Calls Tryz.prog 10 #[.agg #[.bool g.dir, .slice an g.nodes.length cn, .slice ae g.edges.length ce]] W fun e w' => ∃ a c a' c', e = .returned (.agg #[.bool g.dir, .slice a nn c, .slice a' mm c']) ∧ GrAt w' (plainG g) a c a' ∧ Below W.heap.size W w' ∧ Below w7.heap.size w7 w') := fun W hW => by
    have h := plain_any g an cn ae ce W (by omega) (by omega) (hK.out W (hb17.out.trans (hW.mono hb17.out.size))).1.2 hok.out
    refine h.mono ?_
    rintro e w' ⟨a, c, a', c', rfl, hg, hb⟩
    exact ⟨a, c, a', c', by rw [← hnn, hmp], hg, hb, hW.trans (hb.mono hW.size)⟩
  have hS2 : Hid (∀ W a c a' c', Below w7.heap.size w7 W → GrAt W (plainG g) a c a' → Calls Tryz.prog 9 #[.agg #[.bool g.dir, .slice a nn c, .slice a' mm c']] W fun e w' => ∃ a'' c'', e = .returned (.agg #[.bool g.dir, .slice a nn c, .slice a'' mm c'']) ∧ Cells w' a'' (edgeCells (flatE g)) ∧ Below W.heap.size W w' ∧ Below w7.heap.size w7 w') := fun W a c a' c' hW hg => by
    have e1 : (plainG g).nodes.length = nn := hnn.symm
    have e2 : (plainG g).edges.length = mm := hmp
    have h := shape_any (plainG g) a c a' c' W (by omega) hg.edges
    rw [show (plainG g).dir = g.dir from rfl, e1, e2] at h
    refine h.mono ?_
    rintro e w' ⟨a2, c2, rfl, hc, hb⟩
    rw [show (plainG g).edges = plainE g from rfl, hf3] at hc
    exact ⟨a2, c2, by rw [show (plainG g).dir = g.dir from rfl, e1, e2], hc, hb, hW.trans (hb.mono hW.size)⟩
  have hb1c : Hid (∀ W, Below w7.heap.size w7 W → Cells W b1 (ints (asc g.nodes))) := fun W hW => by have := (hG7.below hW).nodes; rwa [hf1] at this
  have hSg : Hid (∀ W x cx y cy z cz, Below w7.heap.size w7 W → Cells W x (edgeCells (flatE g)) → Cells W y (ints (asc g.nodes)) → Cells W z (edgeCells (flatE g)) → Calls Tryz.prog 8 #[.agg #[.bool g.dir, .slice b1 nn e1, .slice x mm cx], .agg #[.bool g.dir, .slice y nn cy, .slice z mm cz]] W fun e w' => e = .returned (.bool true) ∧ Below w7.heap.size w7 w') := fun W x cx y cy z cz hW h1 h2 h3 =>
    (sameGraph_true g.dir (asc g.nodes) (flatE g) b1 x y z nn mm e1 cy cx cz W hnn hmm (by omega) (by omega) (hb1c.out W hW) h2 h1 h3).mono fun e w' ⟨k1, k2⟩ => ⟨k1, hW.trans (k2.mono hW.size)⟩
  have hBu : Hid (∀ W, Below w7.heap.size w7 W → Calls Tryz.prog 11 #[] W fun e w' => e = .returned (.bool true) ∧ Below w7.heap.size w7 w') := fun W hW =>
    (builds_any W).mono fun e w' ⟨k1, k2⟩ => ⟨k1, hW.trans (k2.mono hW.size)⟩
  obtain ⟨_, d0, d1, d2⟩ := hK.out w7 hb17.out
  have hb57h := Lib.hid hb57
  have hw7h := Lib.hid hw7
  clear hf1 hf2 hf3 hf4 hf5 hnn hmm hn2 hm2 hmp hw7 b7 hb57 hG7 hb6 hG6 hb5 hc2h hnl hml
  go_wp2_with fail
  rw [← hw7h.out]
  clear hw7h
  have hb0 := Below.refl w7.heap.size w7
  go_region_law (first
    | (go_simp; go_at_call 9; (with_reducible refine (hS1.out _ (by repeat (first | exact hb0 | refine Below.drew ?_))).mono ?_); rintro e wA ⟨x, cx, rfl, hx, hbA', hbA, dA0, dA1, dA2⟩)
    | (go_simp; go_at_call 10; (with_reducible refine (hPl.out _ hbA).mono ?_); rintro e wB ⟨y, cy, z, cz, rfl, hGB, hbB', hbB⟩)
    | (go_simp; go_at_call 9; (with_reducible refine (hS2.out _ _ _ _ _ hbB hGB).mono ?_); rintro e wC ⟨v, cv, rfl, hv, hbC', hbC⟩)
    | (go_simp; go_at_call 8; (with_reducible refine (hSg.out _ _ _ _ _ _ _ hbC ((hx.below hbB').below hbC') (hGB.nodes.below hbC') hv).mono ?_); rintro e wD ⟨rfl, hbD⟩)
    | (go_simp; go_at_call 11; (with_reducible refine (hBu.out _ hbD).mono ?_); rintro e wE ⟨rfl, hbE⟩))
  all_goals
    have hb1E : Hid (Below w1.heap.size w1 wE) := hb17.out.trans (hbE.mono hb17.out.size)
    have hb5E : Hid (Below w5.heap.size w5 wE) := hb57h.out.trans (hbE.mono hb57h.out.size)
    obtain ⟨⟨hbwE, hgE⟩, c0, c1, c2⟩ := hK.out wE hb1E.out
    have hfin := Lib.hid hbwE
    have hgEh := Lib.hid hgE
    clear hbE hbD hbC hbC' hv hbB hbB' hGB hbA hbA' hx dA0 dA1 dA2 hb0 hBu hSg hS2 hPl hS1 hb1c q0 q1 q2 d0 d1 d2 hbwE hgE
    rcases hd : g.dir with _ | _
    · by_cases hn0 : g.nodes.length = 0
      · clear c2
        rw [hd] at c0
        rw [hn0] at c1
        go_wp2_with fail
        go_ret
        exact ⟨rfl, hfin.out⟩
      · have hn0' : decide ((g.nodes.length : Int) = 0) = false := decide_eq_false (by omega)
        have hcA := Lib.hid (components_any g an cn ae ce wE (by omega) (by omega) hgEh.out hok.out hd h64h.out)
        rw [hd] at c0 hcA
        have hdh := Lib.hid hd
        have hne : Hid (g.nodes ≠ []) := fun e => hn0 (by rw [e]; rfl)
        have hcB := Lib.hid (fun (W : World) (hW : Below w5.heap.size w5 W) => hcomp.out W hW hd)
        have hP' := hP
        rw [hd] at hcB hP'
        clear hd hcomp hP
        go_wp2_with fail
        refine (unhide hcA).mono ?_
        rintro e wF ⟨M, la, lc, hM, rfl, _, hbF⟩
        have hb5F : Hid (Below w5.heap.size w5 wF) := hb5E.out.trans (hbF.mono hb5E.out.size)
        have hb1F : Hid (Below w1.heap.size w1 wF) := hb1E.out.trans (hbF.mono hb1E.out.size)
        obtain ⟨p0, p1, p2⟩ := hP'.out wF hb5F.out
        have hcBF := Lib.hid (hcB.out wF hb5F.out)
        have hMh := Lib.hid hM
        obtain ⟨n, hnM⟩ : ∃ n, n = M.length := ⟨_, rfl⟩
        rw [← hnM]
        have hnMh := Lib.hid hnM
        clear hbF hM hnM hcA hcB hP' c0 c1 c2 hn0 hn0'
        go_wp2_with fail
        refine (unhide hcBF).mono ?_
        rintro e wG ⟨M', la', lc', hM', rfl, _, hbG⟩
        have hone := one_of_two hok.out hdh.out hne.out hMh.out hM'
        rw [← hnMh.out] at hone
        obtain ⟨n', hnM'⟩ : ∃ n', n' = M'.length := ⟨_, rfl⟩
        rw [← hnM'] at hone ⊢
        have hfin2 : Hid (Below w.heap.size w wG) := (hK.out wG (hb1F.out.trans (hbG.mono hb1F.out.size))).1.1
        clear hbG hM' hnM' hcBF p0 p1 p2
        by_cases h1 : n = 1
        · subst h1
          clear hone
          go_wp2_with fail
          go_ret
          exact ⟨rfl, hfin2.out⟩
        · have h2 : n' = 1 := by omega
          subst h2
          have h1' : decide ((n : Int) = 1) = false := decide_eq_false (by omega)
          clear hone
          go_wp2_with fail
          go_ret
          exact ⟨rfl, hfin2.out⟩
    · rw [hd] at c0
      clear c1 c2
      go_wp2_with fail
      go_ret
      exact ⟨rfl, hfin.out⟩
end Go.Proofs.YtanbhibllilccaaGreat

namespace Go.Proofs.YtanbhibllilccaaGreat
open Go.ChangeShapes Go.WideShapes Go.ChangeAt Go.RowKit

set_option maxRecDepth 100000 in
theorem complementTwice_lifted (os : Os) (started : os.Started) (H : Type) (enc : TypeId × Value → H) :
    ReturnsInHanded {} Tryz.checked os 3 .any (Rows.fnComplementTwiceSpec.pre6 enc Tryz.prog Tryz.f3 Rows.fnComplementTwiceRow.domain false) (Rows.fnComplementTwiceSpec.post enc Tryz.prog Tryz.f3 false true false false) := by
  refine returnsInHanded_of_change (C := Tryz.checked) own_knob started (by kernel_rfl) Tryz.func3
    (ChangeSpec.witness6 (enc := enc) (C := Tryz.checked) false ⟨#[], #[.agg #[.bool false, .slice none 0 0, .slice none 0 0]], []⟩ 8 (by kernel_rfl) (by kernel_rfl) (by kernel_rfl) (by kernel_rfl)) ?_
  intro W base args ds gs before hval0 hW hcnd _
  have hval : ∀ (j : Nat) t v, Tryz.f3.params[j]? = some t → args[j]? = some v → Value.okWide Tryz.prog W .any base t v := hval0
  have hW' := hW
  obtain ⟨p, q, hA0, hV, rfl, hfz, hnd⟩ := hW
  have hA : DataW.TrodAll enc Tryz.prog W 0 (fun _ => true) true Tryz.f3.params.toList args.toList ds p := hA0
  rw [Tryz.params3] at hA hval
  obtain ⟨v0, d0, rfl, rfl, h0⟩ := trodAll_one hA
  obtain ⟨rfl, rfl⟩ := trodVars_none hV
  obtain ⟨a, an, cn, ae, ce, rfl, hga, h64, l1, l2⟩ := open_graph (hval 0 25 v0 rfl rfl) h0
  clear hA0 hval0
  unfold maxLen at l1 l2
  refine (twice_any a an cn ae ce W (by omega) (by omega) hga h64).mono fun e W' ⟨he, hb⟩ => ?_
  subst he
  have hlt0 : ∀ x ∈ p, x.block < W.heap.size := fun x hx => hW'.lt x (by simp [hx])
  refine ⟨_, rfl, post_below (pa := p) (pv := []) hW' (fun _ _ _ => trodAll_mk1 (shut_bool Tryz.underlying4 true)) (fun sp hsp => ?_) (fun _ _ => rfl) (by simp) hb (ok_one (by kernel_rfl) rfl (okWide_bool_mk Tryz.underlying4 true))⟩
  exact trodAll_mk1 (WideElems.Trod_stays laid_out (by kernel_rfl) (of_decide_eq_true (by kernel_rfl)) h0 (fun x hx => hb.same (hlt0 x hx)) (fun x hx => hsp x (by simp [hx])))

theorem complementTwice_holds : Rows.FnComplementTwiceSaid :=
  OpenClaim.holds_of_wide 3 Tryz.f3 rfl rfl rfl rfl rfl rfl rfl ⟨rfl, rfl, rfl, rfl, rfl⟩ rfl rfl rfl rfl rfl (by kernel_rfl) Tryz.func3 (by kernel_rfl)
    (of_decide_eq_true (by kernel_rfl)) (by unfold Func.isWrapper; rw [if_neg (by decide +kernel)]; exact ⟨rfl, rfl⟩)
    (fun os started H enc _ => complementTwice_lifted os started H enc)

#print axioms complementTwice_holds

end Go.Proofs.YtanbhibllilccaaGreat
