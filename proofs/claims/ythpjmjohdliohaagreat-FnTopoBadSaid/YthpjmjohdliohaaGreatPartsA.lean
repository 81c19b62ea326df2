/- The functions of package laws that look at a graph: zzFits1, well, few, arc.
   laws.fewOf.
   slices.Equal at []int and []bool.
   laws.fewOf; laws.parts where it answers true.
   FnSCCOrder: the plain law.
   topo.sortedFrom: rows of nodes, one of which is sorted where it stands; what Sort tells.
   topo.sortedFrom: what stands in memory while the lists are made. -/
import Derived.Test.YthpjmjohdliohaaGreatIntsA
import Derived.Test.YthpjmjohdliohaaGreatBase
import Derived.Test.YthpjmjohdliohaaGreatProg
import Derived.KernelRfl
import Derived.Deep.QuietTactic
import Derived.BigQuiet
import Derived.Test.YthpjmjohdliohaaGreatNumA
import Derived.Test.YthpjmjohdliohaaGreatNodesT
namespace Go.Proofs.YthpjmjohdliohaaGreat
open Go.RowKit

set_option maxHeartbeats 1000000 in
theorem well_any (g : Gr) (an : Option Addr) (cn : Nat) (ae : Option Addr) (ce : Nat) (w : World) (hn : g.nodes.length ≤ 1048576) (he : g.edges.length ≤ 1048576) (hg : GrAt w g an cn ae) :
    Calls Tryz.prog 6 #[.agg #[.bool g.dir, .slice an g.nodes.length cn, .slice ae g.edges.length ce]] w fun e w' => e = .returned (.bool (okGraph g)) ∧ Below w.heap.size w w' := by
  have hs := Lib.hid (sorted_any an _ cn g.nodes (w.alloc (.cells #[.bool g.dir, .slice an g.nodes.length cn, .slice ae g.edges.length ce] 25)) rfl hn (hg.nodes.alloc _) hg.none)
  go_enter Tryz.func6, Tryz.ntmps6
  go_wp2_with fail
  refine (unhide hs).mono ?_
  rintro e w1 ⟨a1, cap1, rfl, hown, hn1, hb⟩
  have hb0 : Below w.heap.size w w1 := (alloc_below w _).trans (hb.mono (by simp))
  have hsz : w.heap.size + 1 ≤ w1.heap.size := by have := hb.size; simpa using this
  have k0 : w1.cell? ⟨w.heap.size, 0, none⟩ = some (.bool g.dir) := by rw [hb.cell (by simp)]; simp
  have k1 : w1.cell? ⟨w.heap.size, 1, none⟩ = some (.slice an g.nodes.length cn) := by rw [hb.cell (by simp)]; simp
  have k2 : w1.cell? ⟨w.heap.size, 2, none⟩ = some (.slice ae g.edges.length ce) := by rw [hb.cell (by simp)]; simp
  clear hs
  have hasc := asc_length g.nodes
  obtain ⟨a2, cap2, hv, _, hcl, _⟩ := owns_cells hown
  injection hv with hv1 hv2 hv3
  subst hv1; subst hv3
  have hr := Lib.hid (rising_any a1 _ cap1 (asc g.nodes) w1 hasc.symm (by omega) hcl)
  clear hown hcl hasc
  go_wp2_with fail
  refine (unhide hr).mono ?_
  rintro e w' ⟨rfl, n1, rfl⟩
  clear hr
  rw [incr_asc]
  by_cases hnd : g.nodes.Nodup
  · have hd : decide g.nodes.Nodup = true := decide_eq_true hnd
    obtain ⟨w2, hw2⟩ : ∃ w2, w2 = w1.drewN n1 := ⟨_, rfl⟩
    have hb2 : Below w.heap.size w w2 := by rw [hw2]; exact below_draws hb0 _
    have hz2 : w.heap.size + 1 ≤ w2.heap.size := by rw [hw2]; exact hsz
    have j0 : w2.cell? ⟨w.heap.size, 0, none⟩ = some (.bool g.dir) := by rw [hw2]; exact k0
    have j1 : w2.cell? ⟨w.heap.size, 1, none⟩ = some (.slice an g.nodes.length cn) := by rw [hw2]; exact k1
    have j2 : w2.cell? ⟨w.heap.size, 2, none⟩ = some (.slice ae g.edges.length ce) := by rw [hw2]; exact k2
    rw [← hw2]
    clear hw2 k0 k1 k2 hb0 hsz hb
    go_wp2_with fail
    go_loopw [3] (fun i wr => ∃ k : Nat, k ≤ g.edges.length ∧ i = .int .i64 k ∧ (∀ j (hj : j < g.edges.length), j < k → okEdge g.nodes g.edges[j] = true) ∧
      Below w.heap.size w wr ∧ Below (w.heap.size + 1) w2 wr) (fun i _ => g.edges.length - (intOf i).toNat)
    case atStart => exact ⟨0, Nat.zero_le _, rfl, fun j _ hj => absurd hj (Nat.not_lt_zero _), hb2, Below.refl _ _⟩
    case round =>
      obtain ⟨k, hk, rfl, H0, hbr, hb2r⟩ := hrel
      have H := Lib.hid H0
      have hzr : w.heap.size + 1 ≤ wr.heap.size := Nat.le_trans hz2 hb2r.size
      have k0 : wr.cell? ⟨w.heap.size, 0, none⟩ = some (.bool g.dir) := by rw [hb2r.cell (by simp)]; exact j0
      have k1 : wr.cell? ⟨w.heap.size, 1, none⟩ = some (.slice an g.nodes.length cn) := by rw [hb2r.cell (by simp)]; exact j1
      have k2 : wr.cell? ⟨w.heap.size, 2, none⟩ = some (.slice ae g.edges.length ce) := by rw [hb2r.cell (by simp)]; exact j2
      have hgr := hg.below hbr
      have hN : ∀ o, Cells (wr.alloc o) an (ints g.nodes) := fun o => hgr.nodes.alloc o
      clear H0 j0 j1 j2
      by_cases hlt : k < g.edges.length
      · obtain ⟨b, off, rfl, hbl, hr⟩ := hgr.edges.at (by rw [edgeCells_length]; omega)
        obtain ⟨e1, e2, e3⟩ := edge_cells hr hlt
        clear hr hgr
        obtain ⟨u, v, x, hux⟩ : ∃ u v x, g.edges[k] = (u, v, x) := ⟨_, _, _, rfl⟩
        rw [hux] at e1 e2 e3
        have hu := Lib.hid hux
        clear hux
        simp only [] at e1 e2 e3
        have m1 : ∀ o, (wr.alloc o).cell? ⟨w.heap.size, 1, none⟩ = some (.slice an g.nodes.length cn) := fun o => cell_alloc k1 o
        by_cases t1 : u = v
        · subst t1
          have hfin : Hid (okGraph g = false) := okGraph_false hlt (by rw [hu.out]; simp [okEdge])
          go_wp2
          go_ret
          exact ⟨ret_bool hfin.out.symm, hbr.alloc (by omega) _⟩
        · have t1' : (u == v) = false := by simpa using t1
          by_cases t2 : u ∈ g.nodes
          · have t2' : decide (u ∈ g.nodes) = true := decide_eq_true t2
            by_cases t3 : v ∈ g.nodes
            · have t3' : decide (v ∈ g.nodes) = true := decide_eq_true t3
              by_cases t4 : 1099511627776 < x
              · have hfin : Hid (okGraph g = false) := okGraph_false hlt (by rw [hu.out]; simp [okEdge]; omega)
                clear t1 t2 t3
                go_wp2_with (go_at_call 18; refine (has_any _ _ _ _ _ _ rfl (by omega) (hN _)).mono ?_; rintro e w' ⟨rfl, rfl⟩)
                go_ret
                exact ⟨ret_bool hfin.out.symm, hbr.alloc (by omega) _⟩
              · by_cases t5 : x < -1099511627776
                · have hfin : Hid (okGraph g = false) := okGraph_false hlt (by rw [hu.out]; simp [okEdge]; omega)
                  clear t1 t2 t3
                  go_wp2_with (go_at_call 18; refine (has_any _ _ _ _ _ _ rfl (by omega) (hN _)).mono ?_; rintro e w' ⟨rfl, rfl⟩)
                  go_ret
                  exact ⟨ret_bool hfin.out.symm, hbr.alloc (by omega) _⟩
                · have hnext : Hid (∀ j (hj : j < g.edges.length), j < k + 1 → okEdge g.nodes g.edges[j] = true) := fun j hj hlt' => by
                    rcases Nat.lt_or_eq_of_le (Nat.le_of_lt_succ hlt') with h | h
                    · exact H.out j hj h
                    · subst h; rw [hu.out]; simp [okEdge, t1, t2, t3]; omega
                  clear t1 t2 t3
                  go_wp2_with (go_at_call 18; refine (has_any _ _ _ _ _ _ rfl (by omega) (hN _)).mono ?_; rintro e w' ⟨rfl, rfl⟩)
                  go_roundw
                  case rel => exact ⟨k + 1, by omega, by go_num, hnext.out, hbr.alloc (by omega) _, hb2r.alloc (by omega) _⟩
                  case measure => simp [intOf]; omega
            · have t3' : decide (v ∈ g.nodes) = false := decide_eq_false t3
              have hfin : Hid (okGraph g = false) := okGraph_false hlt (by rw [hu.out]; simp [okEdge, t3])
              clear t1 t2 t3
              go_wp2_with (go_at_call 18; refine (has_any _ _ _ _ _ _ rfl (by omega) (hN _)).mono ?_; rintro e w' ⟨rfl, rfl⟩)
              go_ret
              exact ⟨ret_bool hfin.out.symm, hbr.alloc (by omega) _⟩
          · have t2' : decide (u ∈ g.nodes) = false := decide_eq_false t2
            have hfin : Hid (okGraph g = false) := okGraph_false hlt (by rw [hu.out]; simp [okEdge, t2])
            clear t1 t2
            go_wp2_with (go_at_call 18; refine (has_any _ _ _ _ _ _ rfl (by omega) (hN _)).mono ?_; rintro e w' ⟨rfl, rfl⟩)
            go_ret
            exact ⟨ret_bool hfin.out.symm, hbr.alloc (by omega) _⟩
      · have hfin : Hid (okGraph g = true) := by
          simp only [okGraph, hd, Bool.true_and, Hid]
          exact List.all_eq_true.2 fun e he => by
            obtain ⟨j, hj, rfl⟩ := List.mem_iff_getElem.1 he
            exact H.out j hj (by omega)
        go_wp2
        go_ret
        exact ⟨ret_bool hfin.out.symm, hbr⟩
  · have hd : decide g.nodes.Nodup = false := decide_eq_false hnd
    have hfin : Hid (okGraph g = false) := by simp [okGraph, hd, Hid]
    go_wp2
    go_ret
    exact ⟨ret_bool hfin.out.symm, below_draws hb0 _⟩

/-- Whether a graph is not bad, and has at most so many nodes, and eight times as many edges. -/
def fewB (g : Gr) (n : Nat) : Bool := decide (g.nodes.length ≤ n) && decide (g.edges.length ≤ 8 * n) && okGraph g

/-- Whether a graph's lists are no longer than zzMost. -/
def fitsB (g : Gr) : Bool := decide (g.nodes.length ≤ 2147483647) && decide (g.edges.length ≤ 2147483647)

theorem fits_any (g : Gr) (an : Option Addr) (cn : Nat) (ae : Option Addr) (ce : Nat) (w : World) (hm : g.nodes.length ≤ 9223372036854775807) (hm' : g.edges.length ≤ 9223372036854775807) :
    Calls Tryz.prog 4 #[.agg #[.bool g.dir, .slice an g.nodes.length cn, .slice ae g.edges.length ce]] w fun e w' => e = .returned (.bool (fitsB g)) ∧ Below w.heap.size w w' := by
  by_cases h1 : g.nodes.length ≤ 2147483647
  · by_cases h2 : g.edges.length ≤ 2147483647
    · have hfin : Hid (fitsB g = true) := by simp [fitsB, h1, h2, Hid]
      go_enter Tryz.func4, Tryz.ntmps4
      go_wp2
      go_ret
      exact ⟨ret_bool hfin.out.symm, alloc_below w _⟩
    · have hfin : Hid (fitsB g = false) := by simp [fitsB, h2, Hid]
      go_enter Tryz.func4, Tryz.ntmps4
      go_wp2
      go_ret
      exact ⟨ret_bool hfin.out.symm, alloc_below w _⟩
  · have hfin : Hid (fitsB g = false) := by simp [fitsB, h1, Hid]
    go_enter Tryz.func4, Tryz.ntmps4
    go_wp2
    go_ret
    exact ⟨ret_bool hfin.out.symm, alloc_below w _⟩
end Go.Proofs.YthpjmjohdliohaaGreat

namespace Go.Proofs.YthpjmjohdliohaaGreat
open Go.RowKit

end Go.Proofs.YthpjmjohdliohaaGreat

namespace Go.Proofs.YthpjmjohdliohaaGreat
open Go.RowKit

/-- A list of Booleans as cells. -/
def bools (zs : List Bool) : List Value := zs.map Value.bool
theorem bools_length (zs : List Bool) : (bools zs).length = zs.length := by simp [bools]
theorem bools_get (zs : List Bool) (j : Nat) (h : j < zs.length) : (bools zs)[j]? = some (.bool zs[j]) := by simp [bools, h]

end Go.Proofs.YthpjmjohdliohaaGreat

namespace Go.Proofs.YthpjmjohdliohaaGreat
open Go.RowKit

theorem cells_adds {w : World} {ad : Addr} {zs : List Int} (h : Cells w (some ad) (ints zs)) : ∀ j u, (ints zs)[j]? = some u → w.cell? (ad.add j) = some u := h.add

end Go.Proofs.YthpjmjohdliohaaGreat

namespace Go.Proofs.YthpjmjohdliohaaGreat
open Go.RowKit

theorem flatten_asc (l : List (List Int)) : (l.map asc).flatten.Perm l.flatten := by
  induction l with
  | nil => exact List.Perm.refl _
  | cons c l ih => simp only [List.map_cons, List.flatten_cons]; exact (asc_perm c).append ih

theorem nodup_perm {l m : List Int} (hl : l.Nodup) (hm : m.Nodup) (h : ∀ x, x ∈ l ↔ x ∈ m) : l.Perm m := by
  induction l generalizing m with
  | nil =>
    have : m = [] := List.eq_nil_iff_forall_not_mem.2 fun x hx => by have := (h x).2 hx; cases this
    rw [this]
  | cons a l ih =>
    have hn := List.nodup_cons.1 hl
    have ha : a ∈ m := (h a).1 List.mem_cons_self
    have h1 : l.Perm (m.erase a) := ih hn.2 (hm.erase a) fun x => by
      rw [hm.mem_erase_iff]
      constructor
      · intro hx
        exact ⟨fun e => hn.1 (e ▸ hx), (h x).1 (List.mem_cons_of_mem _ hx)⟩
      · rintro ⟨h1, h2⟩
        rcases List.mem_cons.1 ((h x).2 h2) with e | e
        · exact absurd e h1
        · exact e
    exact (h1.cons a).trans (List.perm_cons_erase ha).symm

theorem asc_of_perm {l m : List Int} (h : l.Perm m) : asc l = asc m := asc_unique ((asc_perm l).trans h) (asc_sorted l)

structure OrderOk (g : Gr) (L : List (List Int)) : Prop where
  ne : ∀ x ∈ L, x ≠ []
  inc : ∀ x ∈ L, incr x = true
  perm : asc L.flatten = asc g.nodes
  len : L.flatten.length = g.nodes.length
  cnt : L.length ≤ g.nodes.length
  law : ∀ k (hk : k < L.length) i (hi : i < g.edges.length), g.edges[i].1 ∈ L[k] → (L.take (k + 1)).any (fun c => decide (g.edges[i].2.1 ∈ c)) = true

theorem order_ok {g : Gr} (hok : okGraph g = true) : OrderOk g (gSccs g) := by
  have hok' := hok
  unfold okGraph at hok'
  rw [Bool.and_eq_true, List.all_eq_true] at hok'
  have hnd : g.nodes.Nodup := of_decide_eq_true hok'.1
  have hs : SccOk (asc g.nodes) (gSucc g) (sccsOf (gSucc g) (asc g.nodes)) := sccs_ok fun x hx y hy => asc_mem.2 ((gSucc_mem hok (asc_mem.1 hx)).1 hy).1
  unfold gSccs
  obtain ⟨M, hM⟩ : ∃ M, M = sccsOf (gSucc g) (asc g.nodes) := ⟨_, rfl⟩
  rw [← hM] at hs ⊢
  have hp1 := flatten_asc M
  have hp2 : M.flatten.Perm g.nodes := nodup_perm hs.nd hnd fun x => by rw [hs.mem x, asc_mem]
  have hp := hp1.trans hp2
  have hcn : ∀ c ∈ M, c.Nodup := fun c hc => by
    have h1 := hs.nd
    have : ∀ (l : List (List Int)), l.flatten.Nodup → ∀ c ∈ l, c.Nodup := fun l => by
      induction l with
      | nil => intro _ c hc; cases hc
      | cons d l ih =>
        intro hl c hc
        rw [List.flatten_cons, List.nodup_append] at hl
        rcases List.mem_cons.1 hc with e | e
        · exact e ▸ hl.1
        · exact ih hl.2.1 c e
    exact this M h1 c hc
  have hne : ∀ x ∈ M.map asc, x ≠ [] := fun x hx e => by
    obtain ⟨c, hc, rfl⟩ := List.mem_map.1 hx
    have h1 := List.length_pos_iff.2 (hs.ne c hc)
    have h2 := asc_length c
    rw [e] at h2
    simp at h2; omega
  refine ⟨hne, fun x hx => ?_, asc_of_perm hp, hp.length_eq, ?_, fun k hk i hi hm => ?_⟩
  · obtain ⟨c, hc, rfl⟩ := List.mem_map.1 hx
    rw [incr_asc]; exact decide_eq_true (hcn c hc)
  · have := flatten_len hne
    rw [hp.length_eq] at this; exact this
  · have hk' : k < M.length := by rw [List.length_map] at hk; exact hk
    have hoke := of_decide_eq_true (hok'.2 _ (List.getElem_mem hi))
    rw [List.getElem_map, asc_mem] at hm
    have hsucc : g.edges[i].2.1 ∈ gSucc g g.edges[i].1 := (gSucc_mem hok hoke.2.1).2 ⟨hoke.2.2.1, arcB_true hi (by unfold hits; simp)⟩
    have h1 := hs.closed k hk' g.edges[i].1 (by simpa [hk'] using hm) _ hsucc
    obtain ⟨c, hc, hcm⟩ := List.mem_flatten.1 h1
    rw [← List.map_take, List.any_map, List.any_eq_true]
    exact ⟨c, hc, by simpa [asc_mem] using hcm⟩

/-- What the innermost loop has found. -/
def foundB (L : List (List Int)) (y : Int) (j : Nat) : Bool := (L.take j).any fun c => decide (y ∈ c)
theorem foundB_zero (L : List (List Int)) (y : Int) : foundB L y 0 = false := rfl
theorem foundB_succ (L : List (List Int)) (y : Int) (j : Nat) (hj : j < L.length) : foundB L y (j + 1) = (foundB L y j || decide (y ∈ L[j])) := by
  unfold foundB
  rw [List.take_succ_eq_append_getElem hj, List.any_append]; simp

/-- A row of a list of lists, as it is read. -/
theorem row_at {w : World} {D c : Nat} {a : Option Addr} {vs : List Value} {l : List (List Int)} (ho : w.ownsRow D 22 1 (.slice a l.length c) l.length vs) (hr : IRows w D vs l) (k : Nat) (hk : k < l.length) :
    ∃ g ag cg, a = some ⟨g, 0, none⟩ ∧ w.cell? ⟨g, k, none⟩ = some (.slice ag l[k].length cg) ∧ Cells w ag (ints l[k]) := by
  have hvl : vs.length = l.length := hr.1
  have hv : vs[k]? = some (vs[k]'(by omega)) := List.getElem?_eq_getElem _
  have hrow := hr.2 k _ _ hv (List.getElem?_eq_getElem hk)
  obtain ⟨ag, cg, e, _, hcs, _⟩ := owns_cells hrow
  rw [e] at hv
  obtain ⟨g, rfl, _⟩ := owns_at ho (by omega)
  exact ⟨g, ag, cg, rfl, owns_cell ho hv, hcs⟩
end Go.Proofs.YthpjmjohdliohaaGreat

namespace Go.Proofs.YthpjmjohdliohaaGreat
open Go.RowKit

/-- One row is written where it stands; the others stay. -/
theorem NRows.turn {w w' : World} {B k : Nat} {vs : List Value} {l : List (List Int)} {v : Value} {c : List Int} (h : NRows w B vs l) (hnd : (blks vs).Nodup) (hv : vs[k]? = some v)
    (hnew : w'.ownsRow B 85 1 v c.length (nodes c)) (hg : w.grownBy w' v.ownBlock) : NRows w' B vs (l.set k c) := by
  refine ⟨by rw [List.length_set]; exact h.1, fun j u d hu hd => ?_⟩
  by_cases hjk : k = j
  · subst hjk
    rw [hv] at hu
    injection hu with hu
    subst hu
    have hk : k < l.length := by rw [← h.1]; exact (List.getElem?_eq_some_iff.1 hv).1
    rw [List.getElem?_set_self hk] at hd
    injection hd with hd
    subst hd
    exact hnew
  · rw [List.getElem?_set_ne hjk] at hd
    refine (h.2 j u d hu hd).kept hg ?_
    rcases hub : u.ownBlock with _ | a
    · exact .inl rfl
    · exact .inr fun e => hjk (blks_apart hnd hv hu e.symm hub)

theorem asc_one {c : List Int} (h : c.length = 1) : asc c = c := by
  match c, h with
  | [a], _ => exact List.perm_singleton.1 (asc_perm [a])

/-- The components, the first k of them sorted. -/
def rowsUp (M : List (List Int)) (k : Nat) : List (List Int) := (M.take k).map asc ++ M.drop k
theorem rowsUp_zero (M : List (List Int)) : rowsUp M 0 = M := by simp [rowsUp]
theorem rowsUp_end (M : List (List Int)) : rowsUp M M.length = M.map asc := by simp [rowsUp]
theorem rowsUp_get {M : List (List Int)} {k : Nat} (hk : k < M.length) : (rowsUp M k)[k]? = some M[k] := by
  unfold rowsUp
  have hl : ((M.take k).map asc).length = k := by rw [List.length_map, List.length_take]; omega
  rw [List.getElem?_append_right (by omega), hl, Nat.sub_self, List.drop_eq_getElem_cons hk, List.getElem?_cons_zero]
theorem rowsUp_succ {M : List (List Int)} {k : Nat} (hk : k < M.length) : rowsUp M (k + 1) = (rowsUp M k).set k (asc M[k]) := by
  unfold rowsUp
  have hl : ((M.take k).map asc).length = k := by rw [List.length_map, List.length_take]; omega
  rw [List.set_append_right _ _ (by omega), hl, Nat.sub_self, List.drop_eq_getElem_cons hk, List.set_cons_zero, List.take_succ_eq_append_getElem hk, List.map_append, List.append_assoc]
  rfl

/-- What Sort tells of a component: its node, or none. -/
def topV (c : List Int) : Value := if c.length = 1 then nodev (c.headD 0) else .nilIface
/-- The components of more than one node among the first k: their slices, and what stands in them. -/
def cycV (vs : List Value) (M : List (List Int)) : Nat → List Value
  | 0 => []
  | k + 1 => if (M.getD k []).length = 1 then cycV vs M k else cycV vs M k ++ [vs.getD k .nilIface]
def cycL (M : List (List Int)) : Nat → List (List Int)
  | 0 => []
  | k + 1 => if (M.getD k []).length = 1 then cycL M k else cycL M k ++ [asc (M.getD k [])]

theorem NRows.cyc {w : World} {B : Nat} {vs : List Value} {M : List (List Int)} (h : NRows w B vs (M.map asc)) : ∀ k, k ≤ M.length → NRows w B (cycV vs M k) (cycL M k)
  | 0, _ => ⟨rfl, fun j v c hv => by simp [cycV] at hv⟩
  | k + 1, hk => by
    have ih := h.cyc k (by omega)
    unfold cycV cycL
    by_cases h1 : (M.getD k []).length = 1
    · rw [if_pos h1, if_pos h1]; exact ih
    · rw [if_neg h1, if_neg h1]
      have hvl : vs.length = M.length := by rw [h.1, List.length_map]
      have hv : vs[k]? = some (vs.getD k .nilIface) := by
        have : k < vs.length := by omega
        simp [this]
      have hm : (M.map asc)[k]? = some (asc (M.getD k [])) := by
        have : k < M.length := by omega
        simp [this]
      exact ih.more (h.2 k _ _ hv hm)

theorem cycL_none {M : List (List Int)} (h : ∀ c ∈ M, c.length = 1) : ∀ k, k ≤ M.length → cycL M k = []
  | 0, _ => rfl
  | k + 1, hk => by
    have hk' : k < M.length := by omega
    unfold cycL
    rw [if_pos (by have := h M[k] (List.getElem_mem hk'); simpa [hk'] using this)]
    exact cycL_none h k (by omega)
end Go.Proofs.YthpjmjohdliohaaGreat

namespace Go.Proofs.YthpjmjohdliohaaGreat
open Go.RowKit

theorem NRows.rev {w : World} {B : Nat} {vs : List Value} {l : List (List Int)} (h : NRows w B vs l) : NRows w B vs.reverse l.reverse := by
  refine ⟨by rw [List.length_reverse, List.length_reverse]; exact h.1, fun k v c hv hc => ?_⟩
  have hk : k < vs.length := by
    have := (List.getElem?_eq_some_iff.1 hv).1
    rwa [List.length_reverse] at this
  rw [List.getElem?_reverse hk] at hv
  rw [List.getElem?_reverse (by rw [← h.1]; exact hk), ← h.1] at hc
  exact h.2 _ v c hv hc

theorem cyc_len (vs : List Value) (M : List (List Int)) : ∀ k, (cycV vs M k).length = (cycL M k).length
  | 0 => rfl
  | k + 1 => by
    unfold cycV cycL
    split
    · exact cyc_len vs M k
    · rw [List.length_append, List.length_append, cyc_len vs M k]; rfl

/-- The lists in the making: the order in sa, the cyclic components in sb; the rows of the components at and above B, of which some were sorted. -/
structure SF (w0 w : World) (B : Nat) (vs xs ys : List Value) (l : List (List Int)) (sa sb : Value) : Prop where
  own : w.ownsRow w0.heap.size 85 1 sa xs.length xs
  sco : w.ownsRow w0.heap.size 50 1 sb ys.length ys
  ap : ∀ j, sa.ownBlock = some j → sb.ownBlock ≠ some j
  nil : ys = [] → sb = .slice none 0 0
  rows : NRows w B vs l
  keep : ∀ j, j < w0.heap.size → j ∉ blks vs → w.heap[j]? = w0.heap[j]?
  os : w.os = w0.os
  tape : w.tape = w0.tape
  output : w.output = w0.output
  size : w0.heap.size ≤ w.heap.size
  low : ∀ j ∈ blks vs, j < w0.heap.size

theorem SF.below {w0 w : World} {B : Nat} {vs xs ys : List Value} {l : List (List Int)} {sa sb : Value} (h : SF w0 w B vs xs ys l sa sb) (hB : B ≤ w0.heap.size) : Below B w0 w :=
  ⟨h.os, h.tape, h.output, h.size, fun j hj => h.keep j (by omega) fun hm => by have := (h.rows.lt j hm).1; omega⟩

theorem SF.order {w0 w w' : World} {B k : Nat} {vs xs ys : List Value} {l : List (List Int)} {sa sb v : Value} {c : List Int} (h : SF w0 w B vs xs ys l sa sb) (hnd : (blks vs).Nodup) (hv : vs[k]? = some v)
    (hnew : w'.ownsRow B 85 1 v c.length (nodes c)) (hg : w.grownBy w' v.ownBlock) : SF w0 w' B vs xs ys (l.set k c) sa sb := by
  have hlow : ∀ j, v.ownBlock = some j → j < w0.heap.size := fun j hj => h.low j (blks_mem hv hj)
  refine ⟨owns_same h.own fun j hj => hg.block j (h.own.lt j hj).2 fun e => ?_, owns_same h.sco fun j hj => hg.block j (h.sco.lt j hj).2 fun e => ?_, h.ap, h.nil, h.rows.turn hnd hv hnew hg, fun j hj hn => ?_,
    hg.os.trans h.os, hg.tape.trans h.tape, hg.output.trans h.output, by have := hg.size; have := h.size; omega, h.low⟩
  · have h1 := hlow j e.symm
    have h2 := (h.own.lt j hj).1
    omega
  · have h1 := hlow j e.symm
    have h2 := (h.sco.lt j hj).1
    omega
  · exact (hg.block j (by have := h.size; omega) (fun e => hn (blks_mem hv e.symm))).trans (h.keep j hj hn)

theorem fresh_block {b b1 : Option Addr} {n m c c1 s j : Nat} (hat : b1 = b ∨ b1 = some ⟨s, 0, none⟩) (hj : (Value.slice b1 m c1).ownBlock = some j) : (Value.slice b n c).ownBlock = some j ∨ j = s := by
  rcases hat with rfl | rfl
  · left; cases b1 <;> exact hj
  · right
    simp only [Value.ownBlock] at hj
    injection hj with hj
    exact hj.symm

theorem SF.push {w0 w w1 : World} {B n c c1 : Nat} {vs xs ys : List Value} {l : List (List Int)} {b b1 : Option Addr} {sb x : Value} {o : Obj} (h : SF w0 w B vs xs ys l (.slice b n c) sb)
    (hg : (w.alloc o).grownBy w1 (Value.slice b n c).ownBlock) (ho : w1.ownsRow w0.heap.size 85 1 (.slice b1 (n + 1) c1) (n + 1) (xs ++ [x])) (hat : b1 = b ∨ b1 = some ⟨(w.alloc o).heap.size, 0, none⟩) (hn : n = xs.length) :
    SF w0 w1 B vs (xs ++ [x]) ys l (.slice b1 (n + 1) c1) sb := by
  subst hn
  have hz : (w.alloc o).heap.size = w.heap.size + 1 := by simp
  have hk : ∀ j, j < w.heap.size → (Value.slice b xs.length c).ownBlock ≠ some j → w1.heap[j]? = w.heap[j]? := fun j hj hn => by
    rw [hg.block j (by omega) (fun e => hn e.symm), Below.heap_alloc _ _ _ hj]
  have hsz := hg.size
  have hs0 := h.size
  have hr : ∀ j ∈ blks vs, (Value.slice b xs.length c).ownBlock ≠ some j := fun j hj e => by
    have h1 := h.low j hj
    have h2 := (h.own.lt j e).1
    omega
  refine ⟨by simpa using ho, owns_same h.sco fun j hj => hk j (h.sco.lt j hj).2 fun e => h.ap j e hj, fun j hj e => ?_, h.nil, h.rows.same fun j hj => hk j (h.rows.lt j hj).2 (hr j hj), fun j hj hn => ?_,
    (hg.os.trans rfl).trans h.os, (hg.tape.trans rfl).trans h.tape, (hg.output.trans rfl).trans h.output, by omega, h.low⟩
  · rcases fresh_block (n := xs.length) (c := c) hat hj with e' | e'
    · exact h.ap j e' e
    · have := (h.sco.lt j e).2; omega
  · rw [hk j (by omega) (fun e => by have := (h.own.lt j e).1; omega)]
    exact h.keep j hj hn

theorem SF.pushC {w0 w w1 : World} {B n c c1 : Nat} {vs xs ys : List Value} {l : List (List Int)} {b b1 : Option Addr} {sa x : Value} {o : Obj} (h : SF w0 w B vs xs ys l sa (.slice b n c))
    (hg : (w.alloc o).grownBy w1 (Value.slice b n c).ownBlock) (ho : w1.ownsRow w0.heap.size 50 1 (.slice b1 (n + 1) c1) (n + 1) (ys ++ [x])) (hat : b1 = b ∨ b1 = some ⟨(w.alloc o).heap.size, 0, none⟩) (hn : n = ys.length) :
    SF w0 w1 B vs xs (ys ++ [x]) l sa (.slice b1 (n + 1) c1) := by
  subst hn
  have hz : (w.alloc o).heap.size = w.heap.size + 1 := by simp
  have hk : ∀ j, j < w.heap.size → (Value.slice b ys.length c).ownBlock ≠ some j → w1.heap[j]? = w.heap[j]? := fun j hj hn => by
    rw [hg.block j (by omega) (fun e => hn e.symm), Below.heap_alloc _ _ _ hj]
  have hsz := hg.size
  have hs0 := h.size
  have hr : ∀ j ∈ blks vs, (Value.slice b ys.length c).ownBlock ≠ some j := fun j hj e => by
    have h1 := h.low j hj
    have h2 := (h.sco.lt j e).1
    omega
  refine ⟨owns_same h.own fun j hj => hk j (h.own.lt j hj).2 fun e => h.ap j hj e, by simpa using ho, fun j hj e => ?_, fun e => by simp at e, h.rows.same fun j hj => hk j (h.rows.lt j hj).2 (hr j hj), fun j hj hn => ?_,
    (hg.os.trans rfl).trans h.os, (hg.tape.trans rfl).trans h.tape, (hg.output.trans rfl).trans h.output, by omega, h.low⟩
  · rcases fresh_block (n := ys.length) (c := c) hat e with e' | e'
    · exact h.ap j hj e'
    · have := (h.own.lt j hj).2; omega
  · rw [hk j (by omega) (fun e => by have := (h.sco.lt j e).1; omega)]
    exact h.keep j hj hn

theorem SF.turnS {w0 w w1 : World} {B : Nat} {vs xs xs' ys : List Value} {l : List (List Int)} {sa sb : Value} (h : SF w0 w B vs xs ys l sa sb) (hg : w.grownBy w1 sa.ownBlock) (hl : xs'.length = xs.length)
    (ho : w1.ownsRow w0.heap.size 85 1 sa xs.length xs') : SF w0 w1 B vs xs' ys l sa sb := by
  have hs0 := h.size
  have hr : ∀ j ∈ blks vs, sa.ownBlock ≠ some j := fun j hj e => by
    have h1 := h.low j hj
    have h2 := (h.own.lt j e).1
    omega
  refine ⟨by rw [hl]; exact ho, owns_same h.sco fun j hj => hg.block j (h.sco.lt j hj).2 fun e => h.ap j e.symm hj, h.ap, h.nil, h.rows.same fun j hj => hg.block j (h.rows.lt j hj).2 fun e => hr j hj e.symm, fun j hj hn => ?_,
    hg.os.trans h.os, hg.tape.trans h.tape, hg.output.trans h.output, by have := hg.size; omega, h.low⟩
  rw [hg.block j (by omega) (fun e => by have := (h.own.lt j e.symm).1; omega)]
  exact h.keep j hj hn

theorem SF.turnC {w0 w w1 : World} {B : Nat} {vs xs ys ys' : List Value} {l : List (List Int)} {sa sb : Value} (h : SF w0 w B vs xs ys l sa sb) (hg : w.grownBy w1 sb.ownBlock) (hl : ys'.length = ys.length)
    (ho : w1.ownsRow w0.heap.size 50 1 sb ys.length ys') : SF w0 w1 B vs xs ys' l sa sb := by
  have hs0 := h.size
  have hr : ∀ j ∈ blks vs, sb.ownBlock ≠ some j := fun j hj e => by
    have h1 := h.low j hj
    have h2 := (h.sco.lt j e).1
    omega
  refine ⟨owns_same h.own fun j hj => hg.block j (h.own.lt j hj).2 fun e => h.ap j hj e.symm, by rw [hl]; exact ho, h.ap, fun e => h.nil (by subst e; exact List.eq_nil_of_length_eq_zero hl.symm), h.rows.same fun j hj => hg.block j (h.rows.lt j hj).2 fun e => hr j hj e.symm, fun j hj hn => ?_,
    hg.os.trans h.os, hg.tape.trans h.tape, hg.output.trans h.output, by have := hg.size; omega, h.low⟩
  rw [hg.block j (by omega) (fun e => by have := (h.sco.lt j e.symm).1; omega)]
  exact h.keep j hj hn

theorem rowsUp_one {M : List (List Int)} {k : Nat} (hk : k < M.length) (h1 : M[k].length = 1) : rowsUp M (k + 1) = rowsUp M k := by
  rw [rowsUp_succ hk, asc_one h1]
  refine List.ext_getElem? fun j => ?_
  by_cases hj : k = j
  · subst hj
    have := rowsUp_get hk
    have hlt := (List.getElem?_eq_some_iff.1 this).1
    rw [List.getElem?_set_self hlt, this]
  · rw [List.getElem?_set_ne hj]

/-- What Sort's error tells. -/
def ErrIs (w : World) (S B : Nat) (l : List (List Int)) (er : Value) : Prop :=
  (l = [] ∧ er = .nilIface) ∨ l ≠ [] ∧ ∃ (b : Option Addr) (c : Nat) (vs : List Value), er = .iface 89 (.slice b l.length c) ∧ w.ownsRow S 50 1 (.slice b l.length c) l.length vs ∧ NRows w B vs l

/-- What sortedFrom gives. -/
def SortedPost (w : World) (B : Nat) (M : List (List Int)) (e : Ending) (w' : World) : Prop :=
  ∃ (a : Option Addr) (c : Nat) (er : Value), e = .returned (.tuple #[.slice a M.length c, er]) ∧ w'.ownsRow w.heap.size 85 1 (.slice a M.length c) M.length (M.map topV).reverse ∧ ErrIs w' w.heap.size B (cycL M M.length).reverse er ∧ Below B w w'

theorem SF.post {w0 w : World} {B : Nat} {vs : List Value} {M : List (List Int)} {a b : Option Addr} {n c m d : Nat} (h : SF w0 w B vs (M.map topV).reverse (cycV vs M M.length).reverse (rowsUp M M.length) (.slice a n c) (.slice b m d))
    (hB : B ≤ w0.heap.size) (hn : n = M.length) (hm : m = (cycL M M.length).length) (he : cycL M M.length ≠ []) :
    SortedPost w0 B M (.returned (.tuple #[.slice a n c, .iface 89 (.slice b m d)])) w := by
  subst hn
  have hl : (cycL M M.length).reverse.length = m := by rw [List.length_reverse]; exact hm.symm
  have ho := h.own
  have hs := h.sco
  rw [List.length_reverse, List.length_map] at ho
  rw [List.length_reverse, cyc_len, ← hm] at hs
  have hr := h.rows
  rw [rowsUp_end] at hr
  refine ⟨a, c, _, rfl, ho, .inr ⟨by simpa using he, b, d, (cycV vs M M.length).reverse, by rw [hl], by rw [hl]; exact hs, (hr.cyc M.length (Nat.le_refl _)).rev⟩, h.below hB⟩

theorem SF.postN {w0 w : World} {B : Nat} {vs ys : List Value} {M : List (List Int)} {a : Option Addr} {n c : Nat} {l : List (List Int)} {sb : Value} (h : SF w0 w B vs (M.map topV).reverse ys l (.slice a n c) sb)
    (hB : B ≤ w0.heap.size) (hn : n = M.length) (he : cycL M M.length = []) : SortedPost w0 B M (.returned (.tuple #[.slice a n c, .nilIface])) w := by
  subst hn
  have ho := h.own
  rw [List.length_reverse, List.length_map] at ho
  exact ⟨a, c, _, rfl, ho, .inl ⟨by rw [he]; rfl, rfl⟩, h.below hB⟩
end Go.Proofs.YthpjmjohdliohaaGreat
