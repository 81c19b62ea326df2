/- The functions of package laws that look at a graph: zzFits1, well, few, arc. -/
import Derived.Test.YtgkimjjodhnmiaaGreatInts2
import Derived.Test.YtgkimjjodhnmiaaGreatBase
namespace Go.Proofs.YtgkimjjodhnmiaaGreat
open Go.RowKit

set_option maxHeartbeats 1000000 in
theorem well_any (g : Gr) (an : Option Addr) (cn : Nat) (ae : Option Addr) (ce : Nat) (w : World) (hn : g.nodes.length ≤ 1048576) (he : g.edges.length ≤ 1048576) (hg : GrAt w g an cn ae) :
    Calls Tryz.prog 27 #[.agg #[.bool g.dir, .slice an g.nodes.length cn, .slice ae g.edges.length ce]] w fun e w' => e = .returned (.bool (okGraph g)) ∧ Below w.heap.size w w' := by
  have hs := Lib.hid (sorted_any an _ cn g.nodes (w.alloc (.cells #[.bool g.dir, .slice an g.nodes.length cn, .slice ae g.edges.length ce] 25)) rfl hn (hg.nodes.alloc _) hg.none)
  go_enter Tryz.func27, Tryz.ntmps27
  go_wp2_with fail
  refine (unhide hs).mono ?_
  rintro e w1 ⟨a1, cap1, rfl, hown, hn1, hb⟩
  have hb0 : Below w.heap.size w w1 := (alloc_below w _).trans (hb.mono (by simp))
  have hsz : w.heap.size + 1 ≤ w1.heap.size := by have := hb.size; simpa using this
  have k0 : w1.cell? ⟨w.heap.size, 0, none⟩ = some (.bool g.dir) := by rw [hb.cell (by simp)]; simp
  have k1 : w1.cell? ⟨w.heap.size, 1, none⟩ = some (.slice an g.nodes.length cn) := by rw [hb.cell (by simp)]; simp
  have k2 : w1.cell? ⟨w.heap.size, 2, none⟩ = some (.slice ae g.edges.length ce) := by rw [hb.cell (by simp)]; simp
  clear hs
  have hasc := asc_length g.nodes
  obtain ⟨a2, cap2, hv, _, hcl, _⟩ := owns_cells hown
  injection hv with hv1 hv2 hv3
  subst hv1; subst hv3
  have hr := Lib.hid (rising_any a1 _ cap1 (asc g.nodes) w1 hasc.symm (by omega) hcl)
  clear hown hcl hasc
  go_wp2_with fail
  refine (unhide hr).mono ?_
  rintro e w' ⟨rfl, n1, rfl⟩
  clear hr
  rw [incr_asc]
  by_cases hnd : g.nodes.Nodup
  · have hd : decide g.nodes.Nodup = true := decide_eq_true hnd
    obtain ⟨w2, hw2⟩ : ∃ w2, w2 = w1.drewN n1 := ⟨_, rfl⟩
    have hb2 : Below w.heap.size w w2 := by rw [hw2]; exact below_draws hb0 _
    have hz2 : w.heap.size + 1 ≤ w2.heap.size := by rw [hw2]; exact hsz
    have j0 : w2.cell? ⟨w.heap.size, 0, none⟩ = some (.bool g.dir) := by rw [hw2]; exact k0
    have j1 : w2.cell? ⟨w.heap.size, 1, none⟩ = some (.slice an g.nodes.length cn) := by rw [hw2]; exact k1
    have j2 : w2.cell? ⟨w.heap.size, 2, none⟩ = some (.slice ae g.edges.length ce) := by rw [hw2]; exact k2
    rw [← hw2]
    clear hw2 k0 k1 k2 hb0 hsz hb
    go_wp2_with fail
    go_loopw [3] (fun i wr => ∃ k : Nat, k ≤ g.edges.length ∧ i = .int .i64 k ∧ (∀ j (hj : j < g.edges.length), j < k → okEdge g.nodes g.edges[j] = true) ∧
      Below w.heap.size w wr ∧ Below (w.heap.size + 1) w2 wr) (fun i _ => g.edges.length - (intOf i).toNat)
    case atStart => exact ⟨0, Nat.zero_le _, rfl, fun j _ hj => absurd hj (Nat.not_lt_zero _), hb2, Below.refl _ _⟩
    case round =>
      obtain ⟨k, hk, rfl, H0, hbr, hb2r⟩ := hrel
      have H := Lib.hid H0
      have hzr : w.heap.size + 1 ≤ wr.heap.size := Nat.le_trans hz2 hb2r.size
      have k0 : wr.cell? ⟨w.heap.size, 0, none⟩ = some (.bool g.dir) := by rw [hb2r.cell (by simp)]; exact j0
      have k1 : wr.cell? ⟨w.heap.size, 1, none⟩ = some (.slice an g.nodes.length cn) := by rw [hb2r.cell (by simp)]; exact j1
      have k2 : wr.cell? ⟨w.heap.size, 2, none⟩ = some (.slice ae g.edges.length ce) := by rw [hb2r.cell (by simp)]; exact j2
      have hgr := hg.below hbr
      have hN : ∀ o, Cells (wr.alloc o) an (ints g.nodes) := fun o => hgr.nodes.alloc o
      clear H0 j0 j1 j2
      by_cases hlt : k < g.edges.length
      · obtain ⟨b, off, rfl, hbl, hr⟩ := hgr.edges.at (by rw [edgeCells_length]; omega)
        obtain ⟨e1, e2, e3⟩ := edge_cells hr hlt
        clear hr hgr
        obtain ⟨u, v, x, hux⟩ : ∃ u v x, g.edges[k] = (u, v, x) := ⟨_, _, _, rfl⟩
        rw [hux] at e1 e2 e3
        have hu := Lib.hid hux
        clear hux
        simp only [] at e1 e2 e3
        have m1 : ∀ o, (wr.alloc o).cell? ⟨w.heap.size, 1, none⟩ = some (.slice an g.nodes.length cn) := fun o => cell_alloc k1 o
        by_cases t1 : u = v
        · subst t1
          have hfin : Hid (okGraph g = false) := okGraph_false hlt (by rw [hu.out]; simp [okEdge])
          go_wp2
          go_ret
          exact ⟨ret_bool hfin.out.symm, hbr.alloc (by omega) _⟩
        · have t1' : (u == v) = false := by simpa using t1
          by_cases t2 : u ∈ g.nodes
          · have t2' : decide (u ∈ g.nodes) = true := decide_eq_true t2
            by_cases t3 : v ∈ g.nodes
            · have t3' : decide (v ∈ g.nodes) = true := decide_eq_true t3
              by_cases t4 : 1099511627776 < x
              · have hfin : Hid (okGraph g = false) := okGraph_false hlt (by rw [hu.out]; simp [okEdge]; omega)
                clear t1 t2 t3
                go_wp2_with (go_at_call 35; refine (has_any _ _ _ _ _ _ rfl (by omega) (hN _)).mono ?_; rintro e w' ⟨rfl, rfl⟩)
                go_ret
                exact ⟨ret_bool hfin.out.symm, hbr.alloc (by omega) _⟩
              · by_cases t5 : x < -1099511627776
                · have hfin : Hid (okGraph g = false) := okGraph_false hlt (by rw [hu.out]; simp [okEdge]; omega)
                  clear t1 t2 t3
                  go_wp2_with (go_at_call 35; refine (has_any _ _ _ _ _ _ rfl (by omega) (hN _)).mono ?_; rintro e w' ⟨rfl, rfl⟩)
                  go_ret
                  exact ⟨ret_bool hfin.out.symm, hbr.alloc (by omega) _⟩
                · have hnext : Hid (∀ j (hj : j < g.edges.length), j < k + 1 → okEdge g.nodes g.edges[j] = true) := fun j hj hlt' => by
                    rcases Nat.lt_or_eq_of_le (Nat.le_of_lt_succ hlt') with h | h
                    · exact H.out j hj h
                    · subst h; rw [hu.out]; simp [okEdge, t1, t2, t3]; omega
                  clear t1 t2 t3
                  go_wp2_with (go_at_call 35; refine (has_any _ _ _ _ _ _ rfl (by omega) (hN _)).mono ?_; rintro e w' ⟨rfl, rfl⟩)
                  go_roundw
                  case rel => exact ⟨k + 1, by omega, by go_num, hnext.out, hbr.alloc (by omega) _, hb2r.alloc (by omega) _⟩
                  case measure => simp [intOf]; omega
            · have t3' : decide (v ∈ g.nodes) = false := decide_eq_false t3
              have hfin : Hid (okGraph g = false) := okGraph_false hlt (by rw [hu.out]; simp [okEdge, t3])
              clear t1 t2 t3
              go_wp2_with (go_at_call 35; refine (has_any _ _ _ _ _ _ rfl (by omega) (hN _)).mono ?_; rintro e w' ⟨rfl, rfl⟩)
              go_ret
              exact ⟨ret_bool hfin.out.symm, hbr.alloc (by omega) _⟩
          · have t2' : decide (u ∈ g.nodes) = false := decide_eq_false t2
            have hfin : Hid (okGraph g = false) := okGraph_false hlt (by rw [hu.out]; simp [okEdge, t2])
            clear t1 t2
            go_wp2_with (go_at_call 35; refine (has_any _ _ _ _ _ _ rfl (by omega) (hN _)).mono ?_; rintro e w' ⟨rfl, rfl⟩)
            go_ret
            exact ⟨ret_bool hfin.out.symm, hbr.alloc (by omega) _⟩
      · have hfin : Hid (okGraph g = true) := by
          simp only [okGraph, hd, Bool.true_and, Hid]
          exact List.all_eq_true.2 fun e he => by
            obtain ⟨j, hj, rfl⟩ := List.mem_iff_getElem.1 he
            exact H.out j hj (by omega)
        go_wp2
        go_ret
        exact ⟨ret_bool hfin.out.symm, hbr⟩
  · have hd : decide g.nodes.Nodup = false := decide_eq_false hnd
    have hfin : Hid (okGraph g = false) := by simp [okGraph, hd, Hid]
    go_wp2
    go_ret
    exact ⟨ret_bool hfin.out.symm, below_draws hb0 _⟩

/-- Whether a graph is not bad, and has at most so many nodes, and eight times as many edges. -/
def fewB (g : Gr) (n : Nat) : Bool := decide (g.nodes.length ≤ n) && decide (g.edges.length ≤ 8 * n) && okGraph g

theorem few_any (g : Gr) (an : Option Addr) (cn : Nat) (ae : Option Addr) (ce : Nat) (w : World) (N : Nat) (hN : N ≤ 1000) (hg : GrAt w g an cn ae) :
    Calls Tryz.prog 11 #[.agg #[.bool g.dir, .slice an g.nodes.length cn, .slice ae g.edges.length ce], .int .i64 N] w fun e w' => e = .returned (.bool (fewB g N)) ∧ Below w.heap.size w w' := by
  by_cases h1 : g.nodes.length ≤ N
  · have h1' : decide (g.nodes.length ≤ N) = true := decide_eq_true h1
    by_cases h2 : g.edges.length ≤ 8 * N
    · have hw := fun o => Lib.hid (well_any g an cn ae ce (w.alloc o) (by omega) (by omega) (hg.below (alloc_below w o)))
      have hfin : Hid (okGraph g = fewB g N) := by simp [fewB, h1, h2, Hid]
      go_enter Tryz.func11, Tryz.ntmps11
      go_wp2_with (go_at_call 27; refine (unhide (hw _)).mono ?_; rintro e w1 ⟨rfl, hb⟩)
      go_ret
      exact ⟨ret_bool hfin.out, (alloc_below w _).trans (hb.mono (by simp))⟩
    · have h2' : decide (g.edges.length ≤ 8 * N) = false := decide_eq_false h2
      have hfin : Hid (fewB g N = false) := by simp [fewB, h2, Hid]
      go_enter Tryz.func11, Tryz.ntmps11
      go_wp2
      go_ret
      exact ⟨ret_bool hfin.out.symm, alloc_below w _⟩
  · have h1' : decide (g.nodes.length ≤ N) = false := decide_eq_false h1
    have hfin : Hid (fewB g N = false) := by simp [fewB, h1, Hid]
    go_enter Tryz.func11, Tryz.ntmps11
    go_wp2
    go_ret
    exact ⟨ret_bool hfin.out.symm, alloc_below w _⟩

/-- Whether a graph's lists are no longer than zzMost. -/
def fitsB (g : Gr) : Bool := decide (g.nodes.length ≤ 2147483647) && decide (g.edges.length ≤ 2147483647)

theorem fits_any (g : Gr) (an : Option Addr) (cn : Nat) (ae : Option Addr) (ce : Nat) (w : World) (hm : g.nodes.length ≤ 9223372036854775807) (hm' : g.edges.length ≤ 9223372036854775807) :
    Calls Tryz.prog 4 #[.agg #[.bool g.dir, .slice an g.nodes.length cn, .slice ae g.edges.length ce]] w fun e w' => e = .returned (.bool (fitsB g)) ∧ Below w.heap.size w w' := by
  by_cases h1 : g.nodes.length ≤ 2147483647
  · by_cases h2 : g.edges.length ≤ 2147483647
    · have hfin : Hid (fitsB g = true) := by simp [fitsB, h1, h2, Hid]
      go_enter Tryz.func4, Tryz.ntmps4
      go_wp2
      go_ret
      exact ⟨ret_bool hfin.out.symm, alloc_below w _⟩
    · have hfin : Hid (fitsB g = false) := by simp [fitsB, h2, Hid]
      go_enter Tryz.func4, Tryz.ntmps4
      go_wp2
      go_ret
      exact ⟨ret_bool hfin.out.symm, alloc_below w _⟩
  · have hfin : Hid (fitsB g = false) := by simp [fitsB, h1, Hid]
    go_enter Tryz.func4, Tryz.ntmps4
    go_wp2
    go_ret
    exact ⟨ret_bool hfin.out.symm, alloc_below w _⟩
end Go.Proofs.YtgkimjjodhnmiaaGreat
