/- laws.arc: whether there is an edge from u to v. -/
import Derived.Test.YtfihclhceakmdaaLaws1
namespace Go.Proofs.Ytfihclhceakmdaa
open Go.RowKit

set_option maxHeartbeats 1000000 in
theorem arc_any (g : Gr) (an : Option Addr) (cn : Nat) (ae : Option Addr) (ce : Nat) (u v : Int) (w : World) (he : g.edges.length ≤ 1048576) (hg : GrAt w g an cn ae) :
    Calls Try.prog 16 #[.agg #[.bool g.dir, .slice an g.nodes.length cn, .slice ae g.edges.length ce], .int .i64 u, .int .i64 v] w fun e w' => e = .returned (.bool (arcB g u v)) ∧ Below w.heap.size w w' := by
  obtain ⟨dir, nodes, edges⟩ := g
  simp only [] at he ⊢
  have huv : u = v ∨ ((u == v) = false ∧ (v == u) = false) := by
    rcases Decidable.em (u = v) with h | h
    · exact .inl h
    · exact .inr ⟨by simpa using h, by simpa using fun e => h e.symm⟩
  go_enter Try.func16, Try.ntmps16
  go_wp2_with fail
  go_loopw [7] (fun i wr => ∃ k : Nat, k ≤ edges.length ∧ i = .int .i64 k ∧ (∀ j (hj : j < edges.length), j < k → ¬ hits dir u v edges[j]) ∧
    Below (w.heap.size + 1) (w.alloc (.cells #[.bool dir, .slice an nodes.length cn, .slice ae edges.length ce] 25)) wr) (fun i _ => edges.length - (intOf i).toNat)
  case atStart => exact ⟨0, Nat.zero_le _, rfl, fun j _ hj => absurd hj (Nat.not_lt_zero _), Below.refl _ _⟩
  case round =>
    obtain ⟨k, hk, rfl, H0, hbr⟩ := hrel
    have H := Lib.hid H0
    have hzr : w.heap.size + 1 ≤ wr.heap.size := by have := hbr.size; simpa using this
    have k0 : wr.cell? ⟨w.heap.size, 0, none⟩ = some (.bool dir) := by rw [hbr.cell (by simp)]; simp
    have k2 : wr.cell? ⟨w.heap.size, 2, none⟩ = some (.slice ae edges.length ce) := by rw [hbr.cell (by simp)]; simp
    have m0 : ∀ o, (wr.alloc o).cell? ⟨w.heap.size, 0, none⟩ = some (.bool dir) := fun o => cell_alloc k0 o
    have hb0 : Below w.heap.size w wr := (alloc_below w _).trans (hbr.mono (by simp))
    have hgr := hg.below hb0
    clear H0
    by_cases hlt : k < edges.length
    · obtain ⟨b, off, rfl, hbl, hr⟩ := hgr.edges.at (by rw [edgeCells_length]; show 0 < edges.length * 3; omega)
      obtain ⟨e1, e2, e3⟩ := edge_cells hr hlt
      clear hr hgr hg
      obtain ⟨a, b', x, hux⟩ : ∃ a b' x, edges[k] = (a, b', x) := ⟨_, _, _, rfl⟩
      rw [hux] at e1 e2 e3
      have hu := Lib.hid hux
      clear hux
      simp only [] at e1 e2 e3
      by_cases hh : hits dir u v (a, b', x)
      · have hfin : Hid (arcB ⟨dir, nodes, edges⟩ u v = true) := arcB_true hlt (by show hits dir u v edges[k]; rw [hu.out]; exact hh)
        have hh' := Lib.hid hh
        clear hh
        cases dir
        all_goals rcases huv with rfl | ⟨huv1, huv2⟩
        all_goals
          go_wp2
          all_goals first
            | (go_ret; exact ⟨ret_bool hfin.out.symm, hb0.alloc (by omega) _⟩)
            | (exfalso; have := hh'.out; simp only [hits] at this; simp_all; done)
            | (exfalso; have := hh'.out; simp only [hits] at this; omega)
      · have hnext : Hid (∀ j (hj : j < edges.length), j < k + 1 → ¬ hits dir u v edges[j]) := fun j hj hlt' => by
          rcases Nat.lt_or_eq_of_le (Nat.le_of_lt_succ hlt') with h | h
          · exact H.out j hj h
          · subst h; rw [hu.out]; exact hh
        have hh' := Lib.hid hh
        clear hh
        cases dir
        all_goals rcases huv with rfl | ⟨huv1, huv2⟩
        all_goals
          go_wp2
          all_goals first
            | (go_roundw
               case rel => exact ⟨k + 1, by omega, by go_num, hnext.out, hbr.alloc (by omega) _⟩
               case measure => simp [intOf]; omega)
            | (exfalso; have := hh'.out; simp only [hits] at this; simp_all; done)
            | (exfalso; have := hh'.out; simp only [hits] at this; omega)
    · have hfin : Hid (arcB ⟨dir, nodes, edges⟩ u v = false) := arcB_false fun j hj => H.out j hj (by have : j < edges.length := hj; omega)
      go_wp2
      go_ret
      exact ⟨ret_bool hfin.out.symm, hb0⟩
end Go.Proofs.Ytfihclhceakmdaa
