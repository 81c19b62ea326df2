/- laws.light; slices.Equal at slots, where the slots are the same. -/
import Derived.Test.YtagnmdhdogaijaaGreatSortBy1
import Derived.Test.YtagnmdhdogaijaaGreatLaws1
namespace Go.Proofs.YtagnmdhdogaijaaGreat
open Go.RowKit

theorem slotCells_at (os : List (Option Int)) (k : Nat) (o : Option Int) (h : os[k]? = some o) : (slotCells os)[k * 2]? = some (.bool o.isNone) ∧ (slotCells os)[k * 2 + 1]? = some (.int .i64 (o.getD 0)) := by
  induction os generalizing k with
  | nil => simp at h
  | cons q os ih =>
    have e : slotCells (q :: os) = slotC q ++ slotCells os := List.flatMap_cons
    have hl := slotC_length q
    cases k with
    | zero =>
      rw [List.getElem?_cons_zero] at h
      injection h with h
      subst h
      rw [e]
      cases q <;> exact ⟨rfl, rfl⟩
    | succ k =>
      rw [List.getElem?_cons_succ] at h
      obtain ⟨h1, h2⟩ := ih k h
      rw [e, List.getElem?_append_right (by omega), List.getElem?_append_right (by omega), hl]
      rw [show (k + 1) * 2 - 2 = k * 2 by omega, show (k + 1) * 2 + 1 - 2 = k * 2 + 1 by omega]
      exact ⟨h1, h2⟩

def lightB (g : Gr) : Bool := g.edges.all fun e => decide (e.2.2 ≤ 1099511627776 ∧ -1099511627776 ≤ e.2.2)

set_option maxHeartbeats 1000000 in
theorem light_any (g : Gr) (an : Option Addr) (cn : Nat) (ae : Option Addr) (ce : Nat) (w : World) (he : g.edges.length ≤ 1048576) (hg : GrAt w g an cn ae) :
    Calls Tryz.prog 14 #[.agg #[.bool g.dir, .slice an g.nodes.length cn, .slice ae g.edges.length ce]] w fun e w' => e = .returned (.bool (lightB g)) ∧ Below w.heap.size w w' := by
  have hc := Lib.hid (hg.edges.alloc (.cells #[.bool g.dir, .slice an g.nodes.length cn, .slice ae g.edges.length ce] 25))
  have hl : Hid (∀ i (hi : i < g.edges.length), ¬ (g.edges[i].2.2 ≤ 1099511627776 ∧ -1099511627776 ≤ g.edges[i].2.2) → lightB g = false) := fun i hi h =>
    List.all_eq_false.2 ⟨_, List.getElem_mem hi, by simp only [decide_eq_true_eq]; exact h⟩
  have hl2 : Hid ((∀ i (hi : i < g.edges.length), g.edges[i].2.2 ≤ 1099511627776 ∧ -1099511627776 ≤ g.edges[i].2.2) → lightB g = true) := fun h =>
    List.all_eq_true.2 fun e he => by
      obtain ⟨i, hi, rfl⟩ := List.mem_iff_getElem.1 he
      exact decide_eq_true (h i hi)
  have hb := Lib.hid (alloc_below w (.cells #[.bool g.dir, .slice an g.nodes.length cn, .slice ae g.edges.length ce] 25))
  clear hg
  go_enter Tryz.func14, Tryz.ntmps14
  go_wp2_with fail
  obtain ⟨w1, hw1⟩ : ∃ w1, w1 = w.alloc (.cells #[.bool g.dir, .slice an g.nodes.length cn, .slice ae g.edges.length ce] 25) := ⟨_, rfl⟩
  have k2 : w1.cell? ⟨w.heap.size, 2, none⟩ = some (.slice ae g.edges.length ce) := by rw [hw1]; simp
  rw [← hw1] at hc hb ⊢
  clear hw1
  go_loopw [3] (fun kv wr => ∃ (k : Nat), k ≤ g.edges.length ∧ kv = .int .i64 k ∧ wr = w1 ∧ ∀ i (hi : i < g.edges.length), i < k → g.edges[i].2.2 ≤ 1099511627776 ∧ -1099511627776 ≤ g.edges[i].2.2) (fun kv _ => g.edges.length - (intOf kv).toNat)
  case atStart => exact ⟨0, Nat.zero_le _, rfl, rfl, fun i _ h => absurd h (Nat.not_lt_zero i)⟩
  case round =>
    obtain ⟨k, hk, rfl, rfl, hall⟩ := hrel
    by_cases hlt : k < g.edges.length
    · obtain ⟨b, off, rfl, _, hrg⟩ := hc.out.at (by rw [edgeCells_length]; omega)
      obtain ⟨_, _, x2⟩ := edge_cells hrg hlt
      obtain ⟨z, hz⟩ : ∃ z, z = g.edges[k].2.2 := ⟨_, rfl⟩
      have hnx : Hid (z ≤ 1099511627776 ∧ -1099511627776 ≤ z → ∀ i (hi : i < g.edges.length), i < k + 1 → g.edges[i].2.2 ≤ 1099511627776 ∧ -1099511627776 ≤ g.edges[i].2.2) := fun h i hi hik => by
        by_cases e : i = k
        · subst e; rw [← hz]; exact h
        · exact hall i hi (by omega)
      have hbd : Hid (¬ (z ≤ 1099511627776 ∧ -1099511627776 ≤ z) → lightB g = false) := fun h => hl.out k hlt (by rw [← hz]; exact h)
      rw [← hz] at x2
      clear hz hall hrg
      by_cases h1 : z ≤ 1099511627776
      · have h1' : ¬ (1099511627776 : Int) < z := by omega
        by_cases h2 : -1099511627776 ≤ z
        · have h2' : ¬ z < (-1099511627776 : Int) := by omega
          go_wp2_with fail
          go_roundw
          case rel => exact ⟨k + 1, by omega, by go_num, by trivial, hnx.out ⟨h1, h2⟩⟩
          case measure => simp [intOf]; omega
        · have h2' : z < (-1099511627776 : Int) := by omega
          have hf := Lib.hid (hbd.out fun h => h2 h.2)
          go_wp2_with fail
          go_ret
          exact ⟨by rw [hf.out]; rfl, hb.out⟩
      · have h1' : (1099511627776 : Int) < z := by omega
        have hf := Lib.hid (hbd.out fun h => h1 h.1)
        go_wp2_with fail
        go_ret
        exact ⟨by rw [hf.out]; rfl, hb.out⟩
    · have hf := Lib.hid (hl2.out fun i hi => hall i hi (by omega))
      clear hall
      go_wp2_with fail
      go_ret
      exact ⟨by rw [hf.out]; rfl, hb.out⟩

theorem slot_same (p : Bool) (z : Int) (w : World) : (binOp .neq 48 (.agg #[.bool p, .int .i64 z]) (.agg #[.bool p, .int .i64 z])).run Tryz.prog w = .ok (.bool false) w := by
  simp [go_sem]

/-- Slots that are the same are found to be the same. -/
theorem slotsEq_true (a1 a2 : Option Addr) (c1 c2 n : Nat) (os : List (Option Int)) (w : World) (hn : n = os.length) (hn2 : n ≤ 1000) (h1 : Cells w a1 (slotCells os)) (h2 : Cells w a2 (slotCells os)) :
    Calls Tryz.prog 43 #[.slice a1 n c1, .slice a2 n c2] w fun e w' => e = .returned (.bool true) ∧ ∃ q, w' = w.drewN q := by
  have h1h := Lib.hid h1
  have h2h := Lib.hid h2
  have hnh := Lib.hid hn
  clear h1 h2 hn
  go_enter Tryz.func43, Tryz.ntmps43
  go_wp2_with fail
  go_loopw [5, 13] (fun _ iv wr => ∃ (k q : Nat), k ≤ n ∧ iv = .int .i64 k ∧ wr = w.drewN q) (fun _ iv _ => n - (intOf iv).toNat)
  case atStart => exact ⟨0, 0, Nat.zero_le _, rfl, rfl⟩
  case round =>
    obtain ⟨k, q, hk, rfl, rfl⟩ := hrel
    by_cases hlt : k < n
    · have hko : k < os.length := by have := hnh.out; omega
      obtain ⟨b1, o1, rfl, _, r1⟩ := h1h.out.at (by rw [slotCells_length]; omega)
      obtain ⟨b2, o2, rfl, _, r2⟩ := h2h.out.at (by rw [slotCells_length]; omega)
      obtain ⟨s1, s2⟩ := slotCells_at os k _ (List.getElem?_eq_getElem hko)
      have x0 : (w.drewN q).cell? ⟨b1, o1 + k * 2, none⟩ = some (.bool os[k].isNone) := r1 _ _ s1
      have x1 : (w.drewN q).cell? ⟨b1, o1 + k * 2 + 1, none⟩ = some (.int .i64 (os[k].getD 0)) := by rw [Nat.add_assoc]; exact r1 _ _ s2
      have y0 : (w.drewN q).cell? ⟨b2, o2 + k * 2, none⟩ = some (.bool os[k].isNone) := r2 _ _ s1
      have y1 : (w.drewN q).cell? ⟨b2, o2 + k * 2 + 1, none⟩ = some (.int .i64 (os[k].getD 0)) := by rw [Nat.add_assoc]; exact r2 _ _ s2
      obtain ⟨p, hp⟩ : ∃ p, p = os[k].isNone := ⟨_, rfl⟩
      obtain ⟨z, hz⟩ : ∃ z, z = os[k].getD 0 := ⟨_, rfl⟩
      rw [← hp] at x0 y0
      rw [← hz] at x1 y1
      have heq := slot_same p z
      clear hp hz s1 s2 r1 r2
      obtain ⟨W, hW⟩ : ∃ W, W = w.drewN q := ⟨_, rfl⟩
      rw [← hW] at x0 x1 y0 y1 ⊢
      have hWh : Hid (∀ m, ∃ q', W.drewN m = w.drewN q') := fun m => ⟨_, by rw [hW]; exact World.drewN_drewN _ _ _⟩
      clear hW
      go_wp2_with fail
      go_region
      all_goals
        go_wp2_with fail
        go_roundw
        case rel =>
          obtain ⟨q', hq'⟩ := hWh.out 1
          exact ⟨k + 1, q', by omega, by go_num, hq'⟩
        case measure => simp [intOf]; omega
    · go_wp2_with fail
      go_ret
      exact ⟨rfl, q, rfl⟩
end Go.Proofs.YtagnmdhdogaijaaGreat
