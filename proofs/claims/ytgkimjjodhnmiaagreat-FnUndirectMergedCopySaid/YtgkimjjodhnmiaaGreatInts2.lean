/- slices.Clone at []int, and laws.sorted: a new row with the numbers in ascending order. -/
import Derived.Test.YtgkimjjodhnmiaaGreatBase
import Derived.BigRegion
namespace Go.Proofs.YtgkimjjodhnmiaaGreat
open Go.RowKit

set_option maxHeartbeats 400000 in
theorem cloneInt_any (a : Option Addr) (n cap : Nat) (zs : List Int) (w : World) (hl : n = zs.length) (hsm : zs.length ≤ 1048576) (hc : Cells w a (ints zs)) (h0 : a = none → cap = 0) :
    Calls Tryz.prog 43 #[.slice a n cap] w fun e w' => ∃ a' cap', e = .returned (.slice a' n cap') ∧ w'.ownsRow w.heap.size 3 1 (.slice a' n cap') n (ints zs) ∧ (a' = none → cap' = 0) ∧ Below w.heap.size w w' := by
  subst hl
  rcases a with _ | ⟨b, off, spot⟩
  · have hz : zs = [] := by
      rcases hc with h | ⟨b, off, h, _⟩
      · simpa [ints] using h
      · cases h
    subst hz
    obtain rfl := h0 rfl
    have hnil := @Lib.run_eql_slice_nil Tryz.prog
    go_enter Tryz.func43, Tryz.ntmps43
    go_wp2
    go_ret
    exact ⟨none, 0, rfl, World.ownsRow_nil _ _ _ _, fun _ => rfl, Below.refl _ _⟩
  · have hnil := @Lib.run_eql_slice_nil Tryz.prog
    obtain ⟨ad, had⟩ : ∃ ad : Addr, ad = ⟨b, off, spot⟩ := ⟨_, rfl⟩
    rw [← had] at hc ⊢
    have hown : (w.alloc (.cells #[] 3)).ownsRow w.heap.size 3 1 (.slice (some ⟨w.heap.size, 0, none⟩) 0 0) 0 [] :=
      World.ownsRow_made w #[] 0 (Nat.le_refl _) (by simp [maxLen]) (by simp)
    have hnews : Hid (∀ j u, (ints zs)[j]? = some u → (w.alloc (.cells #[] 3)).cell? (ad.add j) = some u) := fun j u hj => (hc.alloc _).add j u hj
    clear h0 had
    go_enter Tryz.func43, Tryz.ntmps43
    go_wp2_with (at_builtin; refine append_law 22 3 _ 1 8 Tryz.underlying22 info_int rfl (by omega) (by omega) rfl _ _ rfl w.heap.size (some ⟨w.heap.size, 0, none⟩) 0 0 [] rfl hown ad zs.length cap (ints zs) rfl (by simp) hnews.out (ints_one zs) (by omega) (by simp) ?_; intro b1 cap1 w1 hown1 hg1 hat1)
    go_ret
    rw [Nat.zero_add] at hown1
    obtain ⟨a', cap', hv', hn', _, _⟩ := owns_cells hown1
    injection hv' with e1 _ e3
    subst e1; subst e3
    exact ⟨b1, cap1, rfl, hown1, hn', (alloc_below w _).trans (owns_below hown hg1 (by simp))⟩

theorem ints_swap (ys : List Int) (i : Nat) (h0 : 0 < i) (hi : i < ys.length) : ((ints ys).set i (.int .i64 ys[i - 1])).set (i - 1) (.int .i64 ys[i]) = ints (swap1 ys i) := by
  have e1 : ys.getD i 0 = ys[i] := by simp [hi]
  have e2 : ys.getD (i - 1) 0 = ys[i - 1]'(by omega) := by simp [show i - 1 < ys.length by omega]
  unfold swap1 ints
  rw [e1, e2, List.map_set, List.map_set]

set_option maxHeartbeats 1000000 in
theorem sorted_any (a : Option Addr) (n cap : Nat) (zs : List Int) (w : World) (hl : n = zs.length) (hsm : zs.length ≤ 1048576) (hc : Cells w a (ints zs)) (h0 : a = none → cap = 0) :
    Calls Tryz.prog 32 #[.slice a n cap] w fun e w' => ∃ a' cap', e = .returned (.slice a' n cap') ∧
      w'.ownsRow w.heap.size 3 1 (.slice a' n cap') n (ints (asc zs)) ∧ (a' = none → cap' = 0) ∧ Below w.heap.size w w' := by
  subst hl
  have hclone := Lib.hid (cloneInt_any a _ cap zs w rfl hsm hc h0)
  clear hc h0
  go_enter Tryz.func32, Tryz.ntmps32
  go_wp2_with (go_at_call 43; refine (Calls.mono (unhide hclone) ?_); rintro e w1 ⟨a1, cap1, rfl, hown1, hn1, hb1⟩)
  go_loopw [4] (fun i wr => ∃ (k : Nat) (ys : List Int), 1 ≤ k ∧ i = .int .i64 k ∧ ys.length = zs.length ∧ ys.Perm zs ∧ SortedTo ys k ∧
      wr.ownsRow w.heap.size 3 1 (.slice a1 zs.length cap1) zs.length (ints ys) ∧ Below w.heap.size w wr) (fun i _ => zs.length - (intOf i).toNat)
  case atStart => exact ⟨1, zs, Nat.le_refl _, rfl, rfl, List.Perm.refl _, sortedTo_one _, hown1, hb1⟩
  case round =>
    obtain ⟨k, ys, hk, rfl, hl0, hp0, hs0, hown, hb⟩ := hrel
    have hl := Lib.hid hl0
    have hp := Lib.hid hp0
    have hs := Lib.hid hs0
    clear hl0 hp0 hs0 hown1 hb1 hclone
    by_cases hlt : k < zs.length
    · obtain ⟨wo, rfl⟩ : ∃ wo : World, wo = wr := ⟨_, rfl⟩
      go_wp2
      go_loopw [5] (fun i wr => ∃ (j : Nat) (ys : List Int), j ≤ k ∧ i = .int .i64 j ∧ ys.length = zs.length ∧ ys.Perm zs ∧ SortedBut ys j k ∧
        wr.ownsRow w.heap.size 3 1 (.slice a1 zs.length cap1) zs.length (ints ys) ∧ Below w.heap.size w wr) (fun i _ => (intOf i).toNat)
      case atStart => exact ⟨k, ys, Nat.le_refl _, rfl, hl.out, hp.out, hs.out.but, hown, hb⟩
      case round =>
        obtain ⟨j, yz, hj, rfl, hl1, hp1, hs1, hown1, hb1⟩ := hrel
        have hl1' := Lib.hid hl1
        have hp1' := Lib.hid hp1
        have hs1' := Lib.hid hs1
        clear hl1 hp1 hs1 hown hb hl hp hs
        have hjl : j < yz.length := by have := hl1'.out; omega
        obtain ⟨g, rfl, hg1, hg2, hg3⟩ := owns_at hown1 (by omega)
        have c1 : wr.cell? ⟨g, j, none⟩ = some (.int .i64 yz[j]) := owns_cell hown1 (ints_get _ _ hjl)
        have c2 : wr.cell? ⟨g, j - 1, none⟩ = some (.int .i64 (yz[j-1]'(by omega))) := owns_cell hown1 (ints_get _ _ _)
        have f1 := owns_free hown1 j
        have f2 := owns_free hown1 (j - 1)
        by_cases h0 : 0 < j
        · by_cases hlt2 : yz[j] < yz[j-1]
          · have hd : decide (0 < j) = true := by simpa using h0
            go_wp2
            go_quiet (fail)
            go_wp2
            go_region
            go_wp2
            go_roundw
            case rel => exact ⟨j - 1, swap1 yz j, by omega, by go_num, by rw [swap1_length]; exact hl1'.out, (swap1_perm yz j h0 hjl).trans hp1'.out, hs1'.out.swap h0 hj (by have := hl1'.out; omega) hlt2,
              by rw [← ints_swap yz j h0 hjl]; exact owns_set (owns_set (by exact hown1) _) _, Below.setCell (p := ⟨g, j - 1, none⟩) (Below.setCell (p := ⟨g, j, none⟩) (below_draws hb1 _) hg1 _) hg1 _⟩
            case measure => simp [intOf]; omega
          · have hs' : Hid (SortedTo yz (k + 1)) := hs1'.out.done fun _ _ => by omega
            go_wp2
            go_quiet (fail)
            go_wp2
            go_roundw
            case rel => exact ⟨k + 1, yz, by omega, by go_num, hl1'.out, hp1'.out, hs'.out, hown1, below_draws hb1 _⟩
            case measure => simp [intOf]; omega
        · have hs' : Hid (SortedTo yz (k + 1)) := hs1'.out.done fun h _ => absurd h h0
          have hd : decide (0 < j) = false := by simpa using h0
          go_wp2
          go_quiet (fail)
          go_wp2
          go_roundw
          case rel => exact ⟨k + 1, yz, by omega, by go_num, hl1'.out, hp1'.out, hs'.out, hown1, below_draws hb1 _⟩
          case measure => simp [intOf]; omega
    · have he : Hid (ys = asc zs) := asc_unique hp.out (hs.out.all (by have := hl.out; omega))
      go_wp2
      go_ret
      exact ⟨a1, cap1, rfl, by rw [← he.out]; exact hown, hn1, hb⟩
end Go.Proofs.YtgkimjjodhnmiaaGreat
