/- The functions of package laws over lists of ints: index, has, rising, sorted, what they return. -/
import Derived.Test.YtagnmdhdogaijaaGreatProg
import Derived.Test.YtagnmdhdogaijaaGreatBase
import Derived.WalkSpells
import Derived.Deep.LoopGhost
import Derived.Deep.QuietTactic
import Derived.BigQuiet
namespace Go.Proofs.YtagnmdhdogaijaaGreat
open Go.RowKit

set_option maxHeartbeats 400000 in
theorem index_any (a : Option Addr) (n cap : Nat) (zs : List Int) (x : Int) (w : World) (hl : n = zs.length) (hbig : zs.length ≤ 9223372036854775807) (hc : Cells w a (ints zs)) :
    Calls Tryz.prog 21 #[.slice a n cap, .int .i64 x] w fun e w' => e = .returned (.int .i64 (idxI zs x)) ∧ w = w' := by
  subst hl
  go_enter Tryz.func21, Tryz.ntmps21
  go_wp2
  go_loop [5] (fun i => ∃ k : Nat, k ≤ zs.length ∧ i = .int .i64 k ∧ ∀ j (hj : j < zs.length), j < k → zs[j] ≠ x) (fun i => zs.length - (intOf i).toNat)
  case atStart => exact ⟨0, Nat.zero_le _, rfl, fun j _ hj => absurd hj (Nat.not_lt_zero _)⟩
  case round =>
    obtain ⟨k, hk, rfl, H0⟩ := hrel
    have H := Lib.hid H0
    clear H0
    by_cases hlt : k < zs.length
    · obtain ⟨b, off, rfl, _, hr⟩ := hc.at (by simp; omega)
      have hcell := ints_cell hr hlt
      clear hr hc
      by_cases he : zs[k] = x
      · have hfin : Hid (idxI zs x = k) := idxI_at hlt H.out he
        have he' : (zs[k] == x) = true := by simpa using he
        have he2 := Lib.hid he
        clear he
        go_wp2
        go_ret
        exact ⟨ret_int hfin.out.symm, rfl⟩
      · have hnext : Hid (∀ j (hj : j < zs.length), j < k + 1 → zs[j] ≠ x) := fun j hl hj => by
          rcases Nat.lt_or_eq_of_le (Nat.le_of_lt_succ hj) with h | h
          · exact H.out j hl h
          · subst h; exact he
        have he' : (zs[k] == x) = false := by simpa using he
        clear he
        go_wp2
        go_round
        case rel => exact ⟨k + 1, by omega, by go_num, hnext.out⟩
        case measure => simp [intOf]; omega
    · have hfin : Hid (idxI zs x = -1) := idxI_none fun j hj => H.out j hj (by omega)
      go_wp2
      go_ret
      exact ⟨ret_int hfin.out.symm, rfl⟩

theorem has_any (a : Option Addr) (n cap : Nat) (zs : List Int) (x : Int) (w : World) (hl : n = zs.length) (hbig : zs.length ≤ 9223372036854775807) (hc : Cells w a (ints zs)) :
    Calls Tryz.prog 11 #[.slice a n cap, .int .i64 x] w fun e w' => e = .returned (.bool (decide (x ∈ zs))) ∧ w = w' := by
  subst hl
  have hfin : Hid (decide (0 ≤ idxI zs x) = decide (x ∈ zs)) := idxI_nonneg zs x
  go_enter Tryz.func11, Tryz.ntmps11
  go_wp2_with (go_at_call 21; refine (index_any _ _ _ _ _ _ rfl hbig hc).mono ?_; rintro e w' ⟨rfl, rfl⟩)
  go_ret
  exact ⟨ret_bool hfin.out, rfl⟩

set_option maxHeartbeats 400000 in
theorem rising_any (a : Option Addr) (n cap : Nat) (zs : List Int) (w : World) (hl : n = zs.length) (hbig : zs.length ≤ 9223372036854775807) (hc : Cells w a (ints zs)) :
    Calls Tryz.prog 28 #[.slice a n cap] w fun e w' => e = .returned (.bool (incr zs)) ∧ ∃ n, w' = w.drewN n := by
  subst hl
  go_enter Tryz.func28, Tryz.ntmps28
  go_wp2
  go_loopw [3] (fun i wr => ∃ k n : Nat, 1 ≤ k ∧ i = .int .i64 k ∧ wr = w.drewN n ∧ ∀ j (hj : j < zs.length), 0 < j → j < k → zs[j - 1] < zs[j]) (fun i _ => zs.length - (intOf i).toNat)
  case atStart => exact ⟨1, 0, Nat.le_refl _, rfl, rfl, fun j _ h0 h1 => by omega⟩
  case round =>
    obtain ⟨k, n, hk, rfl, rfl, H0⟩ := hrel
    have H := Lib.hid H0
    clear H0
    by_cases hlt : k < zs.length
    · obtain ⟨b, off, rfl, _, hr⟩ := hc.at (by simp; omega)
      have hcell := ints_cell hr hlt
      have hcell' := ints_cell (j := k - 1) hr (by omega)
      clear hr hc
      by_cases he : zs[k] ≤ zs[k - 1]
      · have hfin : Hid (incr zs = false) := incr_false hk hlt he
        go_wp2
        go_quiet (fail)
        go_wp2
        go_ret
        exact ⟨ret_bool hfin.out.symm, _, World.drewN_drewN _ _ _⟩
      · have hnext : Hid (∀ j (hj : j < zs.length), 0 < j → j < k + 1 → zs[j - 1] < zs[j]) := fun j h2 h0 h1 => by
          rcases Nat.lt_or_eq_of_le (Nat.le_of_lt_succ h1) with h | h
          · exact H.out j h2 h0 h
          · subst h; omega
        go_wp2
        go_quiet (fail)
        go_wp2
        go_roundw
        case rel => exact ⟨k + 1, _, by omega, by go_num, rfl, hnext.out⟩
        case measure => simp [intOf]; omega
    · have hfin : Hid (incr zs = true) := incr_true fun j hj h0 => H.out j hj h0 (by omega)
      go_wp2
      go_ret
      exact ⟨ret_bool hfin.out.symm, _, rfl⟩
end Go.Proofs.YtagnmdhdogaijaaGreat
