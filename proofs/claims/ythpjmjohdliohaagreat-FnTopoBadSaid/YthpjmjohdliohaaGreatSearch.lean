/- slices.BinarySearch at []int64, cmp.Less and isNaN at int64. -/
import Derived.Test.YthpjmjohdliohaaGreatBase
namespace Go.Proofs.YthpjmjohdliohaaGreat
open Go.RowKit

/-- How many numbers are less: where a number stands, or would stand, in an ascending list. -/
def posOf (zs : List Int) (x : Int) : Nat := zs.countP fun z => decide (z < x)

theorem posOf_eq {zs : List Int} {x : Int} {k : Nat} (hk : k ≤ zs.length) (h1 : ∀ j (hj : j < zs.length), j < k → zs[j] < x) (h2 : ∀ j (hj : j < zs.length), k ≤ j → x ≤ zs[j]) : posOf zs x = k := by
  unfold posOf
  rw [← List.take_append_drop k zs, List.countP_append]
  have e1 : (zs.take k).countP (fun z => decide (z < x)) = k := by
    rw [List.countP_eq_length.2]
    · simp; omega
    · intro z hz
      obtain ⟨j, hj, rfl⟩ := List.mem_iff_getElem.1 hz
      simp only [List.length_take] at hj
      simpa using h1 j (by omega) (by omega)
  have e2 : (zs.drop k).countP (fun z => decide (z < x)) = 0 := by
    rw [List.countP_eq_zero]
    intro z hz
    obtain ⟨j, hj, rfl⟩ := List.mem_iff_getElem.1 hz
    simp only [List.length_drop] at hj
    have := h2 (k + j) (by omega) (by omega)
    simp
    omega
  omega

theorem posOf_le (zs : List Int) (x : Int) : posOf zs x ≤ zs.length := List.countP_le_length

/-- In an ascending list a number that is in it stands at its place. -/
theorem posOf_at {zs : List Int} (hs : zs.Pairwise (· < ·)) {k : Nat} (hk : k < zs.length) : posOf zs zs[k] = k := by
  refine posOf_eq (by omega) (fun j hj hjk => List.pairwise_iff_getElem.1 hs j k hj hk hjk) fun j hj hkj => ?_
  rcases Nat.lt_or_eq_of_le hkj with h | h
  · have := List.pairwise_iff_getElem.1 hs k j hk hj h; omega
  · subst h; omega
theorem posOf_mem {zs : List Int} (hs : zs.Pairwise (· < ·)) {x : Int} (hx : x ∈ zs) : ∃ h : posOf zs x < zs.length, zs[posOf zs x] = x := by
  obtain ⟨k, hk, rfl⟩ := List.mem_iff_getElem.1 hx
  have := posOf_at hs hk
  exact ⟨by omega, by simp only [this]⟩

theorem isNaN_any (x : Int) (w : World) : Calls Tryz.prog 109 #[.int .i64 x] w fun e w' => e = .returned (.bool false) ∧ w = w' := by
  go_enter Tryz.func109, Tryz.ntmps109
  go_wp2
  go_ret
  exact ⟨ret_bool (by simp), rfl⟩
theorem isNaN2_any (x : Int) (w : World) : Calls Tryz.prog 119 #[.int .i64 x] w fun e w' => e = .returned (.bool false) ∧ w = w' := by
  go_enter Tryz.func119, Tryz.ntmps119
  go_wp2
  go_ret
  exact ⟨ret_bool (by simp), rfl⟩
theorem less_any (x y : Int) (w : World) : Calls Tryz.prog 116 #[.int .i64 x, .int .i64 y] w fun e w' => e = .returned (.bool (decide (x < y))) ∧ w = w' := by
  go_enter Tryz.func116, Tryz.ntmps116
  go_wp2_with (go_at_call 109; refine (isNaN_any _ _).mono ?_; rintro e w' ⟨rfl, rfl⟩)
  go_ret
  exact ⟨ret_bool (by simp), rfl⟩

theorem ret_pos {p q : Nat} {a b : Bool} (h : p = q) (k : a = b) : Ending.returned (.tuple #[.int .i64 (q : Int), .bool b]) = .returned (.tuple #[.int .i64 (p : Int), .bool a]) := by rw [h, k]

set_option maxHeartbeats 1000000 in
theorem search_any (a : Option Addr) (n cap : Nat) (zs : List Int) (x : Int) (w : World) (hl : n = zs.length) (hsm : zs.length ≤ 1048576) (hc : Cells w a (ints zs)) (hs : zs.Pairwise (· < ·)) :
    Calls Tryz.prog 91 #[.slice a n cap, .int .i64 x] w fun e w' => e = .returned (.tuple #[.int .i64 (posOf zs x : Nat), .bool (decide (x ∈ zs))]) ∧ w = w' := by
  subst hl
  go_enter Tryz.func91, Tryz.ntmps91
  go_wp2
  go_loop [7, 8] (fun lo hi => ∃ l h : Nat, l ≤ h ∧ h ≤ zs.length ∧ lo = .int .i64 l ∧ hi = .int .i64 h ∧ (∀ j (hj : j < zs.length), j < l → zs[j] < x) ∧ (∀ j (hj : j < zs.length), h ≤ j → x ≤ zs[j]))
    (fun lo hi => (intOf hi).toNat - (intOf lo).toNat)
  case atStart => exact ⟨0, zs.length, Nat.zero_le _, Nat.le_refl _, rfl, rfl, fun j _ hj => absurd hj (Nat.not_lt_zero _), fun j h1 h2 => by omega⟩
  case round =>
    obtain ⟨l, h, hlh, hh, rfl, rfl, H10, H20⟩ := hrel
    have H1 := Lib.hid H10
    have H2 := Lib.hid H20
    have hs' := Lib.hid hs
    clear H10 H20 hs
    by_cases hlt : l < h
    · obtain ⟨b, off, rfl, _, hr⟩ := hc.at (by simp; omega)
      have hcell := ints_cell (j := (l + h) / 2) hr (by omega)
      clear hr hc
      have hmid : Hid ((l + h) / 2 < zs.length) := by show (l + h) / 2 < zs.length; omega
      by_cases hq : zs[(l + h) / 2]'hmid.out < x
      · have hq' : decide (zs[(l + h) / 2]'hmid.out < x) = true := decide_eq_true hq
        go_wp2_with (go_at_call 116; refine (less_any _ _ _).mono ?_; rintro e w' ⟨rfl, rfl⟩)
        go_round
        case rel =>
          refine ⟨(l + h) / 2 + 1, h, by omega, hh, by go_num, rfl, fun j hj hlt' => ?_, H2.out⟩
          rcases Nat.lt_or_eq_of_le (Nat.le_of_lt_succ hlt') with hx | hx
          · have := List.pairwise_iff_getElem.1 hs'.out j ((l + h) / 2) hj hmid.out hx
            have := hq'
            simp only [decide_eq_true_eq] at this
            omega
          · subst hx; exact of_decide_eq_true hq'
        case measure => simp only [intOf]; omega
      · have hq' : decide (zs[(l + h) / 2]'hmid.out < x) = false := decide_eq_false hq
        go_wp2_with (go_at_call 116; refine (less_any _ _ _).mono ?_; rintro e w' ⟨rfl, rfl⟩)
        go_round
        case rel =>
          refine ⟨l, (l + h) / 2, by omega, by omega, rfl, by go_num, H1.out, fun j hj hge => ?_⟩
          have h0 : x ≤ zs[(l + h) / 2]'hmid.out := by have := of_decide_eq_false hq'; omega
          rcases Nat.lt_or_eq_of_le hge with hx | hx
          · have := List.pairwise_iff_getElem.1 hs'.out ((l + h) / 2) j hmid.out hj hx
            omega
          · subst hx; exact h0
        case measure => simp only [intOf]; omega
    · have : l = h := by omega
      subst this
      have hp : Hid (posOf zs x = l) := posOf_eq hh H1.out H2.out
      by_cases hll : l < zs.length
      · obtain ⟨b, off, rfl, _, hr⟩ := hc.at (by simp; omega)
        have hcell := ints_cell (j := l) hr hll
        clear hr hc
        by_cases he : zs[l] = x
        · have he' : (zs[l] == x) = true := by simpa using he
          have hm : Hid (decide (x ∈ zs) = true) := decide_eq_true (by rw [← he]; exact List.getElem_mem hll)
          clear he
          go_wp2
          go_ret2
          exact ⟨ret_pos hp.out hm.out, rfl⟩
        · have he' : (zs[l] == x) = false := by simpa using he
          have hm : Hid (decide (x ∈ zs) = false) := decide_eq_false fun hm => by
            obtain ⟨j, hj, hjx⟩ := List.mem_iff_getElem.1 hm
            rcases Nat.lt_trichotomy j l with hx | hx | hx
            · have := H1.out j hj hx; omega
            · subst hx; exact he hjx
            · have h1 := List.pairwise_iff_getElem.1 hs'.out l j hll hj hx
              have h2 := H2.out l hll (Nat.le_refl _)
              omega
          clear he
          go_wp2_with (go_at_call 119; refine (isNaN2_any _ _).mono ?_; rintro e w' ⟨rfl, rfl⟩)
          go_ret2
          exact ⟨ret_pos hp.out hm.out, rfl⟩
      · have hd : decide (l < zs.length) = false := decide_eq_false hll
        have hm : Hid (decide (x ∈ zs) = false) := decide_eq_false fun hm => by
          obtain ⟨j, hj, hjx⟩ := List.mem_iff_getElem.1 hm
          have := H1.out j hj (by omega)
          omega
        go_wp2
        go_ret2
        exact ⟨ret_pos hp.out hm.out, rfl⟩
end Go.Proofs.YthpjmjohdliohaaGreat
