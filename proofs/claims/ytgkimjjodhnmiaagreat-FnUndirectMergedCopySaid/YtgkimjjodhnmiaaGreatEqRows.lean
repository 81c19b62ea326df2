/- slices.Equal at []int and []bool. -/
import Derived.Test.YtgkimjjodhnmiaaGreatProg
import Derived.Test.YtgkimjjodhnmiaaGreatBase
import Derived.KernelRfl
import Derived.Deep.QuietTactic
import Derived.BigQuiet
namespace Go.Proofs.YtgkimjjodhnmiaaGreat
open Go.RowKit

/-- A list of Booleans as cells. -/
def bools (zs : List Bool) : List Value := zs.map Value.bool
theorem bools_length (zs : List Bool) : (bools zs).length = zs.length := by simp [bools]
theorem bools_get (zs : List Bool) (j : Nat) (h : j < zs.length) : (bools zs)[j]? = some (.bool zs[j]) := by simp [bools, h]

set_option maxHeartbeats 1000000 in
theorem eqInts_any (a1 a2 : Option Addr) (n1 n2 c1 c2 : Nat) (xs ys : List Int) (w : World) (l1 : n1 = xs.length) (l2 : n2 = ys.length) (hs : xs.length ≤ 1048576) (hs' : ys.length ≤ 1048576) (h1 : Cells w a1 (ints xs)) (h2 : Cells w a2 (ints ys)) :
    Calls Tryz.prog 25 #[.slice a1 n1 c1, .slice a2 n2 c2] w fun e w' => e = .returned (.bool (decide (xs = ys))) ∧ ∃ q, w' = w.drewN q := by
  subst l1; subst l2
  by_cases hl : xs.length = ys.length
  · have hl' : ((xs.length : Int) != (ys.length : Int)) = false := by rw [hl]; simp
    have hlh := Lib.hid hl
    have h1h := Lib.hid h1
    have h2h := Lib.hid h2
    clear hl h1 h2
    go_enter Tryz.func25, Tryz.ntmps25
    go_wp2
    go_loopw [13] (fun i wr => ∃ k q : Nat, k ≤ xs.length ∧ i = .int .i64 k ∧ wr = w.drewN q ∧ xs.take k = ys.take k) (fun i _ => xs.length - (intOf i).toNat)
    case atStart => exact ⟨0, 0, Nat.zero_le _, rfl, rfl, rfl⟩
    case round =>
      clear hl'
      obtain ⟨k, q, hk, rfl, rfl, H0⟩ := hrel
      have H := Lib.hid H0
      clear H0
      by_cases hlt : k < xs.length
      · have hlt2 : k < ys.length := by have := hlh.out; omega
        obtain ⟨b1, o1, rfl, _, r1⟩ := h1h.out.at (by rw [ints_length]; omega)
        obtain ⟨b2, o2, rfl, _, r2⟩ := h2h.out.at (by rw [ints_length]; omega)
        have k1 := r1 _ _ (ints_get xs k hlt)
        have k2 := r2 _ _ (ints_get ys k hlt2)
        obtain ⟨x, hx⟩ : ∃ x, x = xs[k] := ⟨_, rfl⟩
        obtain ⟨y, hy⟩ : ∃ y, y = ys[k] := ⟨_, rfl⟩
        rw [← hx] at k1
        rw [← hy] at k2
        have hsucc : Hid (x = y → xs.take (k + 1) = ys.take (k + 1)) := fun e => by
          rw [List.take_succ_eq_append_getElem hlt, List.take_succ_eq_append_getElem hlt2, H.out, ← hx, ← hy, e]
        have hno : Hid (x ≠ y → decide (xs = ys) = false) := fun e => decide_eq_false fun e' => by
          subst e'; exact e (hx.trans hy.symm)
        clear hx hy r1 r2
        by_cases hxy : x = y
        · subst hxy
          have hst : Hid (xs.take (k + 1) = ys.take (k + 1)) := hsucc.out rfl
          clear hsucc hno
          go_wp2
          go_quiet (fail)
          go_wp2
          go_roundw
          case rel => exact ⟨k + 1, _, by omega, by go_num, rfl, hst.out⟩
          case measure => simp [intOf]; omega
        · have hst : Hid (decide (xs = ys) = false) := hno.out hxy
          have hne : (x == y) = false := by simpa using hxy
          clear hsucc hno hxy
          go_wp2
          go_quiet (fail)
          go_wp2
          go_ret
          exact ⟨ret_bool hst.out.symm, _, World.drewN_drewN _ _ _⟩
      · have hfin : Hid (decide (xs = ys) = true) := decide_eq_true (by
          have h := H.out
          rwa [List.take_of_length_le (by omega), List.take_of_length_le (by have := hlh.out; omega)] at h)
        go_wp2
        go_ret
        exact ⟨ret_bool hfin.out.symm, _, rfl⟩
  · have hl' : ((xs.length : Int) != (ys.length : Int)) = true := by simp; omega
    have hfin : Hid (decide (xs = ys) = false) := decide_eq_false fun e => hl (by rw [e])
    clear hl h1 h2
    go_enter Tryz.func25, Tryz.ntmps25
    go_wp2
    go_ret
    exact ⟨ret_bool hfin.out.symm, 0, rfl⟩
end Go.Proofs.YtgkimjjodhnmiaaGreat
