/- slices.Compare at lists of numbers. -/
import Derived.Test.YtanbhibllilccaaGreatInts2
import Derived.Test.YtanbhibllilccaaGreatShelf
namespace Go.Proofs.YtanbhibllilccaaGreat
open Go.RowKit

/-- Which of two lists stands first. -/
def lexC : List Int → List Int → Int
  | [], [] => 0
  | [], _ :: _ => -1
  | _ :: _, [] => 1
  | a :: s, b :: t => if a < b then -1 else if b < a then 1 else lexC s t

theorem lexC_self (s : List Int) : lexC s s = 0 := by
  induction s with
  | nil => rfl
  | cons a s ih => simp [lexC, ih]

theorem lexC_heads {x y : Int} (s t : List Int) (h : x ≠ y) : lexC (x :: s) (y :: t) = if x < y then -1 else 1 := by
  by_cases h1 : x < y
  · simp [lexC, h1]
  · have h2 : y < x := by omega
    simp [lexC, h1, h2]

theorem lexC_drop {xs ys : List Int} {k : Nat} (h1 : k < xs.length) (h2 : k < ys.length) : lexC (xs.drop k) (ys.drop k) = if xs[k] < ys[k] then -1 else if ys[k] < xs[k] then 1 else lexC (xs.drop (k + 1)) (ys.drop (k + 1)) := by
  rw [List.drop_eq_getElem_cons h1, List.drop_eq_getElem_cons h2]
  rfl

set_option maxHeartbeats 1000000 in
theorem lexCompare_any (aa ab : Option Addr) (na nb ca cb : Nat) (xs ys : List Int) (w : World) (ha : na = xs.length) (hb : nb = ys.length) (hla : na ≤ 1000000) (hlb : nb ≤ 1000000) (hca : Cells w aa (ints xs)) (hcb : Cells w ab (ints ys)) :
    Calls Tryz.prog 42 #[.slice aa na ca, .slice ab nb cb] w fun e w' => e = .returned (.int .i64 (lexC xs ys)) ∧ ∃ q, w' = w.drewN q := by
  have hca' := Lib.hid hca
  have hcb' := Lib.hid hcb
  have hah := Lib.hid ha
  have hbh := Lib.hid hb
  clear hca hcb ha hb
  go_enter Tryz.func42, Tryz.ntmps42
  go_wp2_with fail
  go_loopw [5, 6, 7, 8, 11] (fun _ _ _ _ i wr => ∃ k q : Nat, k ≤ na ∧ k ≤ nb ∧ i = .int .i64 k ∧ wr = w.drewN q ∧ lexC xs ys = lexC (xs.drop k) (ys.drop k)) (fun _ _ _ _ i _ => na - (intOf i).toNat)
  case atStart => exact ⟨0, 0, Nat.zero_le _, Nat.zero_le _, rfl, rfl, rfl⟩
  case round =>
    obtain ⟨k, q, hk, hk2, rfl, rfl, hx0⟩ := hrel
    have hx := Lib.hid hx0
    clear hx0
    by_cases hlt : k < na
    · by_cases hlt2 : k < nb
      · have hxl : k < xs.length := by rw [← hah.out]; exact hlt
        have hyl : k < ys.length := by rw [← hbh.out]; exact hlt2
        obtain ⟨ba, oa, rfl, _, hra⟩ := hca'.out.at (by rw [ints_length]; omega)
        obtain ⟨bb, ob, rfl, _, hrb⟩ := hcb'.out.at (by rw [ints_length]; omega)
        have c1 : (w.drewN q).cell? ⟨ba, oa + k, none⟩ = some (.int .i64 xs[k]) := hra _ _ (ints_get xs k hxl)
        have c2 : ∀ p, (w.drewN p).cell? ⟨bb, ob + k, none⟩ = some (.int .i64 ys[k]) := fun p => hrb _ _ (ints_get ys k hyl)
        have hstep := Lib.hid (lexC_drop hxl hyl)
        obtain ⟨x, hxe⟩ : ∃ x, x = xs[k] := ⟨_, rfl⟩
        obtain ⟨y, hye⟩ : ∃ y, y = ys[k] := ⟨_, rfl⟩
        rw [← hxe] at c1 hstep
        rw [← hye] at c2 hstep
        have hcmp := Lib.hid (Tryz.cmp_Compare_int x y)
        clear hra hrb hxe hye
        have hd2 : ¬ nb ≤ k := by omega
        go_wp2_with fail
        refine (hcmp.out _).mono ?_
        rintro e w' ⟨rfl, rfl⟩
        by_cases h1 : x < y
        · have hc : Lib.compareInt x y = -1 := by unfold Lib.compareInt; rw [if_pos h1]
          have hfin : Hid (lexC xs ys = -1) := by unfold Hid; rw [hx.out, hstep.out, if_pos h1]
          rw [hc]
          clear hstep hx h1 c1 c2 hcmp hc
          go_wp2_with fail
          go_ret
          exact ⟨by rw [hfin.out]; rfl, q, rfl⟩
        · by_cases h2 : y < x
          · have hc : Lib.compareInt x y = 1 := by unfold Lib.compareInt; rw [if_neg h1, if_pos h2]
            have hfin : Hid (lexC xs ys = 1) := by unfold Hid; rw [hx.out, hstep.out, if_neg h1, if_pos h2]
            rw [hc]
            clear hstep hx h1 h2 c1 c2 hcmp hc
            go_wp2_with fail
            go_ret
            exact ⟨by rw [hfin.out]; rfl, q, rfl⟩
          · have hc : Lib.compareInt x y = 0 := by unfold Lib.compareInt; rw [if_neg h1, if_neg h2]
            have hfin : Hid (lexC xs ys = lexC (xs.drop (k + 1)) (ys.drop (k + 1))) := by unfold Hid; rw [hx.out, hstep.out, if_neg h1, if_neg h2]
            rw [hc]
            clear hstep hx h1 h2 c1 c2 hcmp hc
            go_wp2_with fail
            go_roundw
            case rel => exact ⟨k + 1, q, by omega, by omega, by go_num, rfl, hfin.out⟩
            case measure => simp [intOf]; omega
      · have hkb : nb = k := by omega
        have hxl : k < xs.length := by rw [← hah.out]; exact hlt
        obtain ⟨ba, oa, rfl, _, hra⟩ := hca'.out.at (by rw [ints_length]; omega)
        have c1 : (w.drewN q).cell? ⟨ba, oa + k, none⟩ = some (.int .i64 xs[k]) := hra _ _ (ints_get xs k hxl)
        have hfin : Hid (lexC xs ys = 1) := by
          unfold Hid
          rw [hx.out, List.drop_eq_getElem_cons hxl, (List.drop_of_length_le (by rw [← hbh.out]; omega) : ys.drop k = [])]
          rfl
        obtain ⟨x, hxe⟩ : ∃ x, x = xs[k] := ⟨_, rfl⟩
        rw [← hxe] at c1
        clear hra hxe hx hk2
        subst hkb
        go_wp2_with fail
        go_ret
        exact ⟨by rw [hfin.out]; rfl, q, rfl⟩
    · have hka : na = k := by omega
      have hdx : xs.drop k = [] := List.drop_of_length_le (by rw [← hah.out]; omega)
      by_cases hlt2 : k < nb
      · have hyl : k < ys.length := by rw [← hbh.out]; exact hlt2
        have hfin : Hid (lexC xs ys = -1) := by
          unfold Hid
          rw [hx.out, hdx, List.drop_eq_getElem_cons hyl]
          rfl
        clear hx hdx hk
        subst hka
        go_wp2_with fail
        go_ret
        exact ⟨by rw [hfin.out]; rfl, q, rfl⟩
      · have hfin : Hid (lexC xs ys = 0) := by
          unfold Hid
          rw [hx.out, hdx, (List.drop_of_length_le (by rw [← hbh.out]; omega) : ys.drop k = [])]
          rfl
        clear hx hdx hk
        subst hka
        go_wp2_with fail
        go_ret
        exact ⟨by rw [hfin.out]; rfl, q, rfl⟩
end Go.Proofs.YtanbhibllilccaaGreat
