/- laws.sameLists: lists of lists that hold the same. -/
import Derived.Test.YtpmphefmmcbpaaaGreatInts2
import Derived.Test.YtpmphefmmcbpaaaGreatEqRows
namespace Go.Proofs.YtpmphefmmcbpaaaGreat
open Go.RowKit

set_option maxHeartbeats 1000000 in
/-- Two lists of lists that hold the same are found to be the same. -/
theorem sameLists_true (a1 a2 : Option Addr) (c1 c2 n : Nat) (vs1 vs2 : List Value) (L : List (List Int)) (w : World) (hn : n = L.length) (hL : L.length ≤ 1000) (hl : ∀ c ∈ L, c.length ≤ 1000)
    (h1 : Cells w a1 vs1) (h2 : Cells w a2 vs2) (e1 : vs1.length = n) (e2 : vs2.length = n)
    (hr1 : ∀ k (hk : k < L.length), ∃ ax cx, vs1[k]? = some (.slice ax L[k].length cx) ∧ Cells w ax (ints L[k])) (hr2 : ∀ k (hk : k < L.length), ∃ ax cx, vs2[k]? = some (.slice ax L[k].length cx) ∧ Cells w ax (ints L[k])) :
    Calls Tryz.prog 28 #[.slice a1 n c1, .slice a2 n c2] w fun e w' => e = .returned (.bool true) ∧ ∃ q, w' = w.drewN q := by
  have hef : Hid (Calls Tryz.prog 65 #[.slice a1 n c1, .slice a2 n c2, .func (.func 21) #[] #[]] w fun e w' => e = .returned (.bool true) ∧ ∃ q, w' = w.drewN q) := by
    unfold Hid
    have hR : Hid (∀ k, k < n → ∃ b1 o1 b2 o2 ax cx ay cy m, a1 = some ⟨b1, o1, none⟩ ∧ a2 = some ⟨b2, o2, none⟩ ∧ w.cell? ⟨b1, o1 + k, none⟩ = some (.slice ax m cx) ∧ w.cell? ⟨b2, o2 + k, none⟩ = some (.slice ay m cy) ∧
        ∀ q, Calls Tryz.prog 21 #[.slice ax m cx, .slice ay m cy] (w.drewN q) fun e w' => e = .returned (.bool true) ∧ ∃ m, w' = (w.drewN q).drewN m) := fun k hk => by
      have hkL : k < L.length := by omega
      obtain ⟨b1, o1, x1, _, y1⟩ := h1.at (by omega)
      obtain ⟨b2, o2, x2, _, y2⟩ := h2.at (by omega)
      obtain ⟨ax, cx, z1, z2⟩ := hr1 k hkL
      obtain ⟨ay, cy, z3, z4⟩ := hr2 k hkL
      refine ⟨b1, o1, b2, o2, ax, cx, ay, cy, L[k].length, x1, x2, y1 _ _ z1, y2 _ _ z3, fun q => ?_⟩
      have hlk := hl _ (List.getElem_mem hkL)
      have := eqInts_any ax ay _ _ cx cy L[k] L[k] (w.drewN q) rfl rfl (by omega) (by omega) (z2.drewN q) (z4.drewN q)
      rw [decide_eq_true (rfl : L[k] = L[k])] at this
      exact this
    have hnb : n ≤ 1000 := by omega
    clear h1 h2 hr1 hr2 e1 e2 hl hn hL
    go_enter Tryz.func65, Tryz.ntmps65
    go_wp2_with fail
    go_loopw [7, 8, 9, 17] (fun _ _ _ iv wr => ∃ (k q : Nat), k ≤ n ∧ iv = .int .i64 k ∧ wr = w.drewN q) (fun _ _ _ iv _ => n - (intOf iv).toNat)
    case atStart => exact ⟨0, 0, Nat.zero_le _, rfl, rfl⟩
    case round =>
      obtain ⟨k, q, hk, rfl, rfl⟩ := hrel
      by_cases hlt : k < n
      · obtain ⟨b1, o1, b2, o2, ax, cx, ay, cy, m, rfl, rfl, x1, x2, hq⟩ := hR.out k hlt
        have x1q : (w.drewN q).cell? ⟨b1, o1 + k, none⟩ = some (.slice ax m cx) := x1
        have x2q : (w.drewN q).cell? ⟨b2, o2 + k, none⟩ = some (.slice ay m cy) := x2
        have hqh := Lib.hid (hq q)
        clear hq x1 x2
        go_wp2_with fail
        refine (unhide hqh).mono ?_
        rintro e w' ⟨rfl, p, rfl⟩
        clear x1q x2q hqh
        go_wp2_with fail
        go_roundw
        case rel => exact ⟨k + 1, q + p, by omega, by go_num, rfl⟩
        case measure => simp [intOf]; omega
      · go_wp2_with fail
        go_ret
        exact ⟨rfl, q, rfl⟩
  clear h1 h2 hr1 hr2 e1 e2 hl hL hn
  go_enter Tryz.func28, Tryz.ntmps28
  go_wp2_with fail
  refine (unhide hef).mono ?_
  rintro e w' ⟨rfl, q, rfl⟩
  go_wp2_with fail
  go_ret
  exact ⟨rfl, q, rfl⟩
end Go.Proofs.YtpmphefmmcbpaaaGreat
