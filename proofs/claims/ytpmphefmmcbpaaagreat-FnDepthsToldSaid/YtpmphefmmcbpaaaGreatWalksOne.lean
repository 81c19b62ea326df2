/- laws.walksOne. -/
import Derived.Test.YtpmphefmmcbpaaaGreatOneEdge
namespace Go.Proofs.YtpmphefmmcbpaaaGreat
open Go.RowKit

theorem one_succ : (∀ y, y ∈ gSuccF (oneG true 1) [] 1 ↔ y = 2) ∧ ∀ y, y ∉ gSuccF (oneG true 1) [] 2 := by
  have hok : okGraph (oneG true 1) = true := by decide
  have hf : ∀ x y, y ∈ gSuccF (oneG true 1) [] x ↔ y ∈ gSucc (oneG true 1) x := fun x y => by
    unfold gSuccF succF
    rw [List.mem_filter]
    exact ⟨fun h => h.1, fun h => ⟨h, rfl⟩⟩
  refine ⟨fun y => ?_, fun y => ?_⟩
  · rw [hf, gSucc_mem hok (by decide)]
    constructor
    · rintro ⟨h1, h2⟩
      have h1' : y = 1 ∨ y = 2 := by simpa [oneG] using h1
      rcases h1' with rfl | rfl
      · exact absurd h2 (by decide)
      · rfl
    · rintro rfl
      exact ⟨by decide, by decide⟩
  · rw [hf, gSucc_mem hok (by decide)]
    rintro ⟨h1, h2⟩
    have h1' : y = 1 ∨ y = 2 := by simpa [oneG] using h1
    rcases h1' with rfl | rfl
    · exact absurd h2 (by decide)
    · exact absurd h2 (by decide)

theorem one_64 : ∀ x ∈ (oneG true 1).nodes, In64 x := fun x hx => by
  have h1' : x = 1 ∨ x = 2 := by simpa [oneG] using hx
  rcases h1' with rfl | rfl <;> (unfold In64; decide)

set_option maxRecDepth 100000 in
set_option maxHeartbeats 4000000 in
theorem walksOne_any (w : World) : Calls Tryz.prog 12 #[] w fun e w' => e = .returned (.bool true) ∧ Below w.heap.size w w' := by
  have hone := Lib.hid (oneEdge_any true 1)
  go_enter Tryz.func12, Tryz.ntmps12
  go_wp2_with fail
  refine (unhide hone _).mono ?_
  rintro e w1 ⟨an, ae, rfl, hg1, hb1⟩
  have hB := Lib.hid (bfirst_any (oneG true 1) an 2 ae 1 1 2 [] none 0 w1 (by decide) (by decide) hg1 (by decide) (by decide) one_64 (by decide) (.inl rfl))
  have hb1h := Lib.hid hb1
  clear hg1 hb1
  go_wp2_with fail
  refine (unhide hB).mono ?_
  rintro e w2 ⟨L, a2, c2, ok, hend, _, rfl, hc2, hb2⟩
  obtain ⟨rfl, rfl⟩ := one_bfs one_succ.1 one_succ.2 hend
  have hb2' := Lib.hid (hb1h.out.trans (hb2.mono hb1h.out.size))
  have hc2h := Lib.hid hc2
  clear hb2 hb1h hend hc2 hB
  have e1 : ([(1, 0), (2, 1)] : List (Int × Int)).length = 2 := rfl
  rw [e1]
  simp only [if_true]
  go_wp2_with fail
  refine (unhide hone _).mono ?_
  rintro e w3 ⟨an3, ae3, rfl, hg3, hb3⟩
  have hD := Lib.hid (dfirst_any (oneG true 1) an3 2 ae3 1 1 2 [] none 0 w3 (by decide) (by decide) hg3 (by decide) (by decide) one_64 (by decide) (.inl rfl))
  have hb3' := Lib.hid (hb2'.out.trans (hb3.mono hb2'.out.size))
  have hc3 := Lib.hid (hc2h.out.below hb3)
  clear hg3 hb3 hb2' hc2h
  go_wp2_with fail
  refine (unhide hD).mono ?_
  rintro e w4 ⟨V, a4, c4, ok, hend, _, rfl, hc4, hb4⟩
  obtain ⟨rfl, rfl⟩ := one_dfs one_succ.1 one_succ.2 hend
  have hb4' := Lib.hid (hb3'.out.trans (hb4.mono hb3'.out.size))
  have hc5 := Lib.hid (hc3.out.below hb4)
  have hc4h := Lib.hid hc4
  clear hb4 hb3' hend hc4 hD hc3
  have e2 : ([1, 2] : List Int).length = 2 := rfl
  rw [e2]
  simp only [if_true]
  go_wp2_with fail
  refine (visEq_true a2 _ c2 2 2 [(1, 0), (2, 1)] _ rfl (by omega) (hc5.out.alloc _) (cells_new w4 #[.int .i64 1, .int .i64 0, .int .i64 2, .int .i64 1] 37)).mono ?_
  rintro e w5 ⟨rfl, q5, hw5⟩
  have hb45 : Below w4.heap.size w4 w5 := by rw [hw5]; exact below_draws (alloc_below w4 _) q5
  have hb5 := Lib.hid (hb4'.out.trans (hb45.mono hb4'.out.size))
  have hc45 := Lib.hid (hc4h.out.below hb45)
  clear hw5 hb45 hb4' hc5 hc4h
  go_wp2_with fail
  refine (eqInts_any a4 _ 2 2 c4 2 [1, 2] [1, 2] _ rfl rfl (by decide) (by decide) (hc45.out.alloc _) (cells_new w5 #[.int .i64 1, .int .i64 2] 3)).mono ?_
  rintro e w6 ⟨rfl, q6, hw6⟩
  have hb6 : Hid (Below w.heap.size w w6) := by unfold Hid; rw [hw6]; exact below_draws (hb5.out.alloc hb5.out.size _) q6
  have e3 : decide (([1, 2] : List Int) = [1, 2]) = true := by decide
  rw [e3]
  clear hw6
  go_wp2_with fail
  go_ret
  exact ⟨rfl, hb6.out⟩
end Go.Proofs.YtpmphefmmcbpaaaGreat
