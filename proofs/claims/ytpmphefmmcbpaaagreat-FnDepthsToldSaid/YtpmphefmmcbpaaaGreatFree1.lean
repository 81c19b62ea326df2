/- The closure of free. -/
import Derived.Test.YtpmphefmmcbpaaaGreatFree0
import Derived.Deep.DeepCutAuto
import Derived.Deep.RegionHeld3
namespace Go.Proofs.YtpmphefmmcbpaaaGreat
open Go.RowKit

/-- What the closure of free captured. -/
structure FreeAt (w : World) (dp bp : Nat) (dir : Bool) (barred : List (Int × Int × Int)) : Prop where
  d : w.cell? ⟨dp, 0, none⟩ = some (.bool dir)
  b : ∃ a c, w.cell? ⟨bp, 0, none⟩ = some (.slice a barred.length c) ∧ Cells w a (edgeCells barred)

theorem FreeAt.below {w w' : World} {dp bp : Nat} {dir : Bool} {barred : List (Int × Int × Int)} (h : FreeAt w dp bp dir barred) (hb : Below w.heap.size w w') : FreeAt w' dp bp dir barred := by
  obtain ⟨a, c, h1, h2⟩ := h.b
  exact ⟨cell_below hb h.d, a, c, cell_below hb h1, h2.below hb⟩

theorem from_method (n : Nat) (a b c : Value) (w : World) : (method (n + 1) 239 (.agg #[a, b, c]) "From").run Tryz.prog w = .ok (217, .agg #[a, b, c]) w := by kernel_rfl
theorem to_method (n : Nat) (a b c : Value) (w : World) : (method (n + 1) 239 (.agg #[a, b, c]) "To").run Tryz.prog w = .ok (219, .agg #[a, b, c]) w := by kernel_rfl

theorem box3 {w : World} {q : Nat} {a b c : Value} {ty : TypeId} (h : w.heap[q]? = some (.cells #[a, b, c] ty (0, 0))) (u v z : Value) :
    w.cell? ⟨q, 0, none⟩ = some a ∧ w.frozen? ⟨q, 0, none⟩ = false ∧ (w.setCell ⟨q, 0, none⟩ u).cell? ⟨q, 1, none⟩ = some b ∧ (w.setCell ⟨q, 0, none⟩ u).frozen? ⟨q, 1, none⟩ = false ∧
    ((w.setCell ⟨q, 0, none⟩ u).setCell ⟨q, 1, none⟩ v).cell? ⟨q, 2, none⟩ = some c ∧ ((w.setCell ⟨q, 0, none⟩ u).setCell ⟨q, 1, none⟩ v).frozen? ⟨q, 2, none⟩ = false ∧
    (((w.setCell ⟨q, 0, none⟩ u).setCell ⟨q, 1, none⟩ v).setCell ⟨q, 2, none⟩ z).heap[q]? = some (.cells #[u, v, z] ty (0, 0)) := by
  have h1 : (w.setCell ⟨q, 0, none⟩ u).heap[q]? = some (.cells #[u, b, c] ty (0, 0)) := (heap_set_self h 0 _).trans rfl
  have h2 : ((w.setCell ⟨q, 0, none⟩ u).setCell ⟨q, 1, none⟩ v).heap[q]? = some (.cells #[u, v, c] ty (0, 0)) := (heap_set_self h1 1 _).trans rfl
  have h3 : (((w.setCell ⟨q, 0, none⟩ u).setCell ⟨q, 1, none⟩ v).setCell ⟨q, 2, none⟩ z).heap[q]? = some (.cells #[u, v, z] ty (0, 0)) := (heap_set_self h2 2 _).trans rfl
  refine ⟨by simp [World.cell?, h], by simp [World.frozen?, h], by simp [World.cell?, h1], by simp [World.frozen?, h1], by simp [World.cell?, h2], by simp [World.frozen?, h2], h3⟩

set_option linter.unusedSimpArgs false in
set_option maxRecDepth 100000 in
set_option maxHeartbeats 4000000 in
theorem free_any (dp bp : Nat) (dir : Bool) (barred : List (Int × Int × Int)) (x y : Int) (wt : Nat) (w : World) (hn : barred.length ≤ 1048576) (hf : FreeAt w dp bp dir barred) :
    Calls Tryz.prog 76 #[edgeV x y wt, .pointer (some ⟨dp, 0, none⟩), .pointer (some ⟨bp, 0, none⟩)] w
      fun e w' => e = .returned (.bool (freeB dir barred x y)) ∧ Below w.heap.size w w' := by
  obtain ⟨hd, a, cb, hb, hc⟩ := hf
  simp only [edgeV]
  have hm1 := from_method
  have hm2 := to_method
  have hch := Lib.hid hc
  clear hc
  go_enter Tryz.func76, Tryz.ntmps76
  obtain ⟨X, hX⟩ : ∃ X, X = (ordP dir x y).1 := ⟨_, rfl⟩
  obtain ⟨Y, hY⟩ : ∃ Y, Y = (ordP dir x y).2 := ⟨_, rfl⟩
  have hord := Lib.hid (fun w1 => ordered_any dir x y 0 w1)
  rw [← hX, ← hY] at hord
  have hXh := Lib.hid hX
  have hYh := Lib.hid hY
  clear hX hY
  go_upto_region 1 with fail
  go_cut [5] (fun p wx => ∃ q, p = .pointer (some ⟨q, 0, none⟩) ∧ w.heap.size ≤ q ∧ wx.heap[q]? = some (.cells #[.int .i64 X, .int .i64 Y, .int .i64 0] 61 (0, 0)) ∧ Below w.heap.size w wx)
  case first =>
    have hd0 := Lib.hid hd
    have hB : Below w.heap.size w w.drew := drew_below w
    refine wp_region_noPanic ?_
    refine wp_region_held_drew (S := fun w' => Below w.heap.size w w' ∧ w'.cell? ⟨dp, 0, none⟩ = some (.bool dir)) (by kernel_rfl) ?_ (fun hHeld => ?_)
    · (try dsimp only); exact ⟨hB, cell_below hB hd0.out⟩
    refine wpAnyH_take (i := 0) (oi := _) (v := ?_) rfl (by kernel_rfl) (by kernel_rfl) (by kernel_rfl) (fun _ _ _ h => h) (Or.inl ⟨by rfl, ?_⟩) (by assumption) ?_
    rotate_left
    · intro w hSw; (try dsimp only at hSw); first | (obtain ⟨_, hSd⟩ := hSw; go_simp; try with_reducible rfl) | (go_simp; try with_reducible rfl)
    try simp only [Act.put, List.setIfInBounds_toArray, List.set_cons_zero, List.set_cons_succ]
    refine wpAnyH_take (i := 1) (oi := _) (v := ?_) rfl (by kernel_rfl) (by kernel_rfl) (by kernel_rfl) (fun _ _ _ h => h) (Or.inl ⟨by rfl, ?_⟩) (by assumption) ?_
    rotate_left
    · intro w hSw; (try dsimp only at hSw); first | (obtain ⟨_, hSd⟩ := hSw; go_simp; try with_reducible rfl) | (go_simp; try with_reducible rfl)
    try simp only [Act.put, List.setIfInBounds_toArray, List.set_cons_zero, List.set_cons_succ]
    refine wpAnyH_take (i := 4) (oi := _) (v := ?_) rfl (by kernel_rfl) (by kernel_rfl) (by kernel_rfl) (fun _ _ _ h => h) (Or.inl ⟨by rfl, ?_⟩) (by assumption) ?_
    rotate_left
    · intro w hSw; (try dsimp only at hSw); first | (obtain ⟨_, hSd⟩ := hSw; go_simp; try with_reducible rfl) | (go_simp; try with_reducible rfl)
    try simp only [Act.put, List.setIfInBounds_toArray, List.set_cons_zero, List.set_cons_succ]
    refine wpAnyH_ready (rs := [2, 9]) (by kernel_rfl) (by simp) ?_
    refine AllReadyH.cons (o := _) rfl (fun K hK => ?_) ?_
    · go_simp
      go_at_call 217
      refine (efrom_any x y wt _).mono ?_
      rintro e v0 ⟨rfl, hb6⟩
      have hB := below_trans hB hb6
      clear hb6
      go_wp2_with fail
      refine hK.out _ _ ?_ (fun hHeld => ?_)
      · (try dsimp only); exact ⟨hB, cell_below hB hd0.out⟩
      clear hK K
      try simp only [Act.put, List.setIfInBounds_toArray, List.set_cons_zero, List.set_cons_succ]
      refine wpAnyH_ready (rs := [3, 9]) (by kernel_rfl) (by simp) ?_
      refine AllReadyH.cons (o := _) rfl (fun K hK => ?_) ?_
      · go_simp
        go_at_call 43
        refine (number_any x _).mono ?_
        rintro e w9 ⟨rfl, rfl⟩
        go_wp2_with fail
        refine hK.out _ _ ?_ (fun hHeld => ?_)
        · (try dsimp only); exact ⟨hB, cell_below hB hd0.out⟩
        clear hK K
        try simp only [Act.put, List.setIfInBounds_toArray, List.set_cons_zero, List.set_cons_succ]
        refine wpAnyH_ready (rs := [5, 9]) (by kernel_rfl) (by simp) ?_
        refine AllReadyH.cons (o := _) rfl (fun K hK => ?_) ?_
        · go_simp
          go_at_call 219
          refine (eto_any x y wt _).mono ?_
          rintro e v2 ⟨rfl, hb6⟩
          have hB := below_trans hB hb6
          clear hb6
          go_wp2_with fail
          refine hK.out _ _ ?_ (fun hHeld => ?_)
          · (try dsimp only); exact ⟨hB, cell_below hB hd0.out⟩
          clear hK K
          try simp only [Act.put, List.setIfInBounds_toArray, List.set_cons_zero, List.set_cons_succ]
          refine wpAnyH_ready (rs := [6, 9]) (by kernel_rfl) (by simp) ?_
          refine AllReadyH.cons (o := _) rfl (fun K hK => ?_) ?_
          · go_simp
            go_at_call 43
            refine (number_any y _).mono ?_
            rintro e w9 ⟨rfl, rfl⟩
            go_wp2_with fail
            refine hK.out _ _ ?_ (fun hHeld => ?_)
            · (try dsimp only); exact ⟨hB, cell_below hB hd0.out⟩
            clear hK K
            try simp only [Act.put, List.setIfInBounds_toArray, List.set_cons_zero, List.set_cons_succ]
            refine wpAnyH_take (i := 7) (oi := _) (v := ?_) rfl (by kernel_rfl) (by kernel_rfl) (by kernel_rfl) (fun _ _ _ h => h) (Or.inl ⟨by rfl, ?_⟩) (by assumption) ?_
            rotate_left
            · intro w hSw; (try dsimp only at hSw); first | (obtain ⟨_, hSd⟩ := hSw; go_simp; try with_reducible rfl) | (go_simp; try with_reducible rfl)
            try simp only [Act.put, List.setIfInBounds_toArray, List.set_cons_zero, List.set_cons_succ]
            refine wpAnyH_ready (rs := [8, 9]) (by kernel_rfl) (by simp) ?_
            refine AllReadyH.cons (o := _) rfl (fun K hK => ?_) ?_
            · go_simp
              go_at_call 77
              refine (hord.out _).mono ?_
              rintro e v4 ⟨rfl, hb6⟩
              have hB := below_trans hB hb6
              clear hb6
              go_wp2_with fail
              refine hK.out _ _ ?_ (fun hHeld => ?_)
              · (try dsimp only); exact ⟨hB, cell_below hB hd0.out⟩
              clear hK K
              try simp only [Act.put, List.setIfInBounds_toArray, List.set_cons_zero, List.set_cons_succ]
              refine wpAnyH_ready (rs := [9]) (by kernel_rfl) (by simp) ?_
              refine AllReadyH.cons (o := _) rfl (fun K hK => ?_) ?_
              · go_simp
                refine hK.out _ _ ?_ (fun hHeld => ?_)
                · (try dsimp only); exact ⟨hB.alloc hB.size _, cell_below (hB.alloc hB.size _) hd0.out⟩
                clear hK K
                try simp only [Act.put, List.setIfInBounds_toArray, List.set_cons_zero, List.set_cons_succ]
                have hq := heap_alloc_new v4 (.cells #[.int .i64 0, .int .i64 0, .int .i64 0] 61)
                have hqg := hB.size
                have hB := hB.alloc hB.size (.cells #[.int .i64 0, .int .i64 0, .int .i64 0] 61)
                generalize World.alloc v4 (.cells #[.int .i64 0, .int .i64 0, .int .i64 0] 61) = wA at *
                refine wpAnyH_ready (rs := [10]) (by kernel_rfl) (by simp) ?_
                refine AllReadyH.cons (o := _) rfl (fun K hK => ?_) ?_
                · obtain ⟨b0, b1, b2, b3, b4, b5, b6⟩ := box3 hq (.int .i64 X) (.int .i64 Y) (.int .i64 0)
                  have b6h := Lib.hid b6
                  have hE := Lib.hid (Below.setCell (p := ⟨_, 2, none⟩) (Below.setCell (p := ⟨_, 1, none⟩) (Below.setCell (p := ⟨_, 0, none⟩) hB hqg (.int .i64 X)) hqg (.int .i64 Y)) hqg (.int .i64 0))
                  clear b6 hq hB hHeld
                  go_simp
                  refine hK.out _ _ ?_ (fun hHeld => ?_)
                  · (try dsimp only); exact ⟨hE.out, cell_below hE.out hd0.out⟩
                  clear hK K
                  try simp only [Act.put, List.setIfInBounds_toArray, List.set_cons_zero, List.set_cons_succ]
                  refine wpAnyH_done (by kernel_rfl) ?_ _
                  refine NoPanic.normal ?_
                  go_wp2_with fail
                  go_meet
                  exact ⟨_, rfl, hqg, b6h.out, hE.out⟩
                exact AllReadyH.nil
              exact AllReadyH.nil
            refine AllReadyH.cons (o := _) rfl (fun K hK => ?_) ?_
            · go_simp
              refine hK.out _ _ ?_ (fun hHeld => ?_)
              · (try dsimp only); exact ⟨hB.alloc hB.size _, cell_below (hB.alloc hB.size _) hd0.out⟩
              clear hK K
              try simp only [Act.put, List.setIfInBounds_toArray, List.set_cons_zero, List.set_cons_succ]
              have hq := heap_alloc_new v2 (.cells #[.int .i64 0, .int .i64 0, .int .i64 0] 61)
              have hqg := hB.size
              have hB := hB.alloc hB.size (.cells #[.int .i64 0, .int .i64 0, .int .i64 0] 61)
              generalize World.alloc v2 (.cells #[.int .i64 0, .int .i64 0, .int .i64 0] 61) = wA at *
              refine wpAnyH_ready (rs := [8]) (by kernel_rfl) (by simp) ?_
              refine AllReadyH.cons (o := _) rfl (fun K hK => ?_) ?_
              · go_simp
                go_at_call 77
                refine (hord.out _).mono ?_
                rintro e v4 ⟨rfl, hb6⟩
                have hq := (hb6.block _ (lt_of_block hq)).trans hq
                have hB := below_trans hB hb6
                clear hb6
                go_wp2_with fail
                refine hK.out _ _ ?_ (fun hHeld => ?_)
                · (try dsimp only); exact ⟨hB, cell_below hB hd0.out⟩
                clear hK K
                try simp only [Act.put, List.setIfInBounds_toArray, List.set_cons_zero, List.set_cons_succ]
                refine wpAnyH_ready (rs := [10]) (by kernel_rfl) (by simp) ?_
                refine AllReadyH.cons (o := _) rfl (fun K hK => ?_) ?_
                · obtain ⟨b0, b1, b2, b3, b4, b5, b6⟩ := box3 hq (.int .i64 X) (.int .i64 Y) (.int .i64 0)
                  have b6h := Lib.hid b6
                  have hE := Lib.hid (Below.setCell (p := ⟨_, 2, none⟩) (Below.setCell (p := ⟨_, 1, none⟩) (Below.setCell (p := ⟨_, 0, none⟩) hB hqg (.int .i64 X)) hqg (.int .i64 Y)) hqg (.int .i64 0))
                  clear b6 hq hB hHeld
                  go_simp
                  refine hK.out _ _ ?_ (fun hHeld => ?_)
                  · (try dsimp only); exact ⟨hE.out, cell_below hE.out hd0.out⟩
                  clear hK K
                  try simp only [Act.put, List.setIfInBounds_toArray, List.set_cons_zero, List.set_cons_succ]
                  refine wpAnyH_done (by kernel_rfl) ?_ _
                  refine NoPanic.normal ?_
                  go_wp2_with fail
                  go_meet
                  exact ⟨_, rfl, hqg, b6h.out, hE.out⟩
                exact AllReadyH.nil
              exact AllReadyH.nil
            exact AllReadyH.nil
          refine AllReadyH.cons (o := _) rfl (fun K hK => ?_) ?_
          · go_simp
            refine hK.out _ _ ?_ (fun hHeld => ?_)
            · (try dsimp only); exact ⟨hB.alloc hB.size _, cell_below (hB.alloc hB.size _) hd0.out⟩
            clear hK K
            try simp only [Act.put, List.setIfInBounds_toArray, List.set_cons_zero, List.set_cons_succ]
            have hq := heap_alloc_new v2 (.cells #[.int .i64 0, .int .i64 0, .int .i64 0] 61)
            have hqg := hB.size
            have hB := hB.alloc hB.size (.cells #[.int .i64 0, .int .i64 0, .int .i64 0] 61)
            generalize World.alloc v2 (.cells #[.int .i64 0, .int .i64 0, .int .i64 0] 61) = wA at *
            refine wpAnyH_ready (rs := [6]) (by kernel_rfl) (by simp) ?_
            refine AllReadyH.cons (o := _) rfl (fun K hK => ?_) ?_
            · go_simp
              go_at_call 43
              refine (number_any y _).mono ?_
              rintro e w9 ⟨rfl, rfl⟩
              go_wp2_with fail
              refine hK.out _ _ ?_ (fun hHeld => ?_)
              · (try dsimp only); exact ⟨hB, cell_below hB hd0.out⟩
              clear hK K
              try simp only [Act.put, List.setIfInBounds_toArray, List.set_cons_zero, List.set_cons_succ]
              refine wpAnyH_take (i := 7) (oi := _) (v := ?_) rfl (by kernel_rfl) (by kernel_rfl) (by kernel_rfl) (fun _ _ _ h => h) (Or.inl ⟨by rfl, ?_⟩) (by assumption) ?_
              rotate_left
              · intro w hSw; (try dsimp only at hSw); first | (obtain ⟨_, hSd⟩ := hSw; go_simp; try with_reducible rfl) | (go_simp; try with_reducible rfl)
              try simp only [Act.put, List.setIfInBounds_toArray, List.set_cons_zero, List.set_cons_succ]
              refine wpAnyH_ready (rs := [8]) (by kernel_rfl) (by simp) ?_
              refine AllReadyH.cons (o := _) rfl (fun K hK => ?_) ?_
              · go_simp
                go_at_call 77
                refine (hord.out _).mono ?_
                rintro e v4 ⟨rfl, hb6⟩
                have hq := (hb6.block _ (lt_of_block hq)).trans hq
                have hB := below_trans hB hb6
                clear hb6
                go_wp2_with fail
                refine hK.out _ _ ?_ (fun hHeld => ?_)
                · (try dsimp only); exact ⟨hB, cell_below hB hd0.out⟩
                clear hK K
                try simp only [Act.put, List.setIfInBounds_toArray, List.set_cons_zero, List.set_cons_succ]
                refine wpAnyH_ready (rs := [10]) (by kernel_rfl) (by simp) ?_
                refine AllReadyH.cons (o := _) rfl (fun K hK => ?_) ?_
                · obtain ⟨b0, b1, b2, b3, b4, b5, b6⟩ := box3 hq (.int .i64 X) (.int .i64 Y) (.int .i64 0)
                  have b6h := Lib.hid b6
                  have hE := Lib.hid (Below.setCell (p := ⟨_, 2, none⟩) (Below.setCell (p := ⟨_, 1, none⟩) (Below.setCell (p := ⟨_, 0, none⟩) hB hqg (.int .i64 X)) hqg (.int .i64 Y)) hqg (.int .i64 0))
                  clear b6 hq hB hHeld
                  go_simp
                  refine hK.out _ _ ?_ (fun hHeld => ?_)
                  · (try dsimp only); exact ⟨hE.out, cell_below hE.out hd0.out⟩
                  clear hK K
                  try simp only [Act.put, List.setIfInBounds_toArray, List.set_cons_zero, List.set_cons_succ]
                  refine wpAnyH_done (by kernel_rfl) ?_ _
                  refine NoPanic.normal ?_
                  go_wp2_with fail
                  go_meet
                  exact ⟨_, rfl, hqg, b6h.out, hE.out⟩
                exact AllReadyH.nil
              exact AllReadyH.nil
            exact AllReadyH.nil
          exact AllReadyH.nil
        refine AllReadyH.cons (o := _) rfl (fun K hK => ?_) ?_
        · go_simp
          refine hK.out _ _ ?_ (fun hHeld => ?_)
          · (try dsimp only); exact ⟨hB.alloc hB.size _, cell_below (hB.alloc hB.size _) hd0.out⟩
          clear hK K
          try simp only [Act.put, List.setIfInBounds_toArray, List.set_cons_zero, List.set_cons_succ]
          have hq := heap_alloc_new v0 (.cells #[.int .i64 0, .int .i64 0, .int .i64 0] 61)
          have hqg := hB.size
          have hB := hB.alloc hB.size (.cells #[.int .i64 0, .int .i64 0, .int .i64 0] 61)
          generalize World.alloc v0 (.cells #[.int .i64 0, .int .i64 0, .int .i64 0] 61) = wA at *
          refine wpAnyH_ready (rs := [5]) (by kernel_rfl) (by simp) ?_
          refine AllReadyH.cons (o := _) rfl (fun K hK => ?_) ?_
          · go_simp
            go_at_call 219
            refine (eto_any x y wt _).mono ?_
            rintro e v2 ⟨rfl, hb6⟩
            have hq := (hb6.block _ (lt_of_block hq)).trans hq
            have hB := below_trans hB hb6
            clear hb6
            go_wp2_with fail
            refine hK.out _ _ ?_ (fun hHeld => ?_)
            · (try dsimp only); exact ⟨hB, cell_below hB hd0.out⟩
            clear hK K
            try simp only [Act.put, List.setIfInBounds_toArray, List.set_cons_zero, List.set_cons_succ]
            refine wpAnyH_ready (rs := [6]) (by kernel_rfl) (by simp) ?_
            refine AllReadyH.cons (o := _) rfl (fun K hK => ?_) ?_
            · go_simp
              go_at_call 43
              refine (number_any y _).mono ?_
              rintro e w9 ⟨rfl, rfl⟩
              go_wp2_with fail
              refine hK.out _ _ ?_ (fun hHeld => ?_)
              · (try dsimp only); exact ⟨hB, cell_below hB hd0.out⟩
              clear hK K
              try simp only [Act.put, List.setIfInBounds_toArray, List.set_cons_zero, List.set_cons_succ]
              refine wpAnyH_take (i := 7) (oi := _) (v := ?_) rfl (by kernel_rfl) (by kernel_rfl) (by kernel_rfl) (fun _ _ _ h => h) (Or.inl ⟨by rfl, ?_⟩) (by assumption) ?_
              rotate_left
              · intro w hSw; (try dsimp only at hSw); first | (obtain ⟨_, hSd⟩ := hSw; go_simp; try with_reducible rfl) | (go_simp; try with_reducible rfl)
              try simp only [Act.put, List.setIfInBounds_toArray, List.set_cons_zero, List.set_cons_succ]
              refine wpAnyH_ready (rs := [8]) (by kernel_rfl) (by simp) ?_
              refine AllReadyH.cons (o := _) rfl (fun K hK => ?_) ?_
              · go_simp
                go_at_call 77
                refine (hord.out _).mono ?_
                rintro e v4 ⟨rfl, hb6⟩
                have hq := (hb6.block _ (lt_of_block hq)).trans hq
                have hB := below_trans hB hb6
                clear hb6
                go_wp2_with fail
                refine hK.out _ _ ?_ (fun hHeld => ?_)
                · (try dsimp only); exact ⟨hB, cell_below hB hd0.out⟩
                clear hK K
                try simp only [Act.put, List.setIfInBounds_toArray, List.set_cons_zero, List.set_cons_succ]
                refine wpAnyH_ready (rs := [10]) (by kernel_rfl) (by simp) ?_
                refine AllReadyH.cons (o := _) rfl (fun K hK => ?_) ?_
                · obtain ⟨b0, b1, b2, b3, b4, b5, b6⟩ := box3 hq (.int .i64 X) (.int .i64 Y) (.int .i64 0)
                  have b6h := Lib.hid b6
                  have hE := Lib.hid (Below.setCell (p := ⟨_, 2, none⟩) (Below.setCell (p := ⟨_, 1, none⟩) (Below.setCell (p := ⟨_, 0, none⟩) hB hqg (.int .i64 X)) hqg (.int .i64 Y)) hqg (.int .i64 0))
                  clear b6 hq hB hHeld
                  go_simp
                  refine hK.out _ _ ?_ (fun hHeld => ?_)
                  · (try dsimp only); exact ⟨hE.out, cell_below hE.out hd0.out⟩
                  clear hK K
                  try simp only [Act.put, List.setIfInBounds_toArray, List.set_cons_zero, List.set_cons_succ]
                  refine wpAnyH_done (by kernel_rfl) ?_ _
                  refine NoPanic.normal ?_
                  go_wp2_with fail
                  go_meet
                  exact ⟨_, rfl, hqg, b6h.out, hE.out⟩
                exact AllReadyH.nil
              exact AllReadyH.nil
            exact AllReadyH.nil
          exact AllReadyH.nil
        exact AllReadyH.nil
      refine AllReadyH.cons (o := _) rfl (fun K hK => ?_) ?_
      · go_simp
        refine hK.out _ _ ?_ (fun hHeld => ?_)
        · (try dsimp only); exact ⟨hB.alloc hB.size _, cell_below (hB.alloc hB.size _) hd0.out⟩
        clear hK K
        try simp only [Act.put, List.setIfInBounds_toArray, List.set_cons_zero, List.set_cons_succ]
        have hq := heap_alloc_new v0 (.cells #[.int .i64 0, .int .i64 0, .int .i64 0] 61)
        have hqg := hB.size
        have hB := hB.alloc hB.size (.cells #[.int .i64 0, .int .i64 0, .int .i64 0] 61)
        generalize World.alloc v0 (.cells #[.int .i64 0, .int .i64 0, .int .i64 0] 61) = wA at *
        refine wpAnyH_ready (rs := [3]) (by kernel_rfl) (by simp) ?_
        refine AllReadyH.cons (o := _) rfl (fun K hK => ?_) ?_
        · go_simp
          go_at_call 43
          refine (number_any x _).mono ?_
          rintro e w9 ⟨rfl, rfl⟩
          go_wp2_with fail
          refine hK.out _ _ ?_ (fun hHeld => ?_)
          · (try dsimp only); exact ⟨hB, cell_below hB hd0.out⟩
          clear hK K
          try simp only [Act.put, List.setIfInBounds_toArray, List.set_cons_zero, List.set_cons_succ]
          refine wpAnyH_ready (rs := [5]) (by kernel_rfl) (by simp) ?_
          refine AllReadyH.cons (o := _) rfl (fun K hK => ?_) ?_
          · go_simp
            go_at_call 219
            refine (eto_any x y wt _).mono ?_
            rintro e v2 ⟨rfl, hb6⟩
            have hq := (hb6.block _ (lt_of_block hq)).trans hq
            have hB := below_trans hB hb6
            clear hb6
            go_wp2_with fail
            refine hK.out _ _ ?_ (fun hHeld => ?_)
            · (try dsimp only); exact ⟨hB, cell_below hB hd0.out⟩
            clear hK K
            try simp only [Act.put, List.setIfInBounds_toArray, List.set_cons_zero, List.set_cons_succ]
            refine wpAnyH_ready (rs := [6]) (by kernel_rfl) (by simp) ?_
            refine AllReadyH.cons (o := _) rfl (fun K hK => ?_) ?_
            · go_simp
              go_at_call 43
              refine (number_any y _).mono ?_
              rintro e w9 ⟨rfl, rfl⟩
              go_wp2_with fail
              refine hK.out _ _ ?_ (fun hHeld => ?_)
              · (try dsimp only); exact ⟨hB, cell_below hB hd0.out⟩
              clear hK K
              try simp only [Act.put, List.setIfInBounds_toArray, List.set_cons_zero, List.set_cons_succ]
              refine wpAnyH_take (i := 7) (oi := _) (v := ?_) rfl (by kernel_rfl) (by kernel_rfl) (by kernel_rfl) (fun _ _ _ h => h) (Or.inl ⟨by rfl, ?_⟩) (by assumption) ?_
              rotate_left
              · intro w hSw; (try dsimp only at hSw); first | (obtain ⟨_, hSd⟩ := hSw; go_simp; try with_reducible rfl) | (go_simp; try with_reducible rfl)
              try simp only [Act.put, List.setIfInBounds_toArray, List.set_cons_zero, List.set_cons_succ]
              refine wpAnyH_ready (rs := [8]) (by kernel_rfl) (by simp) ?_
              refine AllReadyH.cons (o := _) rfl (fun K hK => ?_) ?_
              · go_simp
                go_at_call 77
                refine (hord.out _).mono ?_
                rintro e v4 ⟨rfl, hb6⟩
                have hq := (hb6.block _ (lt_of_block hq)).trans hq
                have hB := below_trans hB hb6
                clear hb6
                go_wp2_with fail
                refine hK.out _ _ ?_ (fun hHeld => ?_)
                · (try dsimp only); exact ⟨hB, cell_below hB hd0.out⟩
                clear hK K
                try simp only [Act.put, List.setIfInBounds_toArray, List.set_cons_zero, List.set_cons_succ]
                refine wpAnyH_ready (rs := [10]) (by kernel_rfl) (by simp) ?_
                refine AllReadyH.cons (o := _) rfl (fun K hK => ?_) ?_
                · obtain ⟨b0, b1, b2, b3, b4, b5, b6⟩ := box3 hq (.int .i64 X) (.int .i64 Y) (.int .i64 0)
                  have b6h := Lib.hid b6
                  have hE := Lib.hid (Below.setCell (p := ⟨_, 2, none⟩) (Below.setCell (p := ⟨_, 1, none⟩) (Below.setCell (p := ⟨_, 0, none⟩) hB hqg (.int .i64 X)) hqg (.int .i64 Y)) hqg (.int .i64 0))
                  clear b6 hq hB hHeld
                  go_simp
                  refine hK.out _ _ ?_ (fun hHeld => ?_)
                  · (try dsimp only); exact ⟨hE.out, cell_below hE.out hd0.out⟩
                  clear hK K
                  try simp only [Act.put, List.setIfInBounds_toArray, List.set_cons_zero, List.set_cons_succ]
                  refine wpAnyH_done (by kernel_rfl) ?_ _
                  refine NoPanic.normal ?_
                  go_wp2_with fail
                  go_meet
                  exact ⟨_, rfl, hqg, b6h.out, hE.out⟩
                exact AllReadyH.nil
              exact AllReadyH.nil
            exact AllReadyH.nil
          exact AllReadyH.nil
        exact AllReadyH.nil
      exact AllReadyH.nil
    refine AllReadyH.cons (o := _) rfl (fun K hK => ?_) ?_
    · go_simp
      refine hK.out _ _ ?_ (fun hHeld => ?_)
      · (try dsimp only); exact ⟨hB.alloc hB.size _, cell_below (hB.alloc hB.size _) hd0.out⟩
      clear hK K
      try simp only [Act.put, List.setIfInBounds_toArray, List.set_cons_zero, List.set_cons_succ]
      have hq : (w.alloc (.cells #[.int .i64 0, .int .i64 0, .int .i64 0] 61)).drew.heap[w.heap.size]? = some (.cells #[.int .i64 0, .int .i64 0, .int .i64 0] 61 (0, 0)) := heap_alloc_new w (.cells #[.int .i64 0, .int .i64 0, .int .i64 0] 61)
      have hqg : w.heap.size ≤ w.heap.size := Nat.le_refl _
      have hB : Below w.heap.size w (w.alloc (.cells #[.int .i64 0, .int .i64 0, .int .i64 0] 61)).drew := below_trans (alloc_below w _) ((drew_below _).mono (by simp))
      generalize World.drew (World.alloc w (.cells #[.int .i64 0, .int .i64 0, .int .i64 0] 61)) = wA at *
      refine wpAnyH_ready (rs := [2]) (by kernel_rfl) (by simp) ?_
      refine AllReadyH.cons (o := _) rfl (fun K hK => ?_) ?_
      · go_simp
        go_at_call 217
        refine (efrom_any x y wt _).mono ?_
        rintro e v0 ⟨rfl, hb6⟩
        have hq := (hb6.block _ (lt_of_block hq)).trans hq
        have hB := below_trans hB hb6
        clear hb6
        go_wp2_with fail
        refine hK.out _ _ ?_ (fun hHeld => ?_)
        · (try dsimp only); exact ⟨hB, cell_below hB hd0.out⟩
        clear hK K
        try simp only [Act.put, List.setIfInBounds_toArray, List.set_cons_zero, List.set_cons_succ]
        refine wpAnyH_ready (rs := [3]) (by kernel_rfl) (by simp) ?_
        refine AllReadyH.cons (o := _) rfl (fun K hK => ?_) ?_
        · go_simp
          go_at_call 43
          refine (number_any x _).mono ?_
          rintro e w9 ⟨rfl, rfl⟩
          go_wp2_with fail
          refine hK.out _ _ ?_ (fun hHeld => ?_)
          · (try dsimp only); exact ⟨hB, cell_below hB hd0.out⟩
          clear hK K
          try simp only [Act.put, List.setIfInBounds_toArray, List.set_cons_zero, List.set_cons_succ]
          refine wpAnyH_ready (rs := [5]) (by kernel_rfl) (by simp) ?_
          refine AllReadyH.cons (o := _) rfl (fun K hK => ?_) ?_
          · go_simp
            go_at_call 219
            refine (eto_any x y wt _).mono ?_
            rintro e v2 ⟨rfl, hb6⟩
            have hq := (hb6.block _ (lt_of_block hq)).trans hq
            have hB := below_trans hB hb6
            clear hb6
            go_wp2_with fail
            refine hK.out _ _ ?_ (fun hHeld => ?_)
            · (try dsimp only); exact ⟨hB, cell_below hB hd0.out⟩
            clear hK K
            try simp only [Act.put, List.setIfInBounds_toArray, List.set_cons_zero, List.set_cons_succ]
            refine wpAnyH_ready (rs := [6]) (by kernel_rfl) (by simp) ?_
            refine AllReadyH.cons (o := _) rfl (fun K hK => ?_) ?_
            · go_simp
              go_at_call 43
              refine (number_any y _).mono ?_
              rintro e w9 ⟨rfl, rfl⟩
              go_wp2_with fail
              refine hK.out _ _ ?_ (fun hHeld => ?_)
              · (try dsimp only); exact ⟨hB, cell_below hB hd0.out⟩
              clear hK K
              try simp only [Act.put, List.setIfInBounds_toArray, List.set_cons_zero, List.set_cons_succ]
              refine wpAnyH_take (i := 7) (oi := _) (v := ?_) rfl (by kernel_rfl) (by kernel_rfl) (by kernel_rfl) (fun _ _ _ h => h) (Or.inl ⟨by rfl, ?_⟩) (by assumption) ?_
              rotate_left
              · intro w hSw; (try dsimp only at hSw); first | (obtain ⟨_, hSd⟩ := hSw; go_simp; try with_reducible rfl) | (go_simp; try with_reducible rfl)
              try simp only [Act.put, List.setIfInBounds_toArray, List.set_cons_zero, List.set_cons_succ]
              refine wpAnyH_ready (rs := [8]) (by kernel_rfl) (by simp) ?_
              refine AllReadyH.cons (o := _) rfl (fun K hK => ?_) ?_
              · go_simp
                go_at_call 77
                refine (hord.out _).mono ?_
                rintro e v4 ⟨rfl, hb6⟩
                have hq := (hb6.block _ (lt_of_block hq)).trans hq
                have hB := below_trans hB hb6
                clear hb6
                go_wp2_with fail
                refine hK.out _ _ ?_ (fun hHeld => ?_)
                · (try dsimp only); exact ⟨hB, cell_below hB hd0.out⟩
                clear hK K
                try simp only [Act.put, List.setIfInBounds_toArray, List.set_cons_zero, List.set_cons_succ]
                refine wpAnyH_ready (rs := [10]) (by kernel_rfl) (by simp) ?_
                refine AllReadyH.cons (o := _) rfl (fun K hK => ?_) ?_
                · obtain ⟨b0, b1, b2, b3, b4, b5, b6⟩ := box3 hq (.int .i64 X) (.int .i64 Y) (.int .i64 0)
                  have b6h := Lib.hid b6
                  have hE := Lib.hid (Below.setCell (p := ⟨_, 2, none⟩) (Below.setCell (p := ⟨_, 1, none⟩) (Below.setCell (p := ⟨_, 0, none⟩) hB hqg (.int .i64 X)) hqg (.int .i64 Y)) hqg (.int .i64 0))
                  clear b6 hq hB hHeld
                  go_simp
                  refine hK.out _ _ ?_ (fun hHeld => ?_)
                  · (try dsimp only); exact ⟨hE.out, cell_below hE.out hd0.out⟩
                  clear hK K
                  try simp only [Act.put, List.setIfInBounds_toArray, List.set_cons_zero, List.set_cons_succ]
                  refine wpAnyH_done (by kernel_rfl) ?_ _
                  refine NoPanic.normal ?_
                  go_wp2_with fail
                  go_meet
                  exact ⟨_, rfl, hqg, b6h.out, hE.out⟩
                exact AllReadyH.nil
              exact AllReadyH.nil
            exact AllReadyH.nil
          exact AllReadyH.nil
        exact AllReadyH.nil
      exact AllReadyH.nil
    exact AllReadyH.nil
  case rest =>
  obtain ⟨q, rfl, hqg, hq, hB⟩ := hcut
  have hqz := lt_of_block hq
  have hbw := cell_below hB hb
  have hqh := Lib.hid hq
  have hBh := Lib.hid hB
  clear hq hB hb hord hm1 hm2
  go_wp2_with fail
  go_loopw [20] (fun i wr => ∃ k : Nat, k ≤ barred.length ∧ i = .int .i64 k ∧ (∀ j (hj : j < barred.length), j < k → ¬ hits dir x y barred[j]) ∧ Below wc.heap.size wc wr) (fun i _ => barred.length - (intOf i).toNat)
  case atStart => exact ⟨0, Nat.zero_le _, rfl, fun j _ hj => absurd hj (Nat.not_lt_zero _), Below.refl _ _⟩
  case round =>
    obtain ⟨k, hk, rfl, H0, hbr⟩ := hrel
    have H := Lib.hid H0
    have hqr := (hbr.block _ hqz).trans hqh.out
    have hB2 := below_trans hBh.out hbr
    have hgr := hch.out.below hB2
    obtain ⟨q0, -⟩ := box3 hqr (.int .i64 0) (.int .i64 0) (.int .i64 0)
    have q1 : wr.cell? ⟨q, 1, none⟩ = some (.int .i64 Y) := by simp [World.cell?, hqr]
    have q2 : wr.cell? ⟨q, 2, none⟩ = some (.int .i64 0) := by simp [World.cell?, hqr]
    have hdr := cell_below hB2 hd
    have hdr2 : ∀ o, (wr.alloc o).cell? ⟨dp, 0, none⟩ = some (.bool dir) := fun o => cell_alloc hdr o
    have hB2h := Lib.hid hB2
    have hbrh := Lib.hid hbr
    clear H0 hqr hB2 hbr
    by_cases hlt : k < barred.length
    · obtain ⟨b, off, rfl, hbl, hr⟩ := hgr.at (by rw [edgeCells_length]; omega)
      obtain ⟨e1, e2, e3⟩ := edge_cells hr hlt
      clear hr hgr
      obtain ⟨u, v, z, hux⟩ : ∃ u v z, barred[k] = (u, v, z) := ⟨_, _, _, rfl⟩
      rw [hux] at e1 e2 e3
      have hu := Lib.hid hux
      clear hux
      simp only [] at e1 e2 e3
      have hord := Lib.hid (fun w1 => ordered_any dir u v 0 w1)
      have hiff : Hid (X = (ordP dir u v).1 ∧ Y = (ordP dir u v).2 ↔ hits dir x y (u, v, z)) := by
        unfold Hid
        rw [hXh.out, hYh.out, ← ordP_iff]
        exact Prod.ext_iff.symm
      generalize (ordP dir u v).1 = A at *
      generalize (ordP dir u v).2 = B at *
      have hsz := hbrh.out.size
      go_wp2_with fail
      refine (hord.out _).mono ?_
      rintro e w2 ⟨rfl, hb2⟩
      have p0 := cell_below hb2 (cell_alloc q0 _)
      have p1 := cell_below hb2 (cell_alloc q1 _)
      have p2 := cell_below hb2 (cell_alloc q2 _)
      have p0' : ∀ o, (w2.alloc o).cell? ⟨q, 0, none⟩ = some (.int .i64 X) := fun o => cell_alloc p0 o
      have p1' : ∀ o, (w2.alloc o).cell? ⟨q, 1, none⟩ = some (.int .i64 Y) := fun o => cell_alloc p1 o
      have p2' : ∀ o, (w2.alloc o).cell? ⟨q, 2, none⟩ = some (.int .i64 0) := fun o => cell_alloc p2 o
      have hb3 := Lib.hid (below_boxed hb2)
      have hend : Hid (∀ o, Below w.heap.size w (w2.alloc o) ∧ Below wc.heap.size wc (w2.alloc o)) := fun o => by
        have h1 := below_trans hB2h.out hb3.out
        have h2 := below_trans hbrh.out hb3.out
        exact ⟨h1.alloc h1.size o, h2.alloc h2.size o⟩
      clear hb2 q0 q1 q2 p0 p1 p2 hord hdr hdr2
      have hdec : Hid ((hits dir x y (u, v, z) ∧ X = A ∧ Y = B) ∨ (¬ hits dir x y (u, v, z) ∧ ¬ (X = A ∧ Y = B))) := by
        by_cases h : hits dir x y (u, v, z)
        · exact .inl ⟨h, hiff.out.2 h⟩
        · exact .inr ⟨h, fun e => h (hiff.out.1 e)⟩
      clear hiff
      rcases hdec.out with ⟨hh, rfl, rfl⟩ | ⟨hh, hne⟩
      · have hfin : Hid (freeB dir barred x y = false) := by
          unfold Hid freeB
          rw [Bool.not_eq_false', List.any_eq_true]
          exact ⟨barred[k], List.getElem_mem hlt, by rw [hu.out]; simpa using hh⟩
        clear hh hdec
        go_wp2_with fail
        go_ret
        exact ⟨ret_bool hfin.out.symm, (hend.out _).1⟩
      · have hnext : Hid (∀ j (hj : j < barred.length), j < k + 1 → ¬ hits dir x y barred[j]) := fun j hj hlt' => by
          rcases Nat.lt_or_eq_of_le (Nat.le_of_lt_succ hlt') with h | h
          · exact H.out j hj h
          · subst h; rw [hu.out]; exact hh
        clear hh hdec
        by_cases hXA : X = A
        · subst hXA
          have hYB : ¬ Y = B := fun e => hne ⟨rfl, e⟩
          clear hne
          go_wp2_with fail
          go_roundw
          case rel => exact ⟨k + 1, by omega, by go_num, hnext.out, (hend.out _).2⟩
          case measure => simp [intOf]; omega
        · clear hne
          go_wp2_with fail
          go_roundw
          case rel => exact ⟨k + 1, by omega, by go_num, hnext.out, (hend.out _).2⟩
          case measure => simp [intOf]; omega
    · have hfin : Hid (freeB dir barred x y = true) := by
        unfold Hid freeB
        rw [Bool.not_eq_true', List.any_eq_false]
        intro e he
        obtain ⟨j, hj, rfl⟩ := List.mem_iff_getElem.1 he
        simpa using H.out j hj (by omega)
      go_wp2_with fail
      go_ret
      exact ⟨ret_bool hfin.out.symm, hB2h.out⟩
end Go.Proofs.YtpmphefmmcbpaaaGreat
