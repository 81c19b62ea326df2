/- BreadthFirst.Walk of impl.BreadthFirst (Und). -/
import Derived.Test.YtpmphefmmcbpaaaGreatBw1
import Derived.Test.YtpmphefmmcbpaaaGreatAgree
import Derived.Test.YtpmphefmmcbpaaaGreatDw1
import Derived.Test.YtpmphefmmcbpaaaGreatNodes
import Derived.Deep.LoopGhost
import Derived.Deep.CutBlock
import Derived.Deep.DeepCutAuto
import Derived.WalkSpells
namespace Go.Proofs.YtpmphefmmcbpaaaGreat
open Go.RowKit

set_option linter.unusedSimpArgs false in
set_option maxRecDepth 100000 in
set_option maxHeartbeats 8000000 in
theorem bwUnd_any (gb : Nat) (ids : List Int) (outs ins : List (List Arc)) (A tb pb ub dp bp : Nat) (dir : Bool) (barred : List (Int × Int × Int)) (u v : Int) (w : World) (hids : ids.length ≤ 1000) (hbl : barred.length ≤ 1048576) (h64 : ∀ x ∈ ids, In64 x)
    (hap : ∀ x, Reach (succF ids outs dir barred) u x → x ∈ ids) (h1 : TBlock w tb 0 (.slice none 0 0) ⟨visitB pb, freeFn dp bp, .map none⟩) (h2 : VBlk w pb 30 (.slice none 0 0)) (l1 : A ≤ tb) (l2 : A ≤ pb) (hne : tb ≠ pb)
    (hE : DEnv w [tb, pb] gb ids outs ins dp bp dir barred ub v) (hub1 : ub < w.heap.size) (hub2 : ub ∉ [tb, pb]) :
    Calls Tryz.prog 45
      #[.pointer (some ⟨tb, 0, none⟩), .iface 99 (.agg #[.pointer (some ⟨gb, 0, none⟩)]), .iface 84 (.int .i64 u), untilB pb ub] w
      fun e w' => ∃ (mb B N : Nat) (q O : List Int) (L : List (Int × Int)) (ap : Option Addr) (cp : Nat) (ok : Bool), BEnd (succF ids outs dir barred) u v L ok ∧
        e = .returned (if ok then .iface 84 (.int .i64 v) else .nilIface) ∧ L.length ≤ 1000 ∧
        BfsAt w' ids A B tb mb pb N (visitB pb) (freeFn dp bp) q O L (.slice ap L.length cp) ∧ Moves [tb, pb] w (bfoot w' tb mb pb (.slice ap L.length cp)) w' := by
  have hmm := @run_makeMap Tryz.prog
  have hme := fun w => run_eql_map_nil (P := Tryz.prog) w 80 2 169 none Tryz.underlying80
  have c4 := h1.c4
  have f4 := h1.free 4
  have c41 : ∀ o, (w.alloc o).cell? ⟨tb, 4, none⟩ = some (.map none) := fun o => cell_alloc c4 o
  have f41 : ∀ o, (w.alloc o).frozen? ⟨tb, 4, none⟩ = false := fun o => free_below (alloc_below w o) c4 f4
  have hmade := Lib.hid (bmade (ids := ids) h1 h2 l1 l2 hne)
  have hEh := Lib.hid hE
  have haph := Lib.hid hap
  have h64h := Lib.hid h64
  have hui := hap u .refl
  have h64u := h64 u hui
  have hf1 := func_visitB pb
  have hf2 := func_free dp bp
  have hf3 := func_untilB pb ub
  unfold visitB at hf1
  unfold freeFn at hf2
  unfold untilB at hf3 ⊢
  clear h1 h2 hE hap h64
  go_enter Tryz.func45, Tryz.ntmps45
  go_upto_if 21 with fail
  go_cut [] from 17 (fun wx => ∃ mb B, BfsAt wx ids A B tb mb pb 0 (visitB pb) (freeFn dp bp) [] [] [] (.slice none 0 0) ∧ Moves [tb, pb] w (bfoot wx tb mb pb (.slice none 0 0)) wx)
  case first =>
    go_wp2_with fail
    go_meet
    exact hmade.out
  case rest =>
  obtain ⟨mb, B, hD, hM⟩ := hcut
  have henq := Lib.hid (enqueue_any B tb 0 ⟨visitB pb, freeFn dp bp, .map (some mb)⟩ [] u wc (by omega) hD.que)
  have hDh := Lib.hid hD
  have hMh := Lib.hid hM
  clear hD hM c4 f4 c41 f41 hme hmm hmade
  go_wp2_with fail
  refine (unhide henq).mono ?_
  rintro e w2 ⟨rfl, hq2, ht2⟩
  obtain ⟨hD2, hM2⟩ := hDh.out.queue hq2 ht2
  have hM2' := hMh.out.trans hM2
  obtain ⟨c0, c1, c4⟩ := hD2.que.cells
  have hhas := Lib.hid fun (W : World) (hW : Below w2.heap.size w2 W) => (isetHas_any ids mb [] u W h64u (hD2.below hW).1.set).mono (fun e w' h => (⟨by rw [h.1]; simp, by obtain ⟨o, ho⟩ := h.2; rw [ho]; exact alloc_below _ _⟩ : e = .returned (.bool false) ∧ Below W.heap.size W w'))
  have hB0 := drew_below w2
  have hmi := id_method
  have hD2h := Lib.hid hD2
  have hM2h := Lib.hid hM2'
  have g0h := Lib.hid c0
  have g4h := Lib.hid c4
  unfold visitB at g0h c0
  clear hD2 hM2 hM2' hDh hMh henq hq2 ht2 c1 c4
  go_wp2_with fail
  refine wp_region_noPanic ?_
  refine wp_region_held_drew (S := fun w' => Below w2.heap.size w2 w' ∧ w'.cell? ⟨tb, 0, none⟩ = some (.func (.func 42) #[] #[.pointer (some ⟨pb, 0, none⟩)]) ∧ w'.cell? ⟨tb, 4, none⟩ = some (.map (some mb))) (by kernel_rfl) ?_ (fun hHeld => ?_)
  · (try dsimp only); exact ⟨hB0, cell_below hB0 g0h.out, cell_below hB0 g4h.out⟩
  refine wpAnyH_take (i := 0) (oi := _) (v := ?_) rfl (by kernel_rfl) (by kernel_rfl) (by kernel_rfl) (fun _ _ _ h => h) (Or.inl ⟨by rfl, ?_⟩) (by assumption) ?_
  rotate_left
  · intro w hSw; (try dsimp only at hSw); first | (obtain ⟨_, hSd, hSe⟩ := hSw; go_simp; try with_reducible rfl) | (go_simp; try with_reducible rfl)
  try simp only [Act.put, List.setIfInBounds_toArray, List.set_cons_zero, List.set_cons_succ]
  refine wpAnyH_take (i := 1) (oi := _) (v := ?_) rfl (by kernel_rfl) (by kernel_rfl) (by kernel_rfl) (fun _ _ _ h => h) (Or.inl ⟨by rfl, ?_⟩) (by assumption) ?_
  rotate_left
  · intro w hSw; (try dsimp only at hSw); first | (obtain ⟨_, hSd, hSe⟩ := hSw; go_simp; try with_reducible rfl) | (go_simp; try with_reducible rfl)
  try simp only [Act.put, List.setIfInBounds_toArray, List.set_cons_zero, List.set_cons_succ]
  refine wpAnyH_take (i := 2) (oi := _) (v := ?_) rfl (by kernel_rfl) (by kernel_rfl) (by kernel_rfl) (fun _ _ _ h => h) (Or.inl ⟨by rfl, ?_⟩) (by assumption) ?_
  rotate_left
  · intro w hSw; (try dsimp only at hSw); first | (obtain ⟨_, hSd, hSe⟩ := hSw; go_simp; try with_reducible rfl) | (go_simp; try with_reducible rfl)
  try simp only [Act.put, List.setIfInBounds_toArray, List.set_cons_zero, List.set_cons_succ]
  refine wpAnyH_take (i := 3) (oi := _) (v := ?_) rfl (by kernel_rfl) (by kernel_rfl) (by kernel_rfl) (fun _ _ _ h => h) (Or.inl ⟨by rfl, ?_⟩) (by assumption) ?_
  rotate_left
  · intro w hSw; (try dsimp only at hSw); first | (obtain ⟨_, hSd, hSe⟩ := hSw; go_simp; try with_reducible rfl) | (go_simp; try with_reducible rfl)
  try simp only [Act.put, List.setIfInBounds_toArray, List.set_cons_zero, List.set_cons_succ]
  refine wpAnyH_take (i := 4) (oi := _) (v := ?_) rfl (by kernel_rfl) (by kernel_rfl) (by kernel_rfl) (fun _ _ _ h => h) (Or.inl ⟨by rfl, ?_⟩) (by assumption) ?_
  rotate_left
  · intro w hSw; (try dsimp only at hSw); first | (obtain ⟨_, hSd, hSe⟩ := hSw; go_simp; try with_reducible rfl) | (go_simp; try with_reducible rfl)
  try simp only [Act.put, List.setIfInBounds_toArray, List.set_cons_zero, List.set_cons_succ]
  refine wpAnyH_take (i := 5) (oi := _) (v := ?_) rfl (by kernel_rfl) (by kernel_rfl) (by kernel_rfl) (fun _ _ _ h => h) (Or.inl ⟨by rfl, ?_⟩) (by assumption) ?_
  rotate_left
  · intro w hSw; (try dsimp only at hSw); first | (obtain ⟨_, hSd, hSe⟩ := hSw; go_simp; try with_reducible rfl) | (go_simp; try with_reducible rfl)
  try simp only [Act.put, List.setIfInBounds_toArray, List.set_cons_zero, List.set_cons_succ]
  refine wpAnyH_take (i := 6) (oi := _) (v := ?_) rfl (by kernel_rfl) (by kernel_rfl) (by kernel_rfl) (fun _ _ _ h => h) (Or.inl ⟨by kernel_rfl, ?_⟩) (by assumption) ?_
  rotate_left
  · intro w hSw; (try dsimp only at hSw); first | (obtain ⟨_, hSd, hSe⟩ := hSw; go_simp; try with_reducible rfl) | (go_simp; try with_reducible rfl)
  try simp only [Act.put, List.setIfInBounds_toArray, List.set_cons_zero, List.set_cons_succ]
  refine wpAnyH_take (i := 7) (oi := _) (v := ?_) rfl (by kernel_rfl) (by kernel_rfl) (by kernel_rfl) (fun _ _ _ h => h) (Or.inl ⟨by kernel_rfl, ?_⟩) (by assumption) ?_
  rotate_left
  · intro w hSw; (try dsimp only at hSw); first | (obtain ⟨_, hSd, hSe⟩ := hSw; go_simp; try with_reducible rfl) | (go_simp; try with_reducible rfl)
  try simp only [Act.put, List.setIfInBounds_toArray, List.set_cons_zero, List.set_cons_succ]
  refine wpAnyH_take (i := 8) (oi := _) (v := ?_) rfl (by kernel_rfl) (by kernel_rfl) (by kernel_rfl) (fun _ _ _ h => h) (Or.inl ⟨by kernel_rfl, ?_⟩) (by assumption) ?_
  rotate_left
  · intro w hSw; (try dsimp only at hSw); first | (obtain ⟨_, hSd, hSe⟩ := hSw; go_simp; try with_reducible rfl) | (go_simp; try with_reducible rfl)
  try simp only [Act.put, List.setIfInBounds_toArray, List.set_cons_zero, List.set_cons_succ]
  refine wpAnyH_take (i := 9) (oi := _) (v := ?_) rfl (by kernel_rfl) (by kernel_rfl) (by kernel_rfl) (fun _ _ _ h => h) (Or.inl ⟨by kernel_rfl, ?_⟩) (by assumption) ?_
  rotate_left
  · intro w hSw; (try dsimp only at hSw); first | (obtain ⟨_, hSd, hSe⟩ := hSw; go_simp; try with_reducible rfl) | (go_simp; try with_reducible rfl)
  try simp only [Act.put, List.setIfInBounds_toArray, List.set_cons_zero, List.set_cons_succ]
  refine wpAnyH_take (i := 10) (oi := _) (v := ?_) rfl (by kernel_rfl) (by kernel_rfl) (by kernel_rfl) (fun _ _ _ h => h) (Or.inl ⟨by kernel_rfl, ?_⟩) (by assumption) ?_
  rotate_left
  · intro w hSw; (try dsimp only at hSw); first | (obtain ⟨_, hSd, hSe⟩ := hSw; go_simp; try with_reducible rfl) | (go_simp; try with_reducible rfl)
  try simp only [Act.put, List.setIfInBounds_toArray, List.set_cons_zero, List.set_cons_succ]
  refine wpAnyH_ready (rs := [11]) (by kernel_rfl) (by simp) ?_
  refine AllReadyH.cons (o := _) rfl (fun K hK => ?_) AllReadyH.nil
  rw [if_pos (by kernel_rfl)]
  go_simp
  go_at_call 182
  refine (id_any _ _).mono ?_
  rintro e w3 ⟨rfl, rfl⟩
  go_wp2_with fail
  refine hK.out _ _ ?_ (fun hHeld => ?_)
  · (try dsimp only); exact ⟨hB0, cell_below hB0 g0h.out, cell_below hB0 g4h.out⟩
  clear hK K
  try simp only [Act.put, List.setIfInBounds_toArray, List.set_cons_zero, List.set_cons_succ]
  refine wpAnyH_ready (rs := [12]) (by kernel_rfl) (by simp) ?_
  refine AllReadyH.cons (o := _) rfl (fun K hK => ?_) AllReadyH.nil
  rw [if_pos (by kernel_rfl)]
  go_simp
  go_at_call 79
  refine (hhas.out _ hB0).mono ?_
  rintro e w3 ⟨rfl, hb3⟩
  have hB3 := below_trans hB0 hb3
  clear hb3
  go_wp2_with fail
  refine hK.out _ _ ?_ (fun hHeld => ?_)
  · (try dsimp only); exact ⟨hB3, cell_below hB3 g0h.out, cell_below hB3 g4h.out⟩
  clear hK K
  try simp only [Act.put, List.setIfInBounds_toArray, List.set_cons_zero, List.set_cons_succ]
  refine wpAnyH_take (i := 13) (oi := _) (v := ?_) rfl (by kernel_rfl) (by kernel_rfl) (by kernel_rfl) (fun _ _ _ h => h) (Or.inl ⟨by kernel_rfl, ?_⟩) (by assumption) ?_
  rotate_left
  · intro w hSw; (try dsimp only at hSw); first | (obtain ⟨_, hSd, hSe⟩ := hSw; go_simp; try with_reducible rfl) | (go_simp; try with_reducible rfl)
  try simp only [Act.put, List.setIfInBounds_toArray, List.set_cons_zero, List.set_cons_succ]
  refine wpAnyH_take (i := 14) (oi := _) (v := ?_) rfl (by kernel_rfl) (by kernel_rfl) (by kernel_rfl) (fun _ _ _ h => h) (Or.inl ⟨by rfl, ?_⟩) (by assumption) ?_
  rotate_left
  · intro w hSw; (try dsimp only at hSw); first | (obtain ⟨_, hSd, hSe⟩ := hSw; go_simp; try with_reducible rfl) | (go_simp; try with_reducible rfl)
  try simp only [Act.put, List.setIfInBounds_toArray, List.set_cons_zero, List.set_cons_succ]
  refine wpAnyH_done (by kernel_rfl) ?_ _
  refine NoPanic.normal ?_
  simp only [List.getElem_toArray, List.getElem_cons_succ, List.getElem_cons_zero, List.setIfInBounds_toArray, List.set_cons_zero, List.set_cons_succ]
  obtain ⟨hD3, hbf3⟩ := hD2h.out.below hB3
  have hM3 : Moves [tb, pb] w (bfoot w3 tb mb pb (.slice none 0 0)) w3 := by rw [hbf3]; exact hM2h.out.trans (Moves.of_below _ hB3)
  obtain ⟨d0, d1, d4⟩ := hD3.que.cells
  have hvis := Lib.hid (visitB_any (L := []) none 0 0 u w3 rfl (by omega) hD3)
  have hM3h := Lib.hid hM3
  unfold visitB at d0
  clear hHeld hB0 hB3 hhas hmi hD2h hM2h g0h g4h c0 hD3 hbf3 hM3 d1 d4
  go_wp2_with fail
  refine (unhide hvis).mono ?_
  rintro e w4 ⟨rfl, a4, k4, hD4, hM4⟩
  have hM4' := hM3h.out.trans hM4
  obtain ⟨d0', d1', d4⟩ := hD4.que.cells
  have hadd := Lib.hid fun (W : World) (hW : Below w4.heap.size w4 W) => isetAdd_any ids mb [] u W h64u hui (by omega) (hD4.below hW).1.set
  have hD4h := Lib.hid hD4
  have hM4h := Lib.hid hM4'
  clear hD4 hM4 hM4' hM3h hvis d0 d0' d1'
  go_wp2_with fail
  go_cut [] from 52 (fun wx => BfsAt wx ids A B tb mb pb 1 (visitB pb) (freeFn dp bp) [u] [u] [(u, -1)] (.slice a4 1 k4) ∧ Moves [tb, pb] w (bfoot wx tb mb pb (.slice a4 1 k4)) wx)
  case first =>
    have hb4 := drew_below w4
    have hput := Lib.hid fun (W W' : World) (hW : Below w4.heap.size w4 W) (hi : ISetAt W' ids mb [u]) (hg : W.grownBy W' (some mb)) => show BfsAt W' ids A B tb mb pb 1 (visitB pb) (freeFn dp bp) [u] [u] [(u, -1)] (.slice a4 1 k4) ∧ Moves [tb, pb] w (bfoot W' tb mb pb (.slice a4 1 k4)) W' from by
      obtain ⟨e1, e2⟩ := hD4h.out.below hW
      obtain ⟨e3, e4⟩ := e1.put hg hi
      refine ⟨e3, ?_⟩
      rw [e4, e2]
      exact (hM4h.out.trans (Moves.of_below _ hW)).trans (Moves.of_grown hg (by rw [← e2]; exact mem_bfoot.2 (by simp)))
    go_region_with (first
      | (go_at_call 182; refine (id_any _ _).mono ?_; rintro e w' ⟨rfl, rfl⟩)
      | (go_at_call 80; refine (hadd.out _ (by repeat (first | exact Below.refl _ _ | exact hb4 | refine Below.drew ?_))).mono ?_; rintro e w5 ⟨rfl, hi5, hg5⟩))
    all_goals go_wp2_with fail
    all_goals go_meet
    all_goals exact hput.out _ _ (by repeat (first | exact Below.refl _ _ | exact hb4 | refine Below.drew ?_)) hi5 hg5
  case rest =>
  obtain ⟨hD, hM⟩ := hcut
  have hDh := Lib.hid hD
  have hMh := Lib.hid hM
  clear hD hM hD4h hM4h hadd d4
  go_wp2_with fail
  go_loopg [9, 10, 11] (1 + 2 * (ids.length - 1)) (fun gk s9 s10 s11 wr => ∃ (d : Nat) (P : List (Int × Int)) (Q1 Q2 : List Int) (n c : Nat) (ap : Option Addr), s9 = .int .i64 d ∧ s10 = .int .i64 (Q2.length : Nat) ∧ s11 = .int .i64 (Q1.length : Nat) ∧ n = (noted P (Q1 ++ Q2)).length ∧ n ≤ ids.length ∧
    d ≤ P.length ∧ gk = (Q1 ++ Q2).length + 2 * (ids.length - n) ∧ QInv (succF ids outs dir barred) u v d P Q1 Q2 ∧ BfsAt wr ids A B tb mb pb n (visitB pb) (freeFn dp bp) (Q1 ++ Q2) (P.map Prod.fst ++ (Q1 ++ Q2)).reverse (noted P (Q1 ++ Q2)) (.slice ap n c) ∧ Moves [tb, pb] w (bfoot wr tb mb pb (.slice ap n c)) wr)
  case atStart => exact ⟨0, [], [u], [], 1, k4, a4, rfl, rfl, rfl, rfl, List.length_pos_of_mem hui, Nat.le_refl _, by simp, QInv.new _ u v, hDh.out, hMh.out⟩
  case round =>
    obtain ⟨d, P, Q1, Q2, n, c, ap, rfl, rfl, rfl, hn, hnl, hdn, hgk, hI, hD, hM⟩ := hrel
    clear hDh hMh
    have hlen := Lib.hid (qlenAt_any B tb n _ (Q1 ++ Q2) wr (by omega) hD.que)
    have hnh := Lib.hid hn
    have hdnh := Lib.hid hdn
    have hgkh := Lib.hid hgk
    have hIh := Lib.hid hI
    have hDh := Lib.hid hD
    have hMh := Lib.hid hM
    have hQs : Q1.length + Q2.length ≤ n := by rw [hn, noted_length, List.length_append]; omega
    clear hn hdn hgk hI hD hM
    rcases Q1 with _ | ⟨t, Q1⟩
    · have hq2 : Q2 = [] := hIh.out.full rfl
      subst hq2
      go_wp2_with fail
      refine (unhide hlen).mono ?_
      rintro e w3 ⟨rfl, k3, rfl⟩
      have hb3 := drewN_below wr k3
      obtain ⟨hD3, hbf3⟩ := hDh.out.below hb3
      have hL3 : noted P ([] ++ []) = P := noted_none P
      rw [hL3] at hD3
      have hn3 : n = P.length := by have := hnh.out; rwa [hL3] at this
      have hfin : Hid (BfsAt (wr.drewN k3) ids A B tb mb pb n (visitB pb) (freeFn dp bp) ([] ++ []) (P.map Prod.fst ++ ([] ++ [])).reverse P (.slice ap P.length c) ∧ Moves [tb, pb] w (bfoot (wr.drewN k3) tb mb pb (.slice ap P.length c)) (wr.drewN k3) ∧ P.length ≤ 1000) := by
        unfold Hid
        rw [← hn3]
        refine ⟨hD3, ?_, by omega⟩
        rw [hbf3]
        exact hMh.out.trans (Moves.of_below _ hb3)
      clear hb3 hD3 hbf3 hL3 hlen hDh hMh
      go_wp2_with fail
      go_ret
      exact ⟨mb, B, n, _, _, P, ap, c, false, .inl ⟨rfl, d, hIh.out⟩, rfl, hfin.out.2.2, hfin.out.1, hfin.out.2.1⟩
    · have hpos : (0 : Int) < ((((t :: Q1) ++ Q2).length : Nat) : Int) := by rw [List.cons_append, List.length_cons]; omega
      have htr := hIh.out.reach t (by simp)
      have hti := haph.out t htr
      have hdeq := Lib.hid (fun k => dequeue_any B tb n _ t (Q1 ++ Q2) (wr.drewN k) (by omega) (hDh.out.below (drewN_below wr k)).1.que)
      clear htr
      go_wp2_with fail
      refine (unhide hlen).mono ?_
      rintro e w3 ⟨rfl, k3, rfl⟩
      go_wp2_with fail
      refine (unhide hdeq k3).mono ?_
      rintro e w4 ⟨rfl, hq4, ht4⟩
      obtain ⟨hD3, hbf3⟩ := hDh.out.below (drewN_below wr k3)
      have hM3 : Moves [tb, pb] w (bfoot (wr.drewN k3) tb mb pb (.slice ap n c)) (wr.drewN k3) := by rw [hbf3]; exact hMh.out.trans (Moves.of_drewN _ wr k3)
      obtain ⟨hD4, hM4⟩ := hD3.queue hq4 ht4
      have hM4' := hM3.trans hM4
      obtain ⟨-, -, hu4⟩ := hEh.out.at hM4'
      have hunt := Lib.hid (untilB_any ap n c ub t d v w4 hnh.out (by omega) hD4 hu4 (hM4'.apart hub1 hub2))
      have hM4h := Lib.hid hM4'
      clear hD3 hbf3 hM3 hD4 hM4 hM4' hu4 hq4 ht4 hdeq hlen hDh hMh
      go_wp2_with fail
      refine (unhide hunt).mono ?_
      rintro e w8 ⟨rfl, hD8, hM8⟩
      have hM8' := hM4h.out.trans hM8
      have hset : setD (noted P (t :: Q1 ++ Q2)) t d = noted (P ++ [(t, (d : Int))]) (Q1 ++ Q2) := setD_noted hIh.out.nd
      rw [hset] at hD8
      have hn8 : n = (noted (P ++ [(t, (d : Int))]) (Q1 ++ Q2)).length := by have := hnh.out; rw [noted_length] at this ⊢; simp at this ⊢; omega
      clear hM8 hset hunt hM4h
      by_cases htv : t = v
      · subst htv
        have hfin : Hid (BfsAt w8 ids A B tb mb pb n (visitB pb) (freeFn dp bp) (Q1 ++ Q2) (P.map Prod.fst ++ (t :: Q1 ++ Q2)).reverse (noted (P ++ [(t, (d : Int))]) (Q1 ++ Q2)) (.slice ap (noted (P ++ [(t, (d : Int))]) (Q1 ++ Q2)).length c) ∧ Moves [tb, pb] w (bfoot w8 tb mb pb (.slice ap (noted (P ++ [(t, (d : Int))]) (Q1 ++ Q2)).length c)) w8 ∧ (noted (P ++ [(t, (d : Int))]) (Q1 ++ Q2)).length ≤ 1000) := by
          unfold Hid
          rw [← hn8]
          exact ⟨hD8, hM8', by omega⟩
        have htt : (t == t) = true := by simp
        clear hD8 hM8' hn8
        go_wp2_with fail
        go_ret
        exact ⟨mb, B, n, _, _, _, ap, c, true, .inr ⟨rfl, d, P, Q1, Q2, rfl, hIh.out⟩, rfl, hfin.out.2.2, hfin.out.1, hfin.out.2.1⟩
      · have htv' : (t == v) = false := by simpa using htv
        have hR := Lib.hid (hIh.out.take htv)
        obtain ⟨hp8, -, -⟩ := hEh.out.at hM8'
        have hfr := Lib.hid (fromUnd_any gb ids outs ins t w8 (by omega) hp8 hti)
        have hnl8 := succ_len hp8 t
        have hfl8' := hD8.footlt
        have harc := Lib.hid fun (k : Nat) (hk : k < (succOf ids outs t).length) => arcAt_succ hp8 hti hk
        have hmm8 := succ_mem hp8 t
        have hn8h := Lib.hid hn8
        have hD8h := Lib.hid hD8
        have hM8h := Lib.hid hM8'
        clear hD8 hM8' hp8 htv hn8
        go_wp2_with (first
          | (go_at_call 182; refine (id_any _ _).mono ?_; rintro e w' ⟨rfl, rfl⟩))
        refine (unhide hfr).mono ?_
        rintro e w9 ⟨ib, rfl, hit, hb9⟩
        obtain ⟨ns, hns⟩ : ∃ ns, ns = endsOf ids (outs.getD (posOf ids t) []) := ⟨_, rfl⟩
        have hsucc : Hid (succOf ids outs t = ns) := hns.symm
        obtain ⟨B2, hB2⟩ : ∃ B2, B2 = w8.heap.size := ⟨_, rfl⟩
        obtain ⟨E, hE⟩ : ∃ E, E = w9.heap.size := ⟨_, rfl⟩
        obtain ⟨hD9, hbf9⟩ := hD8h.out.below hb9
        have hM9 : Moves [tb, pb] w (bfoot w9 tb mb pb (.slice ap n c)) w9 := by rw [hbf9]; exact hM8h.out.trans (Moves.of_below _ hb9)
        have hfl9 : ∀ k ∈ bfoot w9 tb mb pb (.slice ap n c), k < B2 ∨ E ≤ k := fun k hk => .inl (by rw [hbf9] at hk; rw [hB2]; exact hfl8' k hk)
        have hE9 : E ≤ w9.heap.size := by rw [hE]; exact Nat.le_refl _
        have hw0 : w.heap.size ≤ B2 := by rw [hB2]; exact hM8h.out.size
        rw [← hB2, ← hE, ← hns] at hit
        rw [hsucc.out] at hnl8 harc hmm8
        have hnl' : ns.length ≤ 1000 := by omega
        have hmmh := Lib.hid hmm8
        obtain ⟨M, hMe⟩ : ∃ M, M = (Q1 ++ Q2).length + 2 * (ids.length - n) := ⟨_, rfl⟩
        have hMg : Hid (M + 1 = gk) := by have := hgkh.out; unfold Hid; simp at this hMe; omega
        have hQ1h : Hid (Q1.length + Q2.length + 1 ≤ n) := by unfold Hid; simp at hQs; omega
        clear hB2 hE hns hfl8' hb9 hfr hD8h hM8h hbf9 hmm8 hnl8 hgkh
        go_wp2_with fail
        go_loopg [10] (ns.length) (fun gi s10 wi => ∃ (k : Nat) (Q2 : List Int) (n c : Nat) (ap : Option Addr), k ≤ ns.length ∧ s10 = .int .i64 (Q2.length : Nat) ∧ gi = ns.length - k ∧ n = (noted (P ++ [(t, (d : Int))]) (Q1 ++ Q2)).length ∧ n ≤ ids.length ∧ (Q1 ++ Q2).length + 2 * (ids.length - n) ≤ M ∧
          RInv (succF ids outs dir barred) u v d P t Q1 Q2 ((ns.take k).filter fun z => freeB dir barred t z) ∧ BfsAt wi ids A B tb mb pb n (visitB pb) (freeFn dp bp) (Q1 ++ Q2) (P.map Prod.fst ++ t :: (Q1 ++ Q2)).reverse (noted (P ++ [(t, (d : Int))]) (Q1 ++ Q2)) (.slice ap n c) ∧
          Moves [tb, pb] w (bfoot wi tb mb pb (.slice ap n c)) wi ∧ (∀ k ∈ bfoot wi tb mb pb (.slice ap n c), k < B2 ∨ E ≤ k) ∧ IterAt wi B2 E ib k ns ∧ E ≤ wi.heap.size)
        case atStart => exact ⟨0, Q2, n, c, ap, Nat.zero_le _, rfl, rfl, hn8h.out, hnl, by rw [hMe]; exact Nat.le_refl _, hR.out, hD9, hM9, hfl9, hit, hE9⟩
        case round =>
          clear hD9 hM9 hfl9 hit hE9 hR hn8h hnh hIh hMe hQs hnl
          obtain ⟨k, Q2, n, c, ap, hk, rfl, hgi, hn, hnl, hme, hR, hD, hM, hfl, hit, hEs⟩ := hrel
          have hib1 := hit.1
          have hib2 := hit.2.1
          have hQl : Q1.length + Q2.length + 1 ≤ n := by rw [hn, noted_length, List.length_append, List.length_append]; simp; omega
          have hnext := Lib.hid (next_any B2 E ib k ns wr hk (by omega) hit)
          have hgih := Lib.hid hgi
          have hnh := Lib.hid hn
          have hmeh := Lib.hid hme
          have hRh := Lib.hid hR
          have hDh := Lib.hid hD
          have hMh := Lib.hid hM
          have hflh := Lib.hid hfl
          clear hgi hn hme hR hD hM hfl hit
          by_cases hlt : k < ns.length
          · have hd : decide (k < ns.length) = true := decide_eq_true hlt
            have hltn := hlt
            clear hlt
            go_wp2_with fail
            refine (unhide hnext).mono ?_
            rintro e w10 ⟨rfl, hg10, hit10⟩
            have hit10' := hit10 hltn
            have hibn : ib ∉ bfoot wr tb mb pb (.slice ap n c) := fun h => by have := hflh.out ib h; omega
            obtain ⟨hD10, hbf10⟩ := hDh.out.same (fun j hj => hg10.block j (hDh.out.footlt j hj) (fun e => by injection e with e; exact hibn (e ▸ hj))) hg10.size
            have hM10 : Moves [tb, pb] w (bfoot w10 tb mb pb (.slice ap n c)) w10 := by rw [hbf10]; exact hMh.out.grown hg10 (fun q e => by injection e with e; omega)
            have hfl10 : Hid (∀ k ∈ bfoot w10 tb mb pb (.slice ap n c), k < B2 ∨ E ≤ k) := by unfold Hid; rw [hbf10]; exact hflh.out
            have hE10 : E ≤ w10.heap.size := Nat.le_trans hEs hg10.size
            have hnode := Lib.hid (node_any B2 E ib k ns w10 hltn (by omega) hit10')
            obtain ⟨x, hxe⟩ : ∃ x, x = ns[k] := ⟨_, rfl⟩
            have hxi : x ∈ ids := by rw [hxe]; exact hmmh.out _ (List.getElem_mem hltn)
            have h64x := h64h.out x hxi
            rw [← hxe] at hnode
            have hxeh := Lib.hid hxe
            have hD10h := Lib.hid hD10
            have hM10h := Lib.hid hM10
            have hit10h := Lib.hid hit10'
            clear hnext hg10 hit10 hit10' hD10 hM10 hxe hDh hMh hEs hbf10 hibn hflh
            go_wp2_with fail
            refine (unhide hnode).mono ?_
            rintro e w11 ⟨rfl, k11, hw11⟩
            have hb11 : Below w10.heap.size w10 w11 := by rw [hw11]; exact drewN_below _ _
            obtain ⟨hD11, hbf11⟩ := hD10h.out.below hb11
            have hM11 : Moves [tb, pb] w (bfoot w11 tb mb pb (.slice ap n c)) w11 := by rw [hbf11]; exact hM10h.out.trans (Moves.of_below _ hb11)
            have hfl11 : Hid (∀ k ∈ bfoot w11 tb mb pb (.slice ap n c), k < B2 ∨ E ≤ k) := by unfold Hid; rw [hbf11]; exact hfl10.out
            have hit11 : IterAt w11 B2 E ib (k + 1) ns := by rw [hw11]; exact hit10h.out
            have hE11 : E ≤ w11.heap.size := Nat.le_trans hE10 hb11.size
            obtain ⟨c0, g1, c4⟩ := hD11.que.cells
            unfold freeFn at g1
            have hD11h := Lib.hid hD11
            have hM11h := Lib.hid hM11
            have hit11h := Lib.hid hit11
            clear hw11 hb11 hD11 hM11 hit11 hnode hD10h hM10h hit10h hE10 hbf11 hfl10 c0 c4
            go_wp2_with (first
              | (go_at_call 182; refine (id_any _ _).mono ?_; rintro e w' ⟨rfl, rfl⟩))
            have hkn : k < ns.length := hltn
            obtain ⟨tt, wt, harc1⟩ := harc.out k hkn
            rw [← hxeh.out] at harc1
            have hedge := Lib.hid fun (W : World) (hW : Below w11.heap.size w11 W) => edgeUnd_any gb ids outs ins t x tt wt W (by omega) (hEh.out.at (hM11h.out.trans (Moves.of_below _ hW))).1 harc1
            have hfree := Lib.hid fun (W : World) (hW : Below w11.heap.size w11 W) => free_any dp bp dir barred t x wt W hbl (hEh.out.at (hM11h.out.trans (Moves.of_below _ hW))).2.1
            have hB0 := drew_below w11
            have hme := edge_methodUnd
            clear harc1
            simp only [edgeV] at hedge hfree
            obtain ⟨fb, hfb⟩ : ∃ fb, fb = freeB dir barred t x := ⟨_, rfl⟩
            rw [← hfb] at hfree
            have hfbh := Lib.hid hfb
            clear hfb
            have g1h := Lib.hid g1
            refine wp_region_noPanic ?_
            refine wp_region_held_drew (S := fun w' => Below w11.heap.size w11 w' ∧ w'.cell? ⟨tb, 1, none⟩ = some (.func (.func 76) #[] #[.pointer (some ⟨dp, 0, none⟩), .pointer (some ⟨bp, 0, none⟩)])) (by kernel_rfl) ?_ (fun hHeld => ?_)
            · (try dsimp only); exact ⟨hB0, cell_below hB0 g1h.out⟩
            refine wpAnyH_take (i := 0) (oi := _) (v := ?_) rfl (by kernel_rfl) (by kernel_rfl) (by kernel_rfl) (fun _ _ _ h => h) (Or.inl ⟨by rfl, ?_⟩) (by assumption) ?_
            rotate_left
            · intro w hSw; (try dsimp only at hSw); first | (obtain ⟨_, hSd⟩ := hSw; go_simp; try with_reducible rfl) | (go_simp; try with_reducible rfl)
            try simp only [Act.put, List.setIfInBounds_toArray, List.set_cons_zero, List.set_cons_succ]
            refine wpAnyH_take (i := 1) (oi := _) (v := ?_) rfl (by kernel_rfl) (by kernel_rfl) (by kernel_rfl) (fun _ _ _ h => h) (Or.inl ⟨by rfl, ?_⟩) (by assumption) ?_
            rotate_left
            · intro w hSw; (try dsimp only at hSw); first | (obtain ⟨_, hSd⟩ := hSw; go_simp; try with_reducible rfl) | (go_simp; try with_reducible rfl)
            try simp only [Act.put, List.setIfInBounds_toArray, List.set_cons_zero, List.set_cons_succ]
            refine wpAnyH_take (i := 2) (oi := _) (v := ?_) rfl (by kernel_rfl) (by kernel_rfl) (by kernel_rfl) (fun _ _ _ h => h) (Or.inl ⟨by rfl, ?_⟩) (by assumption) ?_
            rotate_left
            · intro w hSw; (try dsimp only at hSw); first | (obtain ⟨_, hSd⟩ := hSw; go_simp; try with_reducible rfl) | (go_simp; try with_reducible rfl)
            try simp only [Act.put, List.setIfInBounds_toArray, List.set_cons_zero, List.set_cons_succ]
            refine wpAnyH_take (i := 3) (oi := _) (v := ?_) rfl (by kernel_rfl) (by kernel_rfl) (by kernel_rfl) (fun _ _ _ h => h) (Or.inl ⟨by rfl, ?_⟩) (by assumption) ?_
            rotate_left
            · intro w hSw; (try dsimp only at hSw); first | (obtain ⟨_, hSd⟩ := hSw; go_simp; try with_reducible rfl) | (go_simp; try with_reducible rfl)
            try simp only [Act.put, List.setIfInBounds_toArray, List.set_cons_zero, List.set_cons_succ]
            refine wpAnyH_take (i := 4) (oi := _) (v := ?_) rfl (by kernel_rfl) (by kernel_rfl) (by kernel_rfl) (fun _ _ _ h => h) (Or.inl ⟨by rfl, ?_⟩) (by assumption) ?_
            rotate_left
            · intro w hSw; (try dsimp only at hSw); first | (obtain ⟨_, hSd⟩ := hSw; go_simp; try with_reducible rfl) | (go_simp; try with_reducible rfl)
            try simp only [Act.put, List.setIfInBounds_toArray, List.set_cons_zero, List.set_cons_succ]
            refine wpAnyH_take (i := 5) (oi := _) (v := ?_) rfl (by kernel_rfl) (by kernel_rfl) (by kernel_rfl) (fun _ _ _ h => h) (Or.inl ⟨by rfl, ?_⟩) (by assumption) ?_
            rotate_left
            · intro w hSw; (try dsimp only at hSw); first | (obtain ⟨_, hSd⟩ := hSw; go_simp; try with_reducible rfl) | (go_simp; try with_reducible rfl)
            try simp only [Act.put, List.setIfInBounds_toArray, List.set_cons_zero, List.set_cons_succ]
            refine wpAnyH_take (i := 6) (oi := _) (v := ?_) rfl (by kernel_rfl) (by kernel_rfl) (by kernel_rfl) (fun _ _ _ h => h) (Or.inl ⟨by kernel_rfl, ?_⟩) (by assumption) ?_
            rotate_left
            · intro w hSw; (try dsimp only at hSw); first | (obtain ⟨_, hSd⟩ := hSw; go_simp; try with_reducible rfl) | (go_simp; try with_reducible rfl)
            try simp only [Act.put, List.setIfInBounds_toArray, List.set_cons_zero, List.set_cons_succ]
            refine wpAnyH_take (i := 7) (oi := _) (v := ?_) rfl (by kernel_rfl) (by kernel_rfl) (by kernel_rfl) (fun _ _ _ h => h) (Or.inl ⟨by kernel_rfl, ?_⟩) (by assumption) ?_
            rotate_left
            · intro w hSw; (try dsimp only at hSw); first | (obtain ⟨_, hSd⟩ := hSw; go_simp; try with_reducible rfl) | (go_simp; try with_reducible rfl)
            try simp only [Act.put, List.setIfInBounds_toArray, List.set_cons_zero, List.set_cons_succ]
            refine wpAnyH_take (i := 8) (oi := _) (v := ?_) rfl (by kernel_rfl) (by kernel_rfl) (by kernel_rfl) (fun _ _ _ h => h) (Or.inl ⟨by kernel_rfl, ?_⟩) (by assumption) ?_
            rotate_left
            · intro w hSw; (try dsimp only at hSw); first | (obtain ⟨_, hSd⟩ := hSw; go_simp; try with_reducible rfl) | (go_simp; try with_reducible rfl)
            try simp only [Act.put, List.setIfInBounds_toArray, List.set_cons_zero, List.set_cons_succ]
            refine wpAnyH_take (i := 9) (oi := _) (v := ?_) rfl (by kernel_rfl) (by kernel_rfl) (by kernel_rfl) (fun _ _ _ h => h) (Or.inl ⟨by kernel_rfl, ?_⟩) (by assumption) ?_
            rotate_left
            · intro w hSw; (try dsimp only at hSw); first | (obtain ⟨_, hSd⟩ := hSw; go_simp; try with_reducible rfl) | (go_simp; try with_reducible rfl)
            try simp only [Act.put, List.setIfInBounds_toArray, List.set_cons_zero, List.set_cons_succ]
            refine wpAnyH_take (i := 10) (oi := _) (v := ?_) rfl (by kernel_rfl) (by kernel_rfl) (by kernel_rfl) (fun _ _ _ h => h) (Or.inl ⟨by kernel_rfl, ?_⟩) (by assumption) ?_
            rotate_left
            · intro w hSw; (try dsimp only at hSw); first | (obtain ⟨_, hSd⟩ := hSw; go_simp; try with_reducible rfl) | (go_simp; try with_reducible rfl)
            try simp only [Act.put, List.setIfInBounds_toArray, List.set_cons_zero, List.set_cons_succ]
            refine wpAnyH_take (i := 11) (oi := _) (v := ?_) rfl (by kernel_rfl) (by kernel_rfl) (by kernel_rfl) (fun _ _ _ h => h) (Or.inl ⟨by kernel_rfl, ?_⟩) (by assumption) ?_
            rotate_left
            · intro w hSw; (try dsimp only at hSw); first | (obtain ⟨_, hSd⟩ := hSw; go_simp; try with_reducible rfl) | (go_simp; try with_reducible rfl)
            try simp only [Act.put, List.setIfInBounds_toArray, List.set_cons_zero, List.set_cons_succ]
            refine wpAnyH_take (i := 12) (oi := _) (v := ?_) rfl (by kernel_rfl) (by kernel_rfl) (by kernel_rfl) (fun _ _ _ h => h) (Or.inl ⟨by kernel_rfl, ?_⟩) (by assumption) ?_
            rotate_left
            · intro w hSw; (try dsimp only at hSw); first | (obtain ⟨_, hSd⟩ := hSw; go_simp; try with_reducible rfl) | (go_simp; try with_reducible rfl)
            try simp only [Act.put, List.setIfInBounds_toArray, List.set_cons_zero, List.set_cons_succ]
            refine wpAnyH_ready (rs := [13]) (by kernel_rfl) (by simp) ?_
            refine AllReadyH.cons (o := _) rfl (fun K hK => ?_) AllReadyH.nil
            rw [if_pos (by kernel_rfl)]
            go_simp
            go_at_call 183
            refine (hedge.out _ hB0).mono ?_
            rintro e w12 ⟨rfl, hb12⟩
            have hB1 := below_trans hB0 hb12
            clear hb12
            go_wp2_with fail
            refine hK.out _ _ ?_ (fun hHeld => ?_)
            · (try dsimp only); exact ⟨hB1, cell_below hB1 g1h.out⟩
            clear hK K
            try simp only [Act.put, List.setIfInBounds_toArray, List.set_cons_zero, List.set_cons_succ]
            refine wpAnyH_ready (rs := [14]) (by kernel_rfl) (by simp) ?_
            refine AllReadyH.cons (o := _) rfl (fun K hK => ?_) AllReadyH.nil
            rw [if_pos (by kernel_rfl)]
            go_simp
            go_at_call 76
            refine (hfree.out _ hB1).mono ?_
            rintro e w13 ⟨rfl, hb13⟩
            have hB3 := below_trans hB1 hb13
            clear hb13
            go_wp2_with fail
            refine hK.out _ _ ?_ (fun hHeld => ?_)
            · (try dsimp only); exact ⟨hB3, cell_below hB3 g1h.out⟩
            clear hK K
            try simp only [Act.put, List.setIfInBounds_toArray, List.set_cons_zero, List.set_cons_succ]
            refine wpAnyH_take (i := 15) (oi := _) (v := ?_) rfl (by kernel_rfl) (by kernel_rfl) (by kernel_rfl) (fun _ _ _ h => h) (Or.inl ⟨by kernel_rfl, ?_⟩) (by assumption) ?_
            rotate_left
            · intro w hSw; (try dsimp only at hSw); first | (obtain ⟨_, hSd⟩ := hSw; go_simp; try with_reducible rfl) | (go_simp; try with_reducible rfl)
            try simp only [Act.put, List.setIfInBounds_toArray, List.set_cons_zero, List.set_cons_succ]
            refine wpAnyH_take (i := 16) (oi := _) (v := ?_) rfl (by kernel_rfl) (by kernel_rfl) (by kernel_rfl) (fun _ _ _ h => h) (Or.inl ⟨by rfl, ?_⟩) (by assumption) ?_
            rotate_left
            · intro w hSw; (try dsimp only at hSw); first | (obtain ⟨_, hSd⟩ := hSw; go_simp; try with_reducible rfl) | (go_simp; try with_reducible rfl)
            try simp only [Act.put, List.setIfInBounds_toArray, List.set_cons_zero, List.set_cons_succ]
            refine wpAnyH_done (by kernel_rfl) ?_ _
            refine NoPanic.normal ?_
            simp only [List.getElem_toArray, List.getElem_cons_succ, List.getElem_cons_zero, List.setIfInBounds_toArray, List.set_cons_zero, List.set_cons_succ]
            obtain ⟨hD13, hbf13⟩ := hD11h.out.below hB3
            have hM13 : Moves [tb, pb] w (bfoot w13 tb mb pb (.slice ap n c)) w13 := by rw [hbf13]; exact hM11h.out.trans (Moves.of_below _ hB3)
            have hfl13 : Hid (∀ k ∈ bfoot w13 tb mb pb (.slice ap n c), k < B2 ∨ E ≤ k) := by unfold Hid; rw [hbf13]; exact hfl11.out
            have hit13 : IterAt w13 B2 E ib (k + 1) ns := hit11h.out.same fun j h1 h2 => hB3.block j (by omega)
            have hE13 : E ≤ w13.heap.size := Nat.le_trans hE11 hB3.size
            have htake : ns.take (k + 1) = ns.take k ++ [x] := by rw [List.take_succ_eq_append_getElem hltn, ← hxeh.out]
            have hD13h := Lib.hid hD13
            have hM13h := Lib.hid hM13
            have hit13h := Lib.hid hit13
            obtain ⟨d0, d1, d4⟩ := hD13.que.cells
            clear hHeld hB0 hB1 hB3 hme hedge hfree g1 g1h hD11h hM11h hit11h hE11 hfl11 hbf13 hD13 hM13 hit13 d0 d1
            cases fb
            · have htk : ((ns.take (k + 1)).filter fun z => freeB dir barred t z) = (ns.take k).filter fun z => freeB dir barred t z := by
                rw [htake, List.filter_append, List.filter_cons_of_neg (by rw [← hfbh.out]; simp), List.filter_nil, List.append_nil]
              have hfin : Hid (RInv (succF ids outs dir barred) u v d P t Q1 Q2 ((ns.take (k + 1)).filter fun z => freeB dir barred t z)) := by unfold Hid; rw [htk]; exact hRh.out
              clear htk htake d4
              go_wp2_with fail
              go_roundg (ns.length - (k + 1))
              case measure => have := hgih.out; omega
              case rel => exact ⟨k + 1, Q2, n, c, ap, by omega, rfl, rfl, hnh.out, hnl, hmeh.out, hfin.out, hD13h.out, hM13h.out, hfl13.out, hit13h.out, hE13⟩
            · have htk : ((ns.take (k + 1)).filter fun z => freeB dir barred t z) = ((ns.take k).filter fun z => freeB dir barred t z) ++ [x] := by
                rw [htake, List.filter_append, List.filter_cons_of_pos (by rw [← hfbh.out]), List.filter_nil]
              have hhas := Lib.hid (isetHas_any ids mb (P.map Prod.fst ++ t :: (Q1 ++ Q2)).reverse x w13 h64x hD13h.out.set)
              have hdec : decide (x ∈ (P.map Prod.fst ++ t :: (Q1 ++ Q2)).reverse) = decide (x ∈ P.map Prod.fst ++ t :: (Q1 ++ Q2)) := by
                rw [Bool.eq_iff_iff, decide_eq_true_iff, decide_eq_true_iff, List.mem_reverse]
              rw [hdec] at hhas
              have hxs : Hid (x ∈ succF ids outs dir barred t) := by
                unfold Hid succF
                rw [hsucc.out, List.mem_filter]
                exact ⟨by rw [hxeh.out]; exact List.getElem_mem hltn, hfbh.out.symm⟩
              have htkh := Lib.hid htk
              clear htk htake hdec
              go_wp2_with fail
              refine (unhide hhas).mono ?_
              rintro e w14 ⟨rfl, o14, hw14⟩
              have hb14 : Below w13.heap.size w13 w14 := by rw [hw14]; exact alloc_below _ _
              obtain ⟨hD14, hbf14⟩ := hD13h.out.below hb14
              have hM14 : Moves [tb, pb] w (bfoot w14 tb mb pb (.slice ap n c)) w14 := by rw [hbf14]; exact hM13h.out.trans (Moves.of_below _ hb14)
              have hfl14 : Hid (∀ k ∈ bfoot w14 tb mb pb (.slice ap n c), k < B2 ∨ E ≤ k) := by unfold Hid; rw [hbf14]; exact hfl13.out
              have hit14 : IterAt w14 B2 E ib (k + 1) ns := hit13h.out.same fun j h1 h2 => hb14.block j (by omega)
              have hE14 : E ≤ w14.heap.size := Nat.le_trans hE13 hb14.size
              obtain ⟨e0, e1, e4⟩ := hD14.que.cells
              unfold visitB at e0
              have hD14h := Lib.hid hD14
              have hM14h := Lib.hid hM14
              have hit14h := Lib.hid hit14
              clear hw14 hb14 hD14 hM14 hit14 hbf14 hhas hD13h hM13h hit13h hE13 hfl13 d4 e1
              by_cases hxV : x ∈ P.map Prod.fst ++ t :: (Q1 ++ Q2)
              · have hdx : decide (x ∈ P.map Prod.fst ++ t :: (Q1 ++ Q2)) = true := decide_eq_true hxV
                have hfin : Hid (RInv (succF ids outs dir barred) u v d P t Q1 Q2 ((ns.take (k + 1)).filter fun z => freeB dir barred t z)) := by unfold Hid; rw [htkh.out]; exact hRh.out.seen hxV
                rw [hdx]
                clear hxV hdx e0 e4
                go_wp2_with fail
                go_roundg (ns.length - (k + 1))
                case measure => have := hgih.out; omega
                case rel => exact ⟨k + 1, Q2, n, c, ap, by omega, rfl, rfl, hnh.out, hnl, hmeh.out, hfin.out, hD14h.out, hM14h.out, hfl14.out, hit14h.out, hE14⟩
              · have hdx : decide (x ∈ P.map Prod.fst ++ t :: (Q1 ++ Q2)) = false := decide_eq_false hxV
                have hnew : Hid (RInv (succF ids outs dir barred) u v d P t Q1 (Q2 ++ [x]) ((ns.take (k + 1)).filter fun z => freeB dir barred t z)) := by unfold Hid; rw [htkh.out]; exact hRh.out.new hxs.out hxV
                rw [hdx]
                have hnl2 : n + 1 ≤ ids.length := by
                  have h1 := hnew.out.nd
                  have h2 := nodup_len h1 (fun y hy => haph.out y (hnew.out.reach y hy))
                  have h3 := hnh.out
                  rw [noted_length] at h3
                  simp at h2 h3
                  omega
                have hvis := Lib.hid (visitB_any ap n c x w14 hnh.out (by omega) hD14h.out)
                clear hxV hdx e4
                go_wp2_with fail
                refine (unhide hvis).mono ?_
                rintro e w15 ⟨rfl, a15, k15, hD15, hM15⟩
                have hfl15 : ∀ k ∈ bfoot w15 tb mb pb (.slice a15 (n + 1) k15), k < B2 ∨ E ≤ k := fun j hj => by
                  rcases hM15.row j hj with h | h
                  · exact hfl14.out j h
                  · exact .inr (Nat.le_trans hE14 h)
                have hit15 : IterAt w15 B2 E ib (k + 1) ns := hit14h.out.same fun j h1 h2 => hM15.block j (by omega) (fun hj => by have := hfl14.out j hj; omega)
                have hE15 : E ≤ w15.heap.size := Nat.le_trans hE14 hM15.size
                have hM15' := hM14h.out.trans hM15
                obtain ⟨f0, f1, f4⟩ := hD15.que.cells
                have hadd := Lib.hid (isetAdd_any ids mb (P.map Prod.fst ++ t :: (Q1 ++ Q2)).reverse x w15 h64x hxi (by omega) hD15.set)
                have hD15h := Lib.hid hD15
                have hM15h := Lib.hid hM15'
                have hfl15h := Lib.hid hfl15
                have hit15h := Lib.hid hit15
                clear hD15 hM15 hM15' hfl15 hit15 hvis hD14h hM14h hfl14 hit14h hE14 e0 f0 f1
                go_wp2_with fail
                refine (unhide hadd).mono ?_
                rintro e w16 ⟨rfl, hi16, hg16⟩
                obtain ⟨hD16, hbf16⟩ := hD15h.out.put hg16 hi16
                have hfl16 : ∀ k ∈ bfoot w16 tb mb pb (.slice a15 (n + 1) k15), k < B2 ∨ E ≤ k := by rw [hbf16]; exact hfl15h.out
                have hmbf : mb < B2 ∨ E ≤ mb := hfl15h.out mb (mem_bfoot.2 (by simp))
                have hM16 : Moves [tb, pb] w (bfoot w16 tb mb pb (.slice a15 (n + 1) k15)) w16 := by rw [hbf16]; exact hM15h.out.trans (Moves.of_grown hg16 (mem_bfoot.2 (by simp)))
                have hit16 : IterAt w16 B2 E ib (k + 1) ns := hit15h.out.same fun j h1 h2 => hg16.block j (by omega) (fun e => by injection e with e; omega)
                have hE16 : E ≤ w16.heap.size := Nat.le_trans hE15 hg16.size
                have henq := Lib.hid (enqueue_any B tb n _ (Q1 ++ Q2) x w16 (by omega) hD16.que)
                have hD16h := Lib.hid hD16
                have hM16h := Lib.hid hM16
                have hfl16h := Lib.hid hfl16
                have hit16h := Lib.hid hit16
                clear hi16 hg16 hD16 hbf16 hfl16 hmbf hM16 hit16 hadd hD15h hM15h hfl15h hit15h hE15 f4
                go_wp2_with fail
                refine (unhide henq).mono ?_
                rintro e w17 ⟨rfl, hq17, ht17⟩
                obtain ⟨hD17, hM17⟩ := hD16h.out.queue hq17 ht17
                have hfl17 : ∀ k ∈ bfoot w17 tb mb pb (.slice a15 (n + 1) k15), k < B2 ∨ E ≤ k := fun j hj => by
                  rcases hM17.row j hj with h | h
                  · exact hfl16h.out j h
                  · exact .inr (Nat.le_trans hE16 h)
                have hit17 : IterAt w17 B2 E ib (k + 1) ns := hit16h.out.same fun j h1 h2 => hM17.block j (by omega) (fun hj => by have := hfl16h.out j hj; omega)
                have hE17 : E ≤ w17.heap.size := Nat.le_trans hE16 hM17.size
                have hM17' := hM16h.out.trans hM17
                have q1 : Q1 ++ Q2 ++ [x] = Q1 ++ (Q2 ++ [x]) := List.append_assoc _ _ _
                have q2 : x :: (P.map Prod.fst ++ t :: (Q1 ++ Q2)).reverse = (P.map Prod.fst ++ t :: (Q1 ++ (Q2 ++ [x]))).reverse := by simp
                have q3 : noted (P ++ [(t, (d : Int))]) (Q1 ++ Q2) ++ [(x, -1)] = noted (P ++ [(t, (d : Int))]) (Q1 ++ (Q2 ++ [x])) := by rw [← noted_more, q1]
                rw [q1, q2, q3] at hD17
                have hfin : Hid (BfsAt w17 ids A B tb mb pb (n + 1) (visitB pb) (freeFn dp bp) (Q1 ++ (Q2 ++ [x])) (P.map Prod.fst ++ t :: (Q1 ++ (Q2 ++ [x]))).reverse (noted (P ++ [(t, (d : Int))]) (Q1 ++ (Q2 ++ [x]))) (.slice a15 (n + 1) k15) ∧
                    Moves [tb, pb] w (bfoot w17 tb mb pb (.slice a15 (n + 1) k15)) w17 ∧ (∀ k ∈ bfoot w17 tb mb pb (.slice a15 (n + 1) k15), k < B2 ∨ E ≤ k) ∧ IterAt w17 B2 E ib (k + 1) ns ∧ E ≤ w17.heap.size) := ⟨hD17, hM17', hfl17, hit17, hE17⟩
                have hnum : Hid (n + 1 = (noted (P ++ [(t, (d : Int))]) (Q1 ++ (Q2 ++ [x]))).length ∧ (Q1 ++ (Q2 ++ [x])).length + 2 * (ids.length - (n + 1)) ≤ M) := by
                  have h1 := hnh.out
                  have h2 := hmeh.out
                  unfold Hid
                  rw [noted_length] at h1 ⊢
                  simp at h1 h2 ⊢
                  omega
                have hc17 : ((Q2.length : Nat) : Int) + 1 = (((Q2 ++ [x]).length : Nat) : Int) := by simp
                clear hq17 ht17 hD17 hM17 hM17' hfl17 hit17 hE17 q1 q2 q3 henq hD16h hM16h hfl16h hit16h hE16
                go_wp2_with fail
                go_roundg (ns.length - (k + 1))
                case measure => have := hgih.out; omega
                case rel => exact ⟨k + 1, Q2 ++ [x], n + 1, k15, a15, by omega, by first | exact congrArg _ hc17 | (rw [← hc17]; go_num) | go_num, rfl, hnum.out.1, hnl2, hnum.out.2, hnew.out, hfin.out⟩
          · have hd : decide (k < ns.length) = false := decide_eq_false hlt
            have hkn : k = ns.length := by omega
            subst hkn
            go_wp2_with fail
            refine (unhide hnext).mono ?_
            rintro e w10 ⟨rfl, hg10, _⟩
            have hibn : ib ∉ bfoot wr tb mb pb (.slice ap n c) := fun h => by have := hflh.out ib h; omega
            obtain ⟨hD10, hbf10⟩ := hDh.out.same (fun j hj => hg10.block j (hDh.out.footlt j hj) (fun e => by injection e with e; exact hibn (e ▸ hj))) hg10.size
            have hM10 : Moves [tb, pb] w (bfoot w10 tb mb pb (.slice ap n c)) w10 := by rw [hbf10]; exact hMh.out.grown hg10 (fun q e => by injection e with e; omega)
            have hTs : ∀ y ∈ succF ids outs dir barred t, y ∈ (ns.take ns.length).filter fun z => freeB dir barred t z := fun y hy => by unfold succF at hy; rw [hsucc.out] at hy; rw [List.take_length]; exact hy
            have hRR := hRh.out
            have q2 : (P.map Prod.fst ++ t :: (Q1 ++ Q2)).reverse = ((P ++ [(t, (d : Int))]).map Prod.fst ++ (Q1 ++ Q2)).reverse := by simp
            rw [q2] at hD10
            have hD10h := Lib.hid hD10
            have hM10h := Lib.hid hM10
            have hnum : d ≤ 1000 ∧ Q1.length + Q2.length ≤ 1000 := by
              have h1 := hnh.out
              have h2 := hdnh.out
              rw [noted_length, List.length_append, List.length_append] at h1
              omega
            obtain ⟨hdb, hqb⟩ := hnum
            clear hg10 hnext hibn hD10 hM10 hDh hMh hbf10 q2
            rcases Q1 with _ | ⟨z, Q1⟩
            · have hturn := Lib.hid (hRR.turn hTs)
              have hfin : Hid (BfsAt w10 ids A B tb mb pb n (visitB pb) (freeFn dp bp) (Q2 ++ []) ((P ++ [(t, (d : Int))]).map Prod.fst ++ (Q2 ++ [])).reverse (noted (P ++ [(t, (d : Int))]) (Q2 ++ [])) (.slice ap n c) ∧ n = (noted (P ++ [(t, (d : Int))]) (Q2 ++ [])).length) := by
                unfold Hid
                rw [List.append_nil]
                exact ⟨hD10h.out, hnh.out⟩
              have hm2 : Hid ((Q2 ++ []).length + 2 * (ids.length - n) < M + 1) := by have h1 := hmeh.out; unfold Hid; simp at h1 ⊢; omega
              have hd2 : Hid (d + 1 ≤ (P ++ [(t, (d : Int))]).length) := by have := hdnh.out; unfold Hid; rw [List.length_append, List.length_singleton]; omega
              clear hRR hTs
              go_wp2_with fail
              go_roundg ((Q2 ++ []).length + 2 * (ids.length - n))
              case measure => have h1 := hm2.out; have h2 := hMg.out; omega
              case rel => exact ⟨d + 1, P ++ [(t, (d : Int))], Q2, [], n, c, ap, by go_num, rfl, rfl, hfin.out.2, hnl, hd2.out, rfl, hturn.out, hfin.out.1, hM10h.out⟩
            · have hnx := Lib.hid (hRR.next hTs (by simp))
              have hm2 : Hid ((z :: Q1 ++ Q2).length + 2 * (ids.length - n) < M + 1) := by have h1 := hmeh.out; unfold Hid; omega
              have hd2 : Hid (d ≤ (P ++ [(t, (d : Int))]).length) := by have := hdnh.out; unfold Hid; rw [List.length_append, List.length_singleton]; omega
              have hqb2 : Q1.length + 1 ≤ 1000 := by rw [List.length_cons] at hqb; omega
              have hz3 : ¬ ((Q1.length : Int) + 1 = 0) := by omega
              clear hRR hTs
              go_wp2_with fail
              go_roundg ((z :: Q1 ++ Q2).length + 2 * (ids.length - n))
              case measure => have h1 := hm2.out; have h2 := hMg.out; omega
              case rel => exact ⟨d, P ++ [(t, (d : Int))], z :: Q1, Q2, n, c, ap, rfl, rfl, by go_num, hnh.out, hnl, hd2.out, rfl, hnx.out, hD10h.out, hM10h.out⟩
end Go.Proofs.YtpmphefmmcbpaaaGreat
