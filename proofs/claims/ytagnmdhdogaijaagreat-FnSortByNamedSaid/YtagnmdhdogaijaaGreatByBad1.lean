/- laws.arranges: one graph sorted by one order. -/
import Derived.Test.YtagnmdhdogaijaaGreatSortBy2
import Derived.Test.YtagnmdhdogaijaaGreatByBad0
namespace Go.Proofs.YtagnmdhdogaijaaGreat
open Go.RowKit

def g0 : Gr := ⟨true, [7, 9], []⟩

theorem srtBy_unique {pl zs ys : List Int} (hp : ys.Perm zs) (hs : ys.Pairwise fun x y => idxI pl x ≤ idxI pl y) (hm : ∀ z ∈ zs, z ∈ pl) : srtBy pl zs = ys := by
  have h1 : (srtBy pl zs).Pairwise fun x y => idxI pl x ≤ idxI pl y := by
    have := List.pairwise_mergeSort (le := fun x y => decide (idxI pl x ≤ idxI pl y)) (fun a b c h1 h2 => by simp at *; omega) (fun a b => by simp; omega) zs
    exact this.imp fun h => of_decide_eq_true h
  exact ((srtBy_perm pl zs).trans hp.symm).eq_of_pairwise (le := fun x y => idxI pl x ≤ idxI pl y) (fun a b ha hb h1 h2 => idxI_inj (hm a (srtBy_mem.1 ha)) (hm b (hp.mem_iff.1 hb)) (by omega)) h1 hs

theorem asc0 : asc [7, 9] = [7, 9] := (asc_unique (List.Perm.refl _) (by decide)).symm
theorem srt0 : srtBy [9, 7] [7, 9] = [9, 7] := srtBy_unique (List.Perm.swap _ _ _) (by decide) (by decide)
theorem outs0 (x : Int) : succOf [7, 9] (outsT g0) x = [] := by
  unfold outsT
  show succOf [7, 9] (tabs bitsOf (asc [7, 9]) true []).1 x = []
  rw [asc0]
  unfold succOf
  show endsOf [7, 9] ((tabs bitsOf [7, 9] true []).1.getD (posOf [7, 9] x) []) = []
  have e : (tabs bitsOf [7, 9] true []).1 = [[], []] := rfl
  rw [e]
  have : ∀ k, ([[], []] : List (List Arc)).getD k [] = [] := fun k => by
    match k with
    | 0 => rfl
    | 1 => rfl
    | k + 2 => rfl
  rw [this]
  rfl
theorem gBy0 : gBy g0 [9, 7] = [[7], [9]] := by
  unfold gBy byComps
  show sccsOf (succBy [9, 7] (asc [7, 9]) (outsT g0)) (srtBy [9, 7] (asc [7, 9])).reverse = _
  rw [asc0, srt0]
  have e : succBy [9, 7] [7, 9] (outsT g0) = fun _ => [] := by
    funext x
    unfold succBy
    rw [outs0]
    rw [srtBy_unique (List.Perm.refl _) List.Pairwise.nil (by simp)]
    rfl
  rw [e]
  rfl
theorem good0 : goodBy g0 [9, 7] = true := by decide

theorem two_cells (w : World) (x y : Value) (e : TypeId) (W : World) (hW : Below (w.alloc (.cells #[x, y] e)).heap.size (w.alloc (.cells #[x, y] e)) W) : Cells W (some ⟨w.heap.size, 0, none⟩) [x, y] := by
  refine Cells.below ?_ hW
  refine Cells.mk (by simp) fun j u hj => ?_
  have := new_two w x y e j u hj
  rw [Addr.add_mid] at this
  exact this

set_option maxRecDepth 100000 in
set_option maxHeartbeats 1000000 in
theorem arranges_any (w : World) : Calls Tryz.prog 19 #[] w fun e w' => e = .returned (.bool true) ∧ Below w.heap.size w w' := by
  obtain ⟨wa, hwa⟩ : ∃ wa, wa = w.alloc (.cells #[.int .i64 7, .int .i64 9] 3) := ⟨_, rfl⟩
  obtain ⟨wb, hwb⟩ : ∃ wb, wb = wa.alloc (.cells #[.int .i64 9, .int .i64 7] 3) := ⟨_, rfl⟩
  have ha : Below wa.heap.size wa wb := by rw [hwb]; exact alloc_below _ _
  have hza : wa.heap.size = w.heap.size + 1 := by rw [hwa]; simp
  have hbw : Below w.heap.size w wb := by rw [hwa] at ha; exact (alloc_below w _).trans (ha.mono (by simp))
  have c1 : Cells wb (some ⟨w.heap.size, 0, none⟩) (ints [7, 9]) := two_cells w _ _ _ wb (by rw [← hwa]; exact ha)
  have c2 : Cells wb (some ⟨w.heap.size + 1, 0, none⟩) (ints [9, 7]) := by
    have := two_cells wa (.int .i64 9) (.int .i64 7) 3 wb (by rw [← hwb]; exact Below.refl _ _)
    rw [hza] at this
    exact this
  have h64 : ∀ x ∈ g0.nodes, In64 x := fun x hx => by
    have h : x = 7 ∨ x = 9 := by simpa [g0] using hx
    rcases h with rfl | rfl
    · show (Lit.int .i64 7).wf = true
      rfl
    · show (Lit.int .i64 9).wf = true
      rfl
  have hga : GrAt wb g0 (some ⟨w.heap.size, 0, none⟩) 2 none := ⟨c1, .inl rfl, fun e => by cases e⟩
  have e1 : g0.dir = true := rfl
  have e2 : g0.nodes.length = 2 := rfl
  have e3 : g0.edges.length = 0 := rfl
  have e4 : ([9, 7] : List Int).length = 2 := rfl
  have hsb := sortByI_any g0 (some ⟨w.heap.size, 0, none⟩) 2 none 0 (some ⟨w.heap.size + 1, 0, none⟩) 2 [9, 7] wb (by rw [e2]; omega) (by rw [e3]; omega) hga h64 (by rw [e4]; omega) c2 (fun e => by cases e)
  rw [e1, e2, e3, e4] at hsb
  clear h64 hga e1 e2 e3 e4
  rw [hwb, hwa] at hsb
  have hsbh := Lib.hid hsb
  have hbwh := Lib.hid hbw
  have hwbh : Hid (wb = (w.alloc (.cells #[.int .i64 7, .int .i64 9] 3)).alloc (.cells #[.int .i64 9, .int .i64 7] 3)) := by unfold Hid; rw [hwb, hwa]
  clear hwa hwb ha hza c1 c2 hsb hbw
  go_enter Tryz.func19, Tryz.ntmps19
  go_wp2_with fail
  refine (unhide hsbh).mono ?_
  rintro e w1 ⟨hb1, _, hgd⟩
  obtain ⟨a1, c1, a2, c2, B, vs, rfl, ho, _, _⟩ := hgd good0
  rw [← hwbh.out] at hb1
  have hbw1 : Hid (Below w.heap.size w w1) := hbwh.out.trans (hb1.mono hbwh.out.size)
  rw [gBy0] at ho ⊢
  have e1 : cycBy [9, 7] [[7], [9]] ([[7], [9]] : List (List Int)).length = [] := rfl
  have e2 : ([[7], [9]] : List (List Int)).length = 2 := rfl
  have e3 : (([[7], [9]] : List (List Int)).map topO).reverse = [some 9, some 7] := rfl
  rw [e1]
  rw [e2] at ho ⊢
  rw [e3] at ho
  obtain ⟨aa, ca, he, _, hcs, _⟩ := owns_cells ho
  injection he with he1 _ he3
  subst he1; subst he3
  have hcs1 : Cells w1 a1 (slotCells [some 9, some 7]) := hcs
  have heq : Hid (∀ W, Below w1.heap.size w1 W → ∀ a3 c3, Cells W a3 (slotCells [some 9, some 7]) → Calls Tryz.prog 43 #[.slice a1 2 c1, .slice a3 2 c3] W fun e w' => e = .returned (.bool true) ∧ ∃ q, w' = W.drewN q) := fun W hW a3 c3 h3 =>
    slotsEq_true a1 a3 c1 c3 2 [some 9, some 7] W rfl (by decide) (hcs1.below hW) h3
  have heq2 : Hid (Calls Tryz.prog 43 #[.slice a1 2 c1, .slice (some ⟨w1.heap.size, 0, none⟩) 2 2] (w1.alloc (.cells #[.bool false, .int .i64 9, .bool false, .int .i64 7] 48)) fun e w' => e = .returned (.bool true) ∧ ∃ q, w' = (w1.alloc (.cells #[.bool false, .int .i64 9, .bool false, .int .i64 7] 48)).drewN q) := by
    refine heq.out _ (alloc_below _ _) _ _ (Cells.mk (by simp) fun j u hj => ?_)
    have hc : slotCells [some 9, some 7] = [.bool false, .int .i64 9, .bool false, .int .i64 7] := rfl
    rw [hc] at hj
    unfold World.cell?
    rw [show (⟨w1.heap.size, 0 + j, none⟩ : Addr).block = w1.heap.size from rfl, heap_alloc_new]
    match j, hj with
    | 0, hj => simpa using hj
    | 1, hj => simpa using hj
    | 2, hj => simpa using hj
    | 3, hj => simpa using hj
    | j + 4, hj => simp at hj
  clear ho hcs hcs1 heq e1 e2 e3 hgd hb1
  go_wp2_with fail
  refine (unhide heq2).mono ?_
  rintro e w2 ⟨rfl, q, hw2⟩
  have hfin : Hid (Below w.heap.size w w2) := by
    unfold Hid
    rw [hw2]
    exact below_draws (hbw1.out.trans ((alloc_below w1 _).mono hbw1.out.size)) _
  clear hw2 heq2
  go_wp2_with fail
  go_ret
  exact ⟨rfl, hfin.out⟩
end Go.Proofs.YtagnmdhdogaijaaGreat
