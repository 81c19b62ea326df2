/- laws.wanders, depth first. -/
import Derived.Test.YtgbihghaoapgiaaGreatDfsImpl
import Derived.Test.YtgbihghaoapgiaaGreatSameLists
namespace Go.Proofs.YtgbihghaoapgiaaGreat
open Go.RowKit

/-- Two nodes without an edge. -/
def g9 : Gr := ⟨false, [9, 7], []⟩
theorem asc9 : asc g9.nodes = [7, 9] := (asc_unique (zs := [9, 7]) (List.Perm.swap _ _ _) (by decide)).symm
theorem ok9 : okGraph g9 = true := by decide
theorem succ9 {x : Int} (hx : x ∈ g9.nodes) : gSucc g9 x = [] := by
  refine List.eq_nil_iff_forall_not_mem.2 fun y hy => ?_
  have := ((gSucc_mem ok9 hx).1 hy).2
  cases this

theorem walks9 {L : List (List Int)} (h : DAll (gSucc g9) (asc g9.nodes) (asc g9.nodes).length L) : L = [[7], [9]] := by
  have hone : ∀ l ∈ L, l = [l.headD 0] := fun l hl => by
    have hw := h.walk l hl
    match l, hl, hw with
    | [], _, hw => exact absurd rfl hw.ne
    | [a], _, _ => rfl
    | a :: b :: t, hl, hw =>
      obtain ⟨j, hj, h1, _⟩ := hw.deep 1 (by simp) (by omega)
      have hj0 : j = 0 := by omega
      subst hj0
      have ha : a ∈ g9.nodes := asc_mem.1 (h.sub a (List.mem_flatten.2 ⟨_, hl, by simp⟩))
      have h1' : b ∈ gSucc g9 a := h1
      rw [succ9 ha] at h1'
      cases h1'
  have hL : L = (L.map fun l => l.headD 0).map fun a => [a] := by
    rw [List.map_map]
    exact (List.map_id L).symm.trans (List.map_congr_left fun l hl => hone l hl)
  have hfl : L.flatten = L.map fun l => l.headD 0 := by
    generalize hm : (L.map fun l => l.headD 0) = m at hL
    rw [hL]
    clear hL hm
    induction m with
    | nil => rfl
    | cons a m ih => rw [List.map_cons, List.flatten_cons, ih]; rfl
  have hnd : (asc g9.nodes).Nodup := by rw [asc9]; decide
  have hp := (h.perm _ hnd).length_eq
  have hs := h.heads
  rw [List.take_length] at hs
  have he := hs.eq_of_length (by rw [← hfl]; exact hp)
  rw [hL, he, asc9]; rfl

set_option maxRecDepth 100000 in
set_option maxHeartbeats 1000000 in
theorem wanders_any (w : World) : Calls Tryz.prog 26 #[.bool true] w fun e w' => e = .returned (.bool true) ∧ Below w.heap.size w w' := by
  obtain ⟨w1, hw1⟩ : ∃ w1, w1 = w.alloc (.cells #[.int .i64 9, .int .i64 7] 3) := ⟨_, rfl⟩
  have hb1 : Below w.heap.size w w1 := by rw [hw1]; exact alloc_below w _
  have c1 : Cells w1 (some ⟨w.heap.size, 0, none⟩) (ints [9, 7]) := by
    have hblk : w1.heap[w.heap.size]? = some (.cells #[.int .i64 9, .int .i64 7] 3 (0, 0)) := by rw [hw1]; exact heap_alloc_new _ _
    refine Cells.mk (lt_of_block hblk) fun j u hj => ?_
    rw [cell_of_row w1 w.heap.size (0 + j) _ _ _ hblk]
    have e : ints [9, 7] = [.int .i64 9, .int .i64 7] := rfl
    rw [e] at hj
    simpa using hj
  have h64 : ∀ x ∈ g9.nodes, In64 x := fun x hx => by
    have h : x = 9 ∨ x = 7 := by simpa [g9] using hx
    rcases h with rfl | rfl
    · show (Lit.int .i64 9).wf = true
      rfl
    · show (Lit.int .i64 7).wf = true
      rfl
  have e1 : g9.dir = false := rfl
  have e2 : g9.nodes.length = 2 := rfl
  have e3 : g9.edges.length = 0 := rfl
  have hwa := walkAllDeep_any g9 (some ⟨w.heap.size, 0, none⟩) 2 none 0 w1 (by rw [e2]; omega) (by rw [e3]; omega) ⟨c1, .inl rfl, fun e => by cases e⟩ ok9 rfl h64
  rw [e1, e2, e3] at hwa
  clear h64 e1 e2 e3 c1
  rw [hw1] at hwa
  have hwah := Lib.hid hwa
  have hb1h := Lib.hid hb1
  have hw1h := Lib.hid hw1
  clear hw1 hb1 hwa
  go_enter Tryz.func26, Tryz.ntmps26
  go_wp2_with fail
  refine (unhide hwah).mono ?_
  rintro e w2 ⟨la, lc, vs, L, rfl, hrow, hrows, hall, hb2⟩
  rw [← hw1h.out] at hb2 hrow hrows
  have hL := walks9 hall
  subst hL
  have hbw : Hid (Below w.heap.size w w2) := hb1h.out.trans (hb2.mono hb1h.out.size)
  obtain ⟨W, hW⟩ : ∃ W, W = ((w2.alloc (.cells #[.int .i64 7] 3)).alloc (.cells #[.int .i64 9] 3)).alloc (.cells #[.slice (some ⟨w2.heap.size, 0, none⟩) 1 1, .slice (some ⟨w2.heap.size + 1, 0, none⟩) 1 1] 22) := ⟨_, rfl⟩
  have hb2W : Below w2.heap.size w2 W := by rw [hW]; exact ((alloc_below w2 _).trans ((alloc_below _ _).mono (by simp))).trans ((alloc_below _ _).mono (by simp; omega))
  have hzW : W.heap.size = w2.heap.size + 3 := by rw [hW]; simp
  have n0 : W.heap[w2.heap.size]? = some (.cells #[.int .i64 7] 3 (0, 0)) := by
    rw [hW, Below.heap_alloc _ _ _ (by simp; omega), Below.heap_alloc _ _ _ (by simp)]
    exact heap_alloc_new _ _
  have n1 : W.heap[w2.heap.size + 1]? = some (.cells #[.int .i64 9] 3 (0, 0)) := by
    rw [hW, Below.heap_alloc _ _ _ (by simp)]
    have := heap_alloc_new (w2.alloc (.cells #[.int .i64 7] 3)) (.cells #[.int .i64 9] 3)
    rwa [show (w2.alloc (.cells #[.int .i64 7] 3)).heap.size = w2.heap.size + 1 by simp] at this
  have n2 : W.heap[w2.heap.size + 2]? = some (.cells #[.slice (some ⟨w2.heap.size, 0, none⟩) 1 1, .slice (some ⟨w2.heap.size + 1, 0, none⟩) 1 1] 22 (0, 0)) := by
    rw [hW]
    have := heap_alloc_new ((w2.alloc (.cells #[.int .i64 7] 3)).alloc (.cells #[.int .i64 9] 3)) (.cells #[.slice (some ⟨w2.heap.size, 0, none⟩) 1 1, .slice (some ⟨w2.heap.size + 1, 0, none⟩) 1 1] 22)
    rwa [show ((w2.alloc (.cells #[.int .i64 7] 3)).alloc (.cells #[.int .i64 9] 3)).heap.size = w2.heap.size + 2 by simp] at this
  have hc : ∀ {b : Nat} {cs : List Value} {t : TypeId}, W.heap[b]? = some (.cells cs.toArray t (0, 0)) → Cells W (some ⟨b, 0, none⟩) cs := fun {b cs t} h => Cells.mk (lt_of_block h) fun j u hj => by
    have := cell_of_row W b (0 + j) cs.toArray t (0, 0) h
    rw [this]
    simpa using hj
  have hvl : vs.length = 2 := hrows.1
  have hcv : Cells W la vs := by
    obtain ⟨aa, ca, hea, _, hcs, _⟩ := owns_cells hrow
    injection hea with hea _ _
    rw [hea]
    exact hcs.below hb2W
  have hsame : Hid (Calls Tryz.prog 28 #[.slice la 2 lc, .slice (some ⟨w2.heap.size + 2, 0, none⟩) 2 2] W fun e w' => e = .returned (.bool true) ∧ ∃ q, w' = W.drewN q) := by
    refine sameLists_true la _ lc 2 2 vs [.slice (some ⟨w2.heap.size, 0, none⟩) 1 1, .slice (some ⟨w2.heap.size + 1, 0, none⟩) 1 1] [[7], [9]] W rfl (by decide) (by decide) hcv (hc n2) hvl rfl (fun k hk => ?_) (fun k hk => ?_)
    · have hv : vs[k]? = some (vs[k]'(by rw [hvl]; exact hk)) := List.getElem?_eq_getElem _
      have h1 := hrows.2 k _ _ hv (List.getElem?_eq_getElem hk)
      obtain ⟨ax, cx, e, _, hcs, _⟩ := owns_cells h1
      rw [e] at hv
      exact ⟨ax, cx, hv, hcs.below hb2W⟩
    · match k, hk with
      | 0, _ => exact ⟨_, _, rfl, hc n0⟩
      | 1, _ => exact ⟨_, _, rfl, hc n1⟩
      | k + 2, hk => exact absurd hk (by simp)
  have hWh := Lib.hid hW
  have hfb : Hid (Below w.heap.size w W) := hbw.out.trans (hb2W.mono hbw.out.size)
  clear hW hb2 hrow hrows hall hb2W hzW n0 n1 n2 hvl hcv hwah hc
  go_wp2_with fail
  rw [← hWh.out]
  refine (unhide hsame).mono ?_
  rintro e w3 ⟨rfl, q, hw3⟩
  have hfin : Hid (Below w.heap.size w w3) := by unfold Hid; rw [hw3]; exact below_draws hfb.out q
  clear hw3 hsame
  go_wp2_with fail
  go_ret
  exact ⟨rfl, hfin.out⟩
end Go.Proofs.YtgbihghaoapgiaaGreat
