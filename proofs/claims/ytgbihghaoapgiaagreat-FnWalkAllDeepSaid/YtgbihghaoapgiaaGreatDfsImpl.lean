/- impl.WalkAll, depth first, over an undirected graph that is well formed. -/
import Derived.Test.YtgbihghaoapgiaaGreatDfsAll
import Derived.BigRegion
namespace Go.Proofs.YtgbihghaoapgiaaGreat
open Go.RowKit

theorem gSucc_sym {g : Gr} (hok : okGraph g = true) (hd : g.dir = false) : ∀ x ∈ asc g.nodes, ∀ y ∈ succOf (asc g.nodes) (outsOf g) x, y ∈ asc g.nodes ∧ x ∈ succOf (asc g.nodes) (outsOf g) y := fun x hx y hy => by
  have hx' := asc_mem.1 hx
  obtain ⟨h1, h2⟩ := (gSucc_mem hok hx').1 hy
  refine ⟨asc_mem.2 h1, (gSucc_mem hok h1).2 ⟨hx', ?_⟩⟩
  unfold arcB at h2 ⊢
  rw [List.any_eq_true] at h2 ⊢
  obtain ⟨e, he, hh⟩ := h2
  refine ⟨e, he, decide_eq_true ?_⟩
  rcases of_decide_eq_true hh with ⟨e1, e2⟩ | ⟨e0, e1, e2⟩
  · exact .inr ⟨hd, e1, e2⟩
  · exact .inl ⟨e1, e2⟩

theorem store_nilFunc (P : Program) (w : World) (a : Addr) (m : Go.Mode) : (store a .nilFunc m).run P w = stored P w a .nilFunc m := run_store P w a _ m rfl

/-- What impl.WalkAll gives. -/
def WalkAllRes (w : World) (g : Gr) (e : Ending) (w' : World) : Prop :=
  ∃ (la : Option Addr) (lc : Nat) (vs : List Value) (L : List (List Int)), e = .returned (.tuple #[.slice la L.length lc, .bool false]) ∧ w'.ownsRow w.heap.size 22 1 (.slice la L.length lc) L.length vs ∧ IRows w' w.heap.size vs L ∧
    DAll (gSucc g) (asc g.nodes) (asc g.nodes).length L ∧ Below w.heap.size w w'

set_option maxRecDepth 100000 in
set_option maxHeartbeats 4000000 in
theorem walkAllDeep_any (g : Gr) (an : Option Addr) (cn : Nat) (ae : Option Addr) (ce : Nat) (w : World) (hn : g.nodes.length ≤ 1000) (he : g.edges.length ≤ 1048576) (hg : GrAt w g an cn ae) (hok : okGraph g = true) (hd : g.dir = false) (h64 : ∀ x ∈ g.nodes, In64 x) :
    Calls Tryz.prog 23 #[.agg #[.bool g.dir, .slice an g.nodes.length cn, .slice ae g.edges.length ce], .bool true] w (WalkAllRes w g) := by
  obtain ⟨w1, hw1⟩ : ∃ w1, w1 = (w.alloc (.cells #[.bool g.dir, .slice an g.nodes.length cn, .slice ae g.edges.length ce] 25)).alloc (.cells #[.slice none 0 0] 46) := ⟨_, rfl⟩
  have hb1 : Below w.heap.size w w1 := by rw [hw1]; exact (alloc_below w _).trans ((alloc_below _ _).mono (by simp))
  have hz1 : w1.heap.size = w.heap.size + 2 := by rw [hw1]; simp
  have hl1 : VBlk w1 (w.heap.size + 1) 46 (.slice none 0 0) := by
    rw [hw1]
    have := heap_alloc_new (w.alloc (.cells #[.bool g.dir, .slice an g.nodes.length cn, .slice ae g.edges.length ce] 25)) (.cells #[.slice none 0 0] 46)
    rwa [show (w.alloc (.cells #[.bool g.dir, .slice an g.nodes.length cn, .slice ae g.edges.length ce] 25)).heap.size = w.heap.size + 1 by simp] at this
  have hbw := bothWays_any g an cn ae ce w1 (by omega) he (hg.below hb1)
  rw [hw1] at hbw
  have hbwh := Lib.hid hbw
  have hw1h := Lib.hid hw1
  have hb1h := Lib.hid hb1
  have hz1h := Lib.hid hz1
  have hl1h := Lib.hid hl1
  have hokh := Lib.hid hok
  have hdh := Lib.hid hd
  have h64h : Hid (∀ x ∈ asc g.nodes, In64 x) := fun x hx => h64 x (asc_mem.1 hx)
  have hids : Hid ((asc g.nodes).length ≤ 1000) := by unfold Hid; rw [asc_length]; exact hn
  have hsymh := Lib.hid (gSucc_sym hok hd)
  clear hw1 hb1 hz1 hl1 hbw hg h64 hok hd
  go_enter Tryz.func23, Tryz.ntmps23
  go_wp2_with fail
  refine (unhide hbwh).mono ?_
  rintro e w2 ⟨gb, rfl, hb2, hp2⟩
  rw [← hw1h.out] at hb2 hp2
  have hFA := hp2 hokh.out
  have hres : (okGraph g && !g.dir) = true := by rw [hokh.out, hdh.out]; rfl
  rw [hres]
  have hl2 : VBlk w2 (w.heap.size + 1) 46 (.slice none 0 0) := (hb2.block _ (by have := hz1h.out; omega)).trans hl1h.out
  have hz2 := hb2.size
  obtain ⟨w3, hw3⟩ : ∃ w3, w3 = w2.alloc (.cells #[.pointer (some ⟨gb, 0, none⟩)] 99) := ⟨_, rfl⟩
  obtain ⟨w4, hw4⟩ : ∃ w4, w4 = w3.alloc (.cells #[.slice none 0 0] 22) := ⟨_, rfl⟩
  obtain ⟨w5, hw5⟩ : ∃ w5, w5 = w4.alloc (.cells #[.nilFunc, .nilFunc, .slice none 0 0, .map none] 92) := ⟨_, rfl⟩
  have z3 : w3.heap.size = w2.heap.size + 1 := by rw [hw3]; simp
  have z4 : w4.heap.size = w2.heap.size + 2 := by rw [hw4]; simp [z3]
  have z5 : w5.heap.size = w2.heap.size + 3 := by rw [hw5]; simp [z4]
  have b3 : Below w2.heap.size w2 w3 := by rw [hw3]; exact alloc_below _ _
  have b4 : Below w3.heap.size w3 w4 := by rw [hw4]; exact alloc_below _ _
  have b5 : Below w4.heap.size w4 w5 := by rw [hw5]; exact alloc_below _ _
  have b25 : Below w2.heap.size w2 w5 := (b3.trans (b4.mono (by omega))).trans (b5.mono (by omega))
  have hu5 : w5.cell? ⟨w2.heap.size, 0, none⟩ = some (.pointer (some ⟨gb, 0, none⟩)) := by
    rw [(b5.mono (show w3.heap.size ≤ w4.heap.size by omega)).cell (by show w2.heap.size < _; omega), b4.cell (by show w2.heap.size < _; omega), hw3]
    simp
  have hp5 : VBlk w5 (w2.heap.size + 1) 22 (.slice none 0 0) := by
    refine (b5.block _ (by omega)).trans ?_
    have := heap_alloc_new w3 (.cells #[.slice none 0 0] 22)
    rw [← hw4, z3] at this
    exact this
  have hd5 : DBlk w5 (w2.heap.size + 2) .nilFunc .nilFunc (.slice none 0 0) (.map none) := by
    have := heap_alloc_new w4 (.cells #[.nilFunc, .nilFunc, .slice none 0 0, .map none] 92)
    rw [← hw5, z4] at this
    exact this
  have hl5 : VBlk w5 (w.heap.size + 1) 46 (.slice none 0 0) := (b25.block _ (lt_of_block hl2)).trans hl2
  have hF5 := hFA.within.below b25
  have hz1' := hz1h.out
  have hwa := dwalkAll_any gb w1.heap.size w2.heap.size (asc g.nodes) (outsOf g) _ w.heap.size (w2.heap.size + 2) (w2.heap.size + 1) (w.heap.size + 1) w5 hids.out h64h.out hsymh.out hd5 hp5 hl5 hF5 ⟨by omega, by omega, by omega⟩ ⟨by omega, by omega, by omega⟩ ⟨.inr (by omega), .inr (by omega), .inl (by omega)⟩
  unfold noteFn at hwa
  have hwah := Lib.hid hwa
  have hlow5 : Hid (Below w.heap.size w w5) := hb1h.out.trans ((hb2.mono (by omega)).trans (b25.mono (by omega)))
  have hw345 : Hid (w5 = ((w2.alloc (.cells #[.pointer (some ⟨gb, 0, none⟩)] 99)).alloc (.cells #[.slice none 0 0] 22)).alloc (.cells #[.nilFunc, .nilFunc, .slice none 0 0, .map none] 92)) := by
    unfold Hid; rw [hw5, hw4, hw3]
  clear hp2 hFA hres hl2 hz2 hw3 hw4 hw5 z3 z4 z5 b3 b4 b5 b25 hu5 hp5 hd5 hl5 hF5 hz1' hwa hb2 hbwh
  have hsn := store_nilFunc Tryz.prog
  go_wp2_with fail
  rw [← hw345.out]
  refine (unhide hwah).mono ?_
  rintro e w6 ⟨rfl, la, lc, vs, L, hL6, hall, hb6⟩
  have l0 := hL6.blk.c0
  have lf := hL6.blk.free 0
  have hset : ∀ u, (w6.setCell ⟨w.heap.size + 1, 0, none⟩ u).cell? ⟨w.heap.size + 1, 0, none⟩ = some u := fun u => (hL6.blk.set u).c0
  have hfin : Hid (WalkAllRes w g (.returned (.tuple #[.slice la L.length lc, .bool false])) (w6.setCell ⟨w.heap.size + 1, 0, none⟩ (.slice la L.length lc))) := by
    have hb := hlow5.out.trans (hb6.mono (Nat.le_refl _))
    have hlw := hL6.blk.lt
    have hk : ∀ j ∈ lfoot (w.heap.size + 1) (.slice la L.length lc) vs, j ≠ w.heap.size + 1 → (w6.setCell ⟨w.heap.size + 1, 0, none⟩ (.slice la L.length lc)).heap[j]? = w6.heap[j]? := fun j _ hj => Below.heap_setCell _ _ _ _ hj
    refine ⟨la, lc, vs, L, rfl, owns_same hL6.row fun j hj => hk j (mem_lfoot.2 (.inr (.inl hj))) (hL6.ap j hj).2, hL6.rows.same fun j hj => hk j (mem_lfoot.2 (.inr (.inr hj))) (fun e => hL6.lbn (e ▸ hj)), hall, hb.setCell (by show w.heap.size ≤ w.heap.size + 1; omega) _⟩
  obtain ⟨n, hn2⟩ : ∃ n, n = L.length := ⟨_, rfl⟩
  rw [← hn2] at l0 hfin
  clear hL6 hall hb6 hwah hn2
  go_wp2_with fail
  refine bodyPost_ret (v := .tuple #[.slice la n lc, .bool false]) (by simp [results, Tryz.results23, go_sem, hset]) rfl ?_
  exact hfin.out
end Go.Proofs.YtgbihghaoapgiaaGreat
