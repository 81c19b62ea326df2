/- impl.bothWays. -/
import Derived.Test.YthpjmjohdliohaaGreatRead
import Derived.Test.YthpjmjohdliohaaGreatTabsS
import Derived.Test.YthpjmjohdliohaaGreatIter
import Derived.StillTailTactics
import Derived.BigRegion
namespace Go.Proofs.YthpjmjohdliohaaGreat
open Go.RowKit

/-- What bothWays gives. -/
def BothWaysPost (w : World) (g : Gr) (e : Ending) (w' : World) : Prop :=
  ∃ pb, e = .returned (.tuple #[.agg #[.pointer (some ⟨pb, 0, none⟩)], .bool (okGraph g && !g.dir)]) ∧ Below w.heap.size w w' ∧
    (okGraph g = true → FarAt w.heap.size w' pb (asc g.nodes) (tabs bitsOf (asc g.nodes) g.dir g.edges).1 (tabs bitsOf (asc g.nodes) g.dir g.edges).2)

set_option maxRecDepth 100000 in
set_option maxHeartbeats 1000000 in
theorem bothWays_any (g : Gr) (an : Option Addr) (cn : Nat) (ae : Option Addr) (ce : Nat) (w : World) (hn : g.nodes.length ≤ 1048575) (he : g.edges.length ≤ 1048576) (hg : GrAt w g an cn ae) :
    Calls Tryz.prog 26 #[.agg #[.bool g.dir, .slice an g.nodes.length cn, .slice ae g.edges.length ce]] w (BothWaysPost w g) := by
  obtain ⟨w1, hw1⟩ : ∃ w1, w1 = (w.alloc (.cells #[.bool g.dir, .slice an g.nodes.length cn, .slice ae g.edges.length ce] 25)).alloc (.cells #[.pointer none] 62) := ⟨_, rfl⟩
  have hb1 : Below w.heap.size w w1 := by rw [hw1]; exact (alloc_below w _).trans ((alloc_below _ _).mono (by simp))
  have hz1 : w1.heap.size = w.heap.size + 2 := by rw [hw1]; simp
  have hk1 : w1.cell? ⟨w.heap.size, 0, none⟩ = some (.bool g.dir) := by rw [hw1]; simp
  have hr1 : w1.heap[w.heap.size + 1]? = some (.cells #[.pointer none] 62 (0, 0)) := by
    rw [hw1]
    have := heap_alloc_new (w.alloc (.cells #[.bool g.dir, .slice an g.nodes.length cn, .slice ae g.edges.length ce] 25)) (.cells #[.pointer none] 62)
    rwa [show (w.alloc (.cells #[.bool g.dir, .slice an g.nodes.length cn, .slice ae g.edges.length ce] 25)).heap.size = w.heap.size + 1 by simp] at this
  have hr := read_any g an cn ae ce w1 hn he (hg.below hb1)
  rw [hw1] at hr
  have hrh := Lib.hid hr
  have hw1h := Lib.hid hw1
  have hb1h := Lib.hid hb1
  have hz1h := Lib.hid hz1
  have hk1h := Lib.hid hk1
  have hr1h := Lib.hid hr1
  clear hw1 hb1 hz1 hk1 hr1 hr hg
  go_enter Tryz.func26, Tryz.ntmps26
  go_wp2_with fail
  refine (unhide hrh).mono ?_
  rintro e w2 ⟨b, rfl, hbb, hb2, hlt, hp⟩
  rw [← hw1h.out] at hb2 hlt hp ⊢
  have k0 := cell_below hb2 hk1h.out
  have hr2 : w2.heap[w.heap.size + 1]? = some (.cells #[.pointer none] 62 (0, 0)) := (hb2.block _ (by have := hz1h.out; omega)).trans hr1h.out
  have r0 : w2.cell? ⟨w.heap.size + 1, 0, none⟩ = some (.pointer none) := by simp [World.cell?, hr2]
  have rf : w2.frozen? ⟨w.heap.size + 1, 0, none⟩ = false := by simp [World.frozen?, hr2]
  have hset : ∀ u, (w2.setCell ⟨w.heap.size + 1, 0, none⟩ u).cell? ⟨w.heap.size + 1, 0, none⟩ = some u := fun u => by have := heap_set_self hr2 0 u; simp [World.cell?, this]
  have hlate : Hid (∀ u, Below w.heap.size w (w2.setCell ⟨w.heap.size + 1, 0, none⟩ u) ∧ (okGraph g = true → FarAt w.heap.size (w2.setCell ⟨w.heap.size + 1, 0, none⟩ u) (w1.heap.size + 1) (asc g.nodes) (tabs bitsOf (asc g.nodes) g.dir g.edges).1 (tabs bitsOf (asc g.nodes) g.dir g.edges).2)) := fun u =>
    ⟨(hb1h.out.trans (hb2.mono (by have := hz1h.out; omega))).setCell (by simp) u, fun h => ((hp h).set (by have := hz1h.out; omega) u).low (by have := hz1h.out; omega)⟩
  obtain ⟨ok, hok⟩ : ∃ ok, ok = okGraph g := ⟨_, rfl⟩
  obtain ⟨q, hq⟩ : ∃ q, q = w1.heap.size + 1 := ⟨_, rfl⟩
  rw [← hq]
  rw [← hok] at hbb
  have hokh := Lib.hid hok
  have hqh := Lib.hid hq
  clear hb2 hlt hp hr2 hok hq hrh
  subst hbb
  cases b
  · go_wp2_with fail
    go_region
    all_goals go_wp2_with fail
    all_goals
     refine bodyPost_ret (v := .tuple #[.agg #[.pointer (some ⟨q, 0, none⟩)], .bool false]) (by simp [results, Tryz.results26, go_sem, hset]) rfl ?_
     refine ⟨q, by rw [← hokh.out]; rfl, (hlate.out _).1.drew, fun h => ?_⟩
     rw [hqh.out]
     exact ((hlate.out _).2 h).below (drew_below _)
  · go_wp2_with fail
    go_region
    all_goals go_wp2_with fail
    all_goals
     refine bodyPost_ret (v := .tuple #[.agg #[.pointer (some ⟨q, 0, none⟩)], .bool !g.dir]) (by simp [results, Tryz.results26, go_sem, hset]) rfl ?_
     refine ⟨q, by rw [← hokh.out]; rfl, (hlate.out _).1.drew, fun h => ?_⟩
     rw [hqh.out]
     exact ((hlate.out _).2 h).below (drew_below _)
end Go.Proofs.YthpjmjohdliohaaGreat
