/- impl.Complement: what it gives.
   impl.Complement of a directed graph.
   impl.Complement of an undirected graph. -/
import Derived.Test.YtanbhibllilccaaGreatSeen
import Derived.Test.YtanbhibllilccaaGreatOpen
import Derived.Test.YtanbhibllilccaaGreatSpec1
namespace Go.Proofs.YtanbhibllilccaaGreat
open Go.RowKit

/-- What impl.Complement gives. -/
def ComplPost (w : World) (g : Gr) (e : Ending) (w' : World) : Prop :=
  ∃ (an : Option Addr) (cn : Nat) (ae : Option Addr) (ce : Nat), e = .returned (.tuple #[.agg #[.bool (compG g).dir, .slice an (compG g).nodes.length cn, .slice ae (compG g).edges.length ce], .bool false]) ∧ GrAt w' (compG g) an cn ae ∧ Below w.heap.size w w'

theorem offS_c (g : Gr) : offS (asc g.nodes) (outsOf g) = cOuts g := rfl

theorem Cells.same {w w' : World} {a : Option Addr} {cs : List Value} {q : Nat} (h : Cells w a cs) (hs : w.heap.size ≤ w'.heap.size) (hk : ∀ j, j < w.heap.size → j ≠ q → w'.heap[j]? = w.heap[j]?) (ha : ∀ g k, a = some ⟨g, k, none⟩ → g ≠ q) : Cells w' a cs := by
  rcases h with h | ⟨b, off, h1, h2, h3⟩
  · exact .inl h
  · refine .inr ⟨b, off, h1, by omega, fun j v hj => ?_⟩
    have := h3 j v hj
    unfold World.cell? at this ⊢
    rwa [hk b h2 (ha b off h1)]

theorem compl_done {g : Gr} {w w4 : World} {d : Bool} {a4 a5 : Option Addr} {c4 c5 rb : Nat} (hd : g.dir = d) (hcn : Cells w4 a4 (ints (asc g.nodes))) (hnone : a4 = none → c4 = 0) (hce : Cells w4 a5 (edgeCells (seenE d (asc g.nodes) (offS (asc g.nodes) (outsOf g)))))
    (h1 : ∀ g k, a4 = some ⟨g, k, none⟩ → rb < g) (h2 : ∀ g k, a5 = some ⟨g, k, none⟩ → rb < g) (hb : Below w.heap.size w w4) (hrb : w.heap.size ≤ rb) (x y z : Value) :
    ComplPost w g (.returned (.tuple #[.agg #[.bool d, .slice a4 (asc g.nodes).length c4, .slice a5 (seenE d (asc g.nodes) (offS (asc g.nodes) (outsOf g))).length c5], .bool false])) (((w4.setCell ⟨rb, 0, none⟩ x).setCell ⟨rb, 1, none⟩ y).setCell ⟨rb, 2, none⟩ z) := by
  subst hd
  have hse : ∀ j, j < w4.heap.size → j ≠ rb → (((w4.setCell ⟨rb, 0, none⟩ x).setCell ⟨rb, 1, none⟩ y).setCell ⟨rb, 2, none⟩ z).heap[j]? = w4.heap[j]? := fun j _ hj => by
    rw [Below.heap_setCell _ _ _ _ hj, Below.heap_setCell _ _ _ _ hj, Below.heap_setCell _ _ _ _ hj]
  have hsz : (((w4.setCell ⟨rb, 0, none⟩ x).setCell ⟨rb, 1, none⟩ y).setCell ⟨rb, 2, none⟩ z).heap.size = w4.heap.size := by simp only [size_setCell]
  refine ⟨a4, c4, a5, c5, rfl, ⟨?_, ?_, hnone⟩, ?_⟩
  · exact hcn.same (by omega) hse fun g k e => by have := h1 g k e; omega
  · exact hce.same (by omega) hse fun g k e => by have := h2 g k e; omega
  · exact ((hb.setCell (by show w.heap.size ≤ rb; omega) _).setCell (by show w.heap.size ≤ rb; omega) _).setCell (by show w.heap.size ≤ rb; omega) _
end Go.Proofs.YtanbhibllilccaaGreat

namespace Go.Proofs.YtanbhibllilccaaGreat
open Go.RowKit

set_option maxRecDepth 100000 in
set_option maxHeartbeats 4000000 in
theorem complDir_any (g : Gr) (an : Option Addr) (cn : Nat) (ae : Option Addr) (ce : Nat) (w : World) (hn : g.nodes.length ≤ 1000) (he : g.edges.length ≤ 1048576) (hg : GrAt w g an cn ae) (hok : okGraph g = true) (hd : g.dir = true) (h64 : ∀ x ∈ g.nodes, In64 x) :
    Calls Tryz.prog 7 #[.agg #[.bool true, .slice an g.nodes.length cn, .slice ae g.edges.length ce]] w (ComplPost w g) := by
  obtain ⟨w1, hw1⟩ : ∃ w1, w1 = w.alloc (.cells #[.bool true, .slice an g.nodes.length cn, .slice ae g.edges.length ce] 25) := ⟨_, rfl⟩
  obtain ⟨w2, hw2⟩ : ∃ w2, w2 = w1.alloc (.cells #[.bool false, .slice none 0 0, .slice none 0 0] 25) := ⟨_, rfl⟩
  have b1 : Below w.heap.size w w1 := by rw [hw1]; exact alloc_below _ _
  have z1 : w1.heap.size = w.heap.size + 1 := by rw [hw1]; simp
  have b12 : Below w1.heap.size w1 w2 := by rw [hw2]; exact alloc_below _ _
  have z2 : w2.heap.size = w.heap.size + 1 + 1 := by rw [hw2]; simp [z1]
  have b2 : Below w.heap.size w w2 := b1.trans (b12.mono (by omega))
  have k0 : w2.cell? ⟨w.heap.size, 0, none⟩ = some (.bool true) := cell_below b12 (by rw [hw1]; simp)
  have kz : w2.heap[w.heap.size + 1]? = some (.cells #[.bool false, .slice none 0 0, .slice none 0 0] 25 (0, 0)) := by rw [hw2, ← z1]; exact heap_alloc_new _ _
  have hop := open_any g an cn ae ce w2 (by omega) he (hg.below b2)
  rw [hd] at hop
  rw [hw2, hw1] at hop
  have hoph := Lib.hid hop
  have hK := Lib.hid (And.intro b2 (And.intro k0 (And.intro kz z2)))
  have hw2h : Hid (w2 = (w.alloc (.cells #[.bool true, .slice an g.nodes.length cn, .slice ae g.edges.length ce] 25)).alloc (.cells #[.bool false, .slice none 0 0, .slice none 0 0] 25)) := by unfold Hid; rw [hw2, hw1]
  have hokh := Lib.hid hok
  have hdh := Lib.hid hd
  have h64h : Hid (∀ x ∈ asc g.nodes, In64 x) := fun x hx => h64 x (asc_mem.1 hx)
  have hnh : Hid ((asc g.nodes).length ≤ 1000) := by unfold Hid; rw [asc_length]; exact hn
  clear hw1 hw2 b1 z1 b12 z2 b2 k0 kz hop hg hok hd h64
  go_enter Tryz.func7, Tryz.ntmps7
  go_wp2_with fail
  refine (unhide hoph).mono ?_
  rintro e w3 ⟨pb, b, rfl, hb, hb3, _, _, hpl, _⟩
  rw [← hw2h.out] at hb3
  rw [hokh.out] at hb
  subst hb
  have hp := hpl hokh.out
  obtain ⟨b2, k0, kz, z2⟩ := hK.out
  have b3 : Hid (Below w.heap.size w w3) := b2.trans (hb3.mono b2.size)
  have c0 := cell_below hb3 k0
  have hkz : Hid (w3.heap[w.heap.size + 1]? = some (.cells #[.bool false, .slice none 0 0, .slice none 0 0] 25 (0, 0))) := (hb3.block _ (by omega)).trans kz
  have hse := Lib.hid (seenDir_any pb (asc g.nodes) (outsOf g) _ w3 hnh.out h64h.out hp)
  have hov : openv g.dir pb = .iface 81 (.agg #[.pointer (some ⟨pb, 0, none⟩)]) := by rw [hdh.out]; rfl
  rw [hov]
  clear b2 k0 kz z2 hb3 hp hpl hov hoph hw2h hK
  go_wp2_with fail
  refine (unhide hse).mono ?_
  rintro e w4 ⟨a4, c4, a5, c5, rfl, hcn, hnone, hce, hr4, hr5, hb4⟩
  have hkz4 := (hb4.block _ (lt_of_block hkz.out)).trans hkz.out
  obtain ⟨y0, y1, y2, y3, y4, y5, y6, y7, y8⟩ := ebox3 hkz4 (.bool true) (.slice a4 (asc g.nodes).length c4) (.slice a5 (seenE true (asc g.nodes) (offS (asc g.nodes) (outsOf g))).length c5)
  have hz3 := lt_of_block hkz.out
  have hfin := Lib.hid (compl_done (w := w) (rb := w.heap.size + 1) (c4 := c4) (c5 := c5) hdh.out hcn hnone hce (fun g k e => Nat.lt_of_lt_of_le hz3 (hr4 g k e)) (fun g k e => Nat.lt_of_lt_of_le hz3 (hr5 g k e)) (b3.out.trans (hb4.mono b3.out.size)) (by omega) (.bool true) (.slice a4 (asc g.nodes).length c4) (.slice a5 (seenE true (asc g.nodes) (offS (asc g.nodes) (outsOf g))).length c5))
  obtain ⟨m, hm⟩ : ∃ m, m = (seenE true (asc g.nodes) (offS (asc g.nodes) (outsOf g))).length := ⟨_, rfl⟩
  rw [← hm] at y6 y7 y8 hfin ⊢
  clear hkz hkz4 hcn hnone hce hb4 hse c0 b3 hm hr4 hr5 hz3
  go_wp2_with fail
  (try simp only [Exit.inBlock, Exit.then])
  refine bodyPost_ret (v := .tuple #[.agg #[.bool true, .slice a4 (asc g.nodes).length c4, .slice a5 m c5], .bool false]) (by simp [results, show Tryz.func7.results = #[.cell 2 25, .tmp 3] from rfl, go_sem, y6, y7, y8]) rfl ?_
  exact hfin.out
end Go.Proofs.YtanbhibllilccaaGreat

namespace Go.Proofs.YtanbhibllilccaaGreat
open Go.RowKit

set_option maxRecDepth 100000 in
set_option maxHeartbeats 4000000 in
theorem complUnd_any (g : Gr) (an : Option Addr) (cn : Nat) (ae : Option Addr) (ce : Nat) (w : World) (hn : g.nodes.length ≤ 1000) (he : g.edges.length ≤ 1048576) (hg : GrAt w g an cn ae) (hok : okGraph g = true) (hd : g.dir = false) (h64 : ∀ x ∈ g.nodes, In64 x) :
    Calls Tryz.prog 7 #[.agg #[.bool false, .slice an g.nodes.length cn, .slice ae g.edges.length ce]] w (ComplPost w g) := by
  obtain ⟨w1, hw1⟩ : ∃ w1, w1 = w.alloc (.cells #[.bool false, .slice an g.nodes.length cn, .slice ae g.edges.length ce] 25) := ⟨_, rfl⟩
  obtain ⟨w2, hw2⟩ : ∃ w2, w2 = w1.alloc (.cells #[.bool false, .slice none 0 0, .slice none 0 0] 25) := ⟨_, rfl⟩
  have b1 : Below w.heap.size w w1 := by rw [hw1]; exact alloc_below _ _
  have z1 : w1.heap.size = w.heap.size + 1 := by rw [hw1]; simp
  have b12 : Below w1.heap.size w1 w2 := by rw [hw2]; exact alloc_below _ _
  have z2 : w2.heap.size = w.heap.size + 1 + 1 := by rw [hw2]; simp [z1]
  have b2 : Below w.heap.size w w2 := b1.trans (b12.mono (by omega))
  have k0 : w2.cell? ⟨w.heap.size, 0, none⟩ = some (.bool false) := cell_below b12 (by rw [hw1]; simp)
  have kz : w2.heap[w.heap.size + 1]? = some (.cells #[.bool false, .slice none 0 0, .slice none 0 0] 25 (0, 0)) := by rw [hw2, ← z1]; exact heap_alloc_new _ _
  have hop := open_any g an cn ae ce w2 (by omega) he (hg.below b2)
  rw [hd] at hop
  rw [hw2, hw1] at hop
  have hoph := Lib.hid hop
  have hK := Lib.hid (And.intro b2 (And.intro k0 (And.intro kz z2)))
  have hw2h : Hid (w2 = (w.alloc (.cells #[.bool false, .slice an g.nodes.length cn, .slice ae g.edges.length ce] 25)).alloc (.cells #[.bool false, .slice none 0 0, .slice none 0 0] 25)) := by unfold Hid; rw [hw2, hw1]
  have hokh := Lib.hid hok
  have hdh := Lib.hid hd
  have h64h : Hid (∀ x ∈ asc g.nodes, In64 x) := fun x hx => h64 x (asc_mem.1 hx)
  have hnh : Hid ((asc g.nodes).length ≤ 1000) := by unfold Hid; rw [asc_length]; exact hn
  clear hw1 hw2 b1 z1 b12 z2 b2 k0 kz hop hg hok hd h64
  go_enter Tryz.func7, Tryz.ntmps7
  go_wp2_with fail
  refine (unhide hoph).mono ?_
  rintro e w3 ⟨pb, b, rfl, hb, hb3, _, _, hpl, _⟩
  rw [← hw2h.out] at hb3
  rw [hokh.out] at hb
  subst hb
  have hp := hpl hokh.out
  obtain ⟨b2, k0, kz, z2⟩ := hK.out
  have b3 : Hid (Below w.heap.size w w3) := b2.trans (hb3.mono b2.size)
  have c0 := cell_below hb3 k0
  have hkz : Hid (w3.heap[w.heap.size + 1]? = some (.cells #[.bool false, .slice none 0 0, .slice none 0 0] 25 (0, 0))) := (hb3.block _ (by omega)).trans kz
  have hse := Lib.hid (seenUnd_any pb (asc g.nodes) (outsOf g) _ w3 hnh.out h64h.out hp)
  have hov : openv g.dir pb = .iface 62 (.agg #[.pointer (some ⟨pb, 0, none⟩)]) := by rw [hdh.out]; rfl
  rw [hov]
  clear b2 k0 kz z2 hb3 hp hpl hov hoph hw2h hK
  go_wp2_with fail
  refine (unhide hse).mono ?_
  rintro e w4 ⟨a4, c4, a5, c5, rfl, hcn, hnone, hce, hr4, hr5, hb4⟩
  have hkz4 := (hb4.block _ (lt_of_block hkz.out)).trans hkz.out
  obtain ⟨y0, y1, y2, y3, y4, y5, y6, y7, y8⟩ := ebox3 hkz4 (.bool false) (.slice a4 (asc g.nodes).length c4) (.slice a5 (seenE false (asc g.nodes) (offS (asc g.nodes) (outsOf g))).length c5)
  have hz3 := lt_of_block hkz.out
  have hfin := Lib.hid (compl_done (w := w) (rb := w.heap.size + 1) (c4 := c4) (c5 := c5) hdh.out hcn hnone hce (fun g k e => Nat.lt_of_lt_of_le hz3 (hr4 g k e)) (fun g k e => Nat.lt_of_lt_of_le hz3 (hr5 g k e)) (b3.out.trans (hb4.mono b3.out.size)) (by omega) (.bool false) (.slice a4 (asc g.nodes).length c4) (.slice a5 (seenE false (asc g.nodes) (offS (asc g.nodes) (outsOf g))).length c5))
  obtain ⟨m, hm⟩ : ∃ m, m = (seenE false (asc g.nodes) (offS (asc g.nodes) (outsOf g))).length := ⟨_, rfl⟩
  rw [← hm] at y6 y7 y8 hfin ⊢
  clear hkz hkz4 hcn hnone hce hb4 hse c0 b3 hm hr4 hr5 hz3
  go_wp2_with fail
  (try simp only [Exit.inBlock, Exit.then])
  refine bodyPost_ret (v := .tuple #[.agg #[.bool false, .slice a4 (asc g.nodes).length c4, .slice a5 m c5], .bool false]) (by simp [results, show Tryz.func7.results = #[.cell 2 25, .tmp 3] from rfl, go_sem, y6, y7, y8]) rfl ?_
  exact hfin.out
end Go.Proofs.YtanbhibllilccaaGreat
