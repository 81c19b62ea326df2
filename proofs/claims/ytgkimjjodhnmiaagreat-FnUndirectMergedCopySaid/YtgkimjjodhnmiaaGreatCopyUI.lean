/- impl.Copy of an undirected graph into a directed one. -/
import Derived.Test.YtgkimjjodhnmiaaGreatCopyUD
import Derived.Test.YtgkimjjodhnmiaaGreatSeenB
import Derived.Test.YtgkimjjodhnmiaaGreatCopyP
import Derived.Test.YtgkimjjodhnmiaaGreatOpen
namespace Go.Proofs.YtgkimjjodhnmiaaGreat
open Go.RowKit Go.Maps

set_option maxRecDepth 100000 in
set_option maxHeartbeats 4000000 in
theorem copyIUD_any (g : Gr) (an : Option Addr) (cn : Nat) (ae : Option Addr) (ce : Nat) (w : World) (hn : g.nodes.length ≤ 1000) (he : g.edges.length ≤ 1048576) (hg : GrAt w g an cn ae) (hok : okGraph g = true) (hd : g.dir = false) (h64 : ∀ x ∈ g.nodes, In64 x) :
    Calls Tryz.prog 6 #[.agg #[.bool false, .slice an g.nodes.length cn, .slice ae g.edges.length ce], .bool true] w (CopyPost w g true) := by
  obtain ⟨w1, hw1⟩ : ∃ w1, w1 = w.alloc (.cells #[.bool false, .slice an g.nodes.length cn, .slice ae g.edges.length ce] 25) := ⟨_, rfl⟩
  obtain ⟨w2, hw2⟩ : ∃ w2, w2 = w1.alloc (.cells #[.bool false, .slice none 0 0, .slice none 0 0] 25) := ⟨_, rfl⟩
  have b1 : Below w.heap.size w w1 := by rw [hw1]; exact alloc_below _ _
  have z1 : w1.heap.size = w.heap.size + 1 := by rw [hw1]; simp
  have b12 : Below w1.heap.size w1 w2 := by rw [hw2]; exact alloc_below _ _
  have z2 : w2.heap.size = w.heap.size + 1 + 1 := by rw [hw2]; simp [z1]
  have b2 : Below w.heap.size w w2 := b1.trans (b12.mono (by omega))
  have kz : w2.heap[w.heap.size + 1]? = some (.cells #[.bool false, .slice none 0 0, .slice none 0 0] 25 (0, 0)) := by rw [hw2, ← z1]; exact heap_alloc_new _ _
  have hop := open_any g an cn ae ce w2 (by omega) he (hg.below b2)
  rw [hd] at hop
  rw [hw2, hw1] at hop
  have hoph := Lib.hid hop
  have hK := Lib.hid (And.intro b2 (And.intro kz z2))
  have hw2h : Hid (w2 = (w.alloc (.cells #[.bool false, .slice an g.nodes.length cn, .slice ae g.edges.length ce] 25)).alloc (.cells #[.bool false, .slice none 0 0, .slice none 0 0] 25)) := by unfold Hid; rw [hw2, hw1]
  have hokh := Lib.hid hok
  have hdh := Lib.hid hd
  have h64h : Hid (∀ x ∈ asc g.nodes, In64 x) := fun x hx => h64 x (asc_mem.1 hx)
  have hnh : Hid ((asc g.nodes).length ≤ 1000) := by unfold Hid; rw [asc_length]; exact hn
  clear hw1 hw2 b1 z1 b12 z2 b2 kz hop hg hok hd h64
  go_enter Tryz.func6, Tryz.ntmps6
  go_wp2_with fail
  refine (unhide hoph).mono ?_
  rintro e w3 ⟨pb, b, rfl, hb, hb3, _, _, hpl, _⟩
  rw [← hw2h.out] at hb3
  rw [hokh.out] at hb
  subst hb
  have hp := Lib.hid (hpl hokh.out)
  obtain ⟨b2, kz, z2⟩ := hK.out
  have b3 : Hid (Below w.heap.size w w3) := b2.trans (hb3.mono b2.size)
  have hkz : Hid (w3.heap[w.heap.size + 1]? = some (.cells #[.bool false, .slice none 0 0, .slice none 0 0] 25 (0, 0))) := (hb3.block _ (by omega)).trans kz
  have hov : openv g.dir pb = .iface 73 (.agg #[.pointer (some ⟨pb, 0, none⟩)]) := by rw [hdh.out]; rfl
  rw [hov]
  clear b2 kz z2 hb3 hpl hov hoph hw2h hK
  go_wp2_with fail
  refine (inf_any _).mono ?_
  rintro e w' ⟨rfl, rfl⟩
  go_wp2_with fail
  refine (newDir_any (asc g.nodes) _).mono ?_
  rintro e w4 ⟨ad, c, gb, jn, je, jt, ju, js, jr, rfl, hW, hb4⟩
  have hcw := Lib.hid (copyundirectedDirected_any (f := fun x y => fl (wOf g x y)) hnh.out h64h.out hp.out hb4 (arc_at hokh.out) (fun x hx => gs_self hokh.out hx) hW (fun j hj h => by omega))
  have hb4h := Lib.hid hb4
  clear hW hb4
  go_wp2_with fail
  refine (unhide hcw).mono ?_
  rintro e w5 ⟨rfl, ⟨ad5, c5', F, hW5, hF⟩, hk5⟩
  have hb5 := hb4h.out.trans (hk5.from hb4h.out.size)
  obtain ⟨hS, hFm, hU⟩ := hF.arcs hokh.out (fun _ => hdh.out)
  have hse := Lib.hid (seenWDirected_any hnh.out h64h.out (ok_up hokh.out) hW5 (fun x => List.mem_reverse.symm) hS (fun x => gs_up hokh.out x) (fun x => by have := succ_len hp.out x; have := hnh.out; show (succOf _ _ x).length ≤ 1000; unfold outsOf; omega) (fun a b h => List.mem_reverse.2 (hFm a b h).2) (fun x hx => gs_self hokh.out hx) hU (fun x y => wOf_fl hokh.out x y))
  have hkz5 : Hid (w5.heap[w.heap.size + 1]? = some (.cells #[.bool false, .slice none 0 0, .slice none 0 0] 25 (0, 0))) := (hb5.block _ (lt_of_block hkz.out)).trans hkz.out
  have b5 : Hid (Below w.heap.size w w5) := b3.out.trans (hb5.mono b3.out.size)
  have hz3 := lt_of_block hkz5.out
  clear hcw hb4h hW5 hF hk5 hb5 hS hFm hU hkz b3
  go_wp2_with fail
  refine (unhide hse).mono ?_
  rintro e w6 ⟨a4, c4, a5, c5, rfl, hcn, hnone, hce, hr4, hr5, hb6⟩
  have hkz6 := (hb6.block _ hz3).trans hkz5.out
  obtain ⟨y0, y1, y2, y3, y4, y5, y6, y7, y8⟩ := ebox3 hkz6 (.bool true) (.slice a4 (asc g.nodes).length c4) (.slice a5 (seenW true (wOf g) (asc g.nodes) (gSucc g)).length c5)
  have hfin := Lib.hid (copy_done (w := w) (d := true) (rb := w.heap.size + 1) (c4 := c4) (c5 := c5) hcn hnone hce (fun g k e => Nat.lt_of_lt_of_le hz3 (hr4 g k e)) (fun g k e => Nat.lt_of_lt_of_le hz3 (hr5 g k e)) (b5.out.trans (hb6.mono b5.out.size)) (by omega) (.bool true) (.slice a4 (asc g.nodes).length c4) (.slice a5 (seenW true (wOf g) (asc g.nodes) (gSucc g)).length c5))
  obtain ⟨m, hm⟩ : ∃ m, m = (seenW true (wOf g) (asc g.nodes) (gSucc g)).length := ⟨_, rfl⟩
  rw [← hm] at y6 y7 y8 hfin ⊢
  clear hkz5 hkz6 hcn hnone hce hb6 hse b5 hm hr4 hr5 hz3
  go_wp2_with fail
  (try simp only [Exit.inBlock, Exit.then])
  refine bodyPost_ret (v := .tuple #[.agg #[.bool true, .slice a4 (asc g.nodes).length c4, .slice a5 m c5], .bool false]) (by simp [results, show Tryz.func6.results = #[.cell 4 25, .tmp 5] from rfl, go_sem, y6, y7, y8]) rfl ?_
  exact hfin.out

end Go.Proofs.YtgkimjjodhnmiaaGreat
