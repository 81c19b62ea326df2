/- impl.Copy.
   FnCopyEqual: the law's walk.
   For every input, laws.FnCopyEqual returns true, and its arguments read as they did: a graph of at most 40 nodes and its copy are equal, and a graph with a node more is another.
   No condition is laid on the input. -/
import Derived.Test.YtfihclhceakmdaaGreatCopyUD
import Derived.Test.YtfihclhceakmdaaGreatCopyDD
import Derived.Test.YtfihclhceakmdaaGreatCopyUU
import Derived.Test.YtfihclhceakmdaaGreatSeenB
import Derived.Test.YtfihclhceakmdaaGreatCopyP
import Derived.Test.YtfihclhceakmdaaGreatOpen
import Derived.Test.YtfihclhceakmdaaGreatEqualA
import Derived.Test.YtfihclhceakmdaaGreatInts2
import Derived.Test.YtfihclhceakmdaaGreatLaws2
import Derived.Deep.RegionLaw
import Derived.Deep.AppendLies
import Derived.Deep.RegionHeld3
import Derived.Deep.DrawnRows
import Derived.Test.YtfihclhceakmdaaGreatRowBase
namespace Go.Proofs.YtfihclhceakmdaaGreat
open Go.RowKit Go.Maps

set_option maxRecDepth 100000 in
set_option maxHeartbeats 4000000 in
theorem copyIUD_any (g : Gr) (an : Option Addr) (cn : Nat) (ae : Option Addr) (ce : Nat) (w : World) (hn : g.nodes.length ≤ 1000) (he : g.edges.length ≤ 1048576) (hg : GrAt w g an cn ae) (hok : okGraph g = true) (hd : g.dir = false) (h64 : ∀ x ∈ g.nodes, In64 x) :
    Calls Tryz.prog 7 #[.agg #[.bool false, .slice an g.nodes.length cn, .slice ae g.edges.length ce], .bool true] w (CopyPost w g true) := by
  obtain ⟨w1, hw1⟩ : ∃ w1, w1 = w.alloc (.cells #[.bool false, .slice an g.nodes.length cn, .slice ae g.edges.length ce] 25) := ⟨_, rfl⟩
  obtain ⟨w2, hw2⟩ : ∃ w2, w2 = w1.alloc (.cells #[.bool false, .slice none 0 0, .slice none 0 0] 25) := ⟨_, rfl⟩
  have b1 : Below w.heap.size w w1 := by rw [hw1]; exact alloc_below _ _
  have z1 : w1.heap.size = w.heap.size + 1 := by rw [hw1]; simp
  have b12 : Below w1.heap.size w1 w2 := by rw [hw2]; exact alloc_below _ _
  have z2 : w2.heap.size = w.heap.size + 1 + 1 := by rw [hw2]; simp [z1]
  have b2 : Below w.heap.size w w2 := b1.trans (b12.mono (by omega))
  have kz : w2.heap[w.heap.size + 1]? = some (.cells #[.bool false, .slice none 0 0, .slice none 0 0] 25 (0, 0)) := by rw [hw2, ← z1]; exact heap_alloc_new _ _
  have hop := open_any g an cn ae ce w2 (by omega) he (hg.below b2)
  rw [hd] at hop
  rw [hw2, hw1] at hop
  have hoph := Lib.hid hop
  have hK := Lib.hid (And.intro b2 (And.intro kz z2))
  have hw2h : Hid (w2 = (w.alloc (.cells #[.bool false, .slice an g.nodes.length cn, .slice ae g.edges.length ce] 25)).alloc (.cells #[.bool false, .slice none 0 0, .slice none 0 0] 25)) := by unfold Hid; rw [hw2, hw1]
  have hokh := Lib.hid hok
  have hdh := Lib.hid hd
  have h64h : Hid (∀ x ∈ asc g.nodes, In64 x) := fun x hx => h64 x (asc_mem.1 hx)
  have hnh : Hid ((asc g.nodes).length ≤ 1000) := by unfold Hid; rw [asc_length]; exact hn
  clear hw1 hw2 b1 z1 b12 z2 b2 kz hop hg hok hd h64
  go_enter Tryz.func7, Tryz.ntmps7
  go_wp2_with fail
  refine (unhide hoph).mono ?_
  rintro e w3 ⟨pb, b, rfl, hb, hb3, _, _, hpl, _⟩
  rw [← hw2h.out] at hb3
  rw [hokh.out] at hb
  subst hb
  have hp := Lib.hid (hpl hokh.out)
  obtain ⟨b2, kz, z2⟩ := hK.out
  have b3 : Hid (Below w.heap.size w w3) := b2.trans (hb3.mono b2.size)
  have hkz : Hid (w3.heap[w.heap.size + 1]? = some (.cells #[.bool false, .slice none 0 0, .slice none 0 0] 25 (0, 0))) := (hb3.block _ (by omega)).trans kz
  have hov : openv g.dir pb = .iface 80 (.agg #[.pointer (some ⟨pb, 0, none⟩)]) := by rw [hdh.out]; rfl
  rw [hov]
  clear b2 kz z2 hb3 hpl hov hoph hw2h hK
  go_wp2_with fail
  refine (inf_any _).mono ?_
  rintro e w' ⟨rfl, rfl⟩
  go_wp2_with fail
  refine (newDir_any (asc g.nodes) _).mono ?_
  rintro e w4 ⟨ad, c, gb, jn, je, jt, ju, js, jr, rfl, hW, hb4⟩
  have hcw := Lib.hid (copyundirectedDirected_any (f := fun x y => fl (wOf g x y)) hnh.out h64h.out hp.out hb4 (arc_at hokh.out) (fun x hx => gs_self hokh.out hx) hW (fun j hj h => by omega))
  have hb4h := Lib.hid hb4
  clear hW hb4
  go_wp2_with fail
  refine (unhide hcw).mono ?_
  rintro e w5 ⟨rfl, ⟨ad5, c5', F, hW5, hF⟩, hk5⟩
  have hb5 := hb4h.out.trans (hk5.from hb4h.out.size)
  obtain ⟨hS, hFm, hU⟩ := hF.arcs hokh.out (fun _ => hdh.out)
  have hse := Lib.hid (seenWDirected_any hnh.out h64h.out (ok_up hokh.out) hW5 (fun x => List.mem_reverse.symm) hS (fun x => gs_up hokh.out x) (fun x => by have := succ_len hp.out x; have := hnh.out; show (succOf _ _ x).length ≤ 1000; unfold outsOf; omega) (fun a b h => List.mem_reverse.2 (hFm a b h).2) (fun x hx => gs_self hokh.out hx) hU (fun x y => wOf_fl hokh.out x y))
  have hkz5 : Hid (w5.heap[w.heap.size + 1]? = some (.cells #[.bool false, .slice none 0 0, .slice none 0 0] 25 (0, 0))) := (hb5.block _ (lt_of_block hkz.out)).trans hkz.out
  have b5 : Hid (Below w.heap.size w w5) := b3.out.trans (hb5.mono b3.out.size)
  have hz3 := lt_of_block hkz5.out
  clear hcw hb4h hW5 hF hk5 hb5 hS hFm hU hkz b3
  go_wp2_with fail
  refine (unhide hse).mono ?_
  rintro e w6 ⟨a4, c4, a5, c5, rfl, hcn, hnone, hce, hr4, hr5, hb6⟩
  have hkz6 := (hb6.block _ hz3).trans hkz5.out
  obtain ⟨y0, y1, y2, y3, y4, y5, y6, y7, y8⟩ := ebox3 hkz6 (.bool true) (.slice a4 (asc g.nodes).length c4) (.slice a5 (seenW true (wOf g) (asc g.nodes) (gSucc g)).length c5)
  have hfin := Lib.hid (copy_done (w := w) (d := true) (rb := w.heap.size + 1) (c4 := c4) (c5 := c5) hcn hnone hce (fun g k e => Nat.lt_of_lt_of_le hz3 (hr4 g k e)) (fun g k e => Nat.lt_of_lt_of_le hz3 (hr5 g k e)) (b5.out.trans (hb6.mono b5.out.size)) (by omega) (.bool true) (.slice a4 (asc g.nodes).length c4) (.slice a5 (seenW true (wOf g) (asc g.nodes) (gSucc g)).length c5))
  obtain ⟨m, hm⟩ : ∃ m, m = (seenW true (wOf g) (asc g.nodes) (gSucc g)).length := ⟨_, rfl⟩
  rw [← hm] at y6 y7 y8 hfin ⊢
  clear hkz5 hkz6 hcn hnone hce hb6 hse b5 hm hr4 hr5 hz3
  go_wp2_with fail
  (try simp only [Exit.inBlock, Exit.then])
  refine bodyPost_ret (v := .tuple #[.agg #[.bool true, .slice a4 (asc g.nodes).length c4, .slice a5 m c5], .bool false]) (by simp [results, show Tryz.func7.results = #[.cell 4 25, .tmp 5] from rfl, go_sem, y6, y7, y8]) rfl ?_
  exact hfin.out

set_option maxRecDepth 100000 in
set_option maxHeartbeats 4000000 in
theorem copyIDD_any (g : Gr) (an : Option Addr) (cn : Nat) (ae : Option Addr) (ce : Nat) (w : World) (hn : g.nodes.length ≤ 1000) (he : g.edges.length ≤ 1048576) (hg : GrAt w g an cn ae) (hok : okGraph g = true) (hd : g.dir = true) (h64 : ∀ x ∈ g.nodes, In64 x) :
    Calls Tryz.prog 7 #[.agg #[.bool true, .slice an g.nodes.length cn, .slice ae g.edges.length ce], .bool true] w (CopyPost w g true) := by
  obtain ⟨w1, hw1⟩ : ∃ w1, w1 = w.alloc (.cells #[.bool true, .slice an g.nodes.length cn, .slice ae g.edges.length ce] 25) := ⟨_, rfl⟩
  obtain ⟨w2, hw2⟩ : ∃ w2, w2 = w1.alloc (.cells #[.bool false, .slice none 0 0, .slice none 0 0] 25) := ⟨_, rfl⟩
  have b1 : Below w.heap.size w w1 := by rw [hw1]; exact alloc_below _ _
  have z1 : w1.heap.size = w.heap.size + 1 := by rw [hw1]; simp
  have b12 : Below w1.heap.size w1 w2 := by rw [hw2]; exact alloc_below _ _
  have z2 : w2.heap.size = w.heap.size + 1 + 1 := by rw [hw2]; simp [z1]
  have b2 : Below w.heap.size w w2 := b1.trans (b12.mono (by omega))
  have kz : w2.heap[w.heap.size + 1]? = some (.cells #[.bool false, .slice none 0 0, .slice none 0 0] 25 (0, 0)) := by rw [hw2, ← z1]; exact heap_alloc_new _ _
  have hop := open_any g an cn ae ce w2 (by omega) he (hg.below b2)
  rw [hd] at hop
  rw [hw2, hw1] at hop
  have hoph := Lib.hid hop
  have hK := Lib.hid (And.intro b2 (And.intro kz z2))
  have hw2h : Hid (w2 = (w.alloc (.cells #[.bool true, .slice an g.nodes.length cn, .slice ae g.edges.length ce] 25)).alloc (.cells #[.bool false, .slice none 0 0, .slice none 0 0] 25)) := by unfold Hid; rw [hw2, hw1]
  have hokh := Lib.hid hok
  have hdh := Lib.hid hd
  have h64h : Hid (∀ x ∈ asc g.nodes, In64 x) := fun x hx => h64 x (asc_mem.1 hx)
  have hnh : Hid ((asc g.nodes).length ≤ 1000) := by unfold Hid; rw [asc_length]; exact hn
  clear hw1 hw2 b1 z1 b12 z2 b2 kz hop hg hok hd h64
  go_enter Tryz.func7, Tryz.ntmps7
  go_wp2_with fail
  refine (unhide hoph).mono ?_
  rintro e w3 ⟨pb, b, rfl, hb, hb3, _, _, hpl, _⟩
  rw [← hw2h.out] at hb3
  rw [hokh.out] at hb
  subst hb
  have hp := Lib.hid (hpl hokh.out)
  obtain ⟨b2, kz, z2⟩ := hK.out
  have b3 : Hid (Below w.heap.size w w3) := b2.trans (hb3.mono b2.size)
  have hkz : Hid (w3.heap[w.heap.size + 1]? = some (.cells #[.bool false, .slice none 0 0, .slice none 0 0] 25 (0, 0))) := (hb3.block _ (by omega)).trans kz
  have hov : openv g.dir pb = .iface 59 (.agg #[.pointer (some ⟨pb, 0, none⟩)]) := by rw [hdh.out]; rfl
  rw [hov]
  clear b2 kz z2 hb3 hpl hov hoph hw2h hK
  go_wp2_with fail
  refine (inf_any _).mono ?_
  rintro e w' ⟨rfl, rfl⟩
  go_wp2_with fail
  refine (newDir_any (asc g.nodes) _).mono ?_
  rintro e w4 ⟨ad, c, gb, jn, je, jt, ju, js, jr, rfl, hW, hb4⟩
  have hcw := Lib.hid (copydirectedDirected_any (f := fun x y => fl (wOf g x y)) hnh.out h64h.out hp.out hb4 (arc_at hokh.out) (fun x hx => gs_self hokh.out hx) hW (fun j hj h => by omega))
  have hb4h := Lib.hid hb4
  clear hW hb4
  go_wp2_with fail
  refine (unhide hcw).mono ?_
  rintro e w5 ⟨rfl, ⟨ad5, c5', F, hW5, hF⟩, hk5⟩
  have hb5 := hb4h.out.trans (hk5.from hb4h.out.size)
  obtain ⟨hS, hFm, hU⟩ := hF.arcs hokh.out (fun h => by cases h)
  have hse := Lib.hid (seenWDirected_any hnh.out h64h.out (ok_up hokh.out) hW5 (fun x => List.mem_reverse.symm) hS (fun x => gs_up hokh.out x) (fun x => by have := succ_len hp.out x; have := hnh.out; show (succOf _ _ x).length ≤ 1000; unfold outsOf; omega) (fun a b h => List.mem_reverse.2 (hFm a b h).2) (fun x hx => gs_self hokh.out hx) hU (fun x y => wOf_fl hokh.out x y))
  have hkz5 : Hid (w5.heap[w.heap.size + 1]? = some (.cells #[.bool false, .slice none 0 0, .slice none 0 0] 25 (0, 0))) := (hb5.block _ (lt_of_block hkz.out)).trans hkz.out
  have b5 : Hid (Below w.heap.size w w5) := b3.out.trans (hb5.mono b3.out.size)
  have hz3 := lt_of_block hkz5.out
  clear hcw hb4h hW5 hF hk5 hb5 hS hFm hU hkz b3
  go_wp2_with fail
  refine (unhide hse).mono ?_
  rintro e w6 ⟨a4, c4, a5, c5, rfl, hcn, hnone, hce, hr4, hr5, hb6⟩
  have hkz6 := (hb6.block _ hz3).trans hkz5.out
  obtain ⟨y0, y1, y2, y3, y4, y5, y6, y7, y8⟩ := ebox3 hkz6 (.bool true) (.slice a4 (asc g.nodes).length c4) (.slice a5 (seenW true (wOf g) (asc g.nodes) (gSucc g)).length c5)
  have hfin := Lib.hid (copy_done (w := w) (d := true) (rb := w.heap.size + 1) (c4 := c4) (c5 := c5) hcn hnone hce (fun g k e => Nat.lt_of_lt_of_le hz3 (hr4 g k e)) (fun g k e => Nat.lt_of_lt_of_le hz3 (hr5 g k e)) (b5.out.trans (hb6.mono b5.out.size)) (by omega) (.bool true) (.slice a4 (asc g.nodes).length c4) (.slice a5 (seenW true (wOf g) (asc g.nodes) (gSucc g)).length c5))
  obtain ⟨m, hm⟩ : ∃ m, m = (seenW true (wOf g) (asc g.nodes) (gSucc g)).length := ⟨_, rfl⟩
  rw [← hm] at y6 y7 y8 hfin ⊢
  clear hkz5 hkz6 hcn hnone hce hb6 hse b5 hm hr4 hr5 hz3
  go_wp2_with fail
  (try simp only [Exit.inBlock, Exit.then])
  refine bodyPost_ret (v := .tuple #[.agg #[.bool true, .slice a4 (asc g.nodes).length c4, .slice a5 m c5], .bool false]) (by simp [results, show Tryz.func7.results = #[.cell 4 25, .tmp 5] from rfl, go_sem, y6, y7, y8]) rfl ?_
  exact hfin.out

set_option maxRecDepth 100000 in
set_option maxHeartbeats 4000000 in
theorem copyIUU_any (g : Gr) (an : Option Addr) (cn : Nat) (ae : Option Addr) (ce : Nat) (w : World) (hn : g.nodes.length ≤ 1000) (he : g.edges.length ≤ 1048576) (hg : GrAt w g an cn ae) (hok : okGraph g = true) (hd : g.dir = false) (h64 : ∀ x ∈ g.nodes, In64 x) :
    Calls Tryz.prog 7 #[.agg #[.bool false, .slice an g.nodes.length cn, .slice ae g.edges.length ce], .bool false] w (CopyPost w g false) := by
  obtain ⟨w1, hw1⟩ : ∃ w1, w1 = w.alloc (.cells #[.bool false, .slice an g.nodes.length cn, .slice ae g.edges.length ce] 25) := ⟨_, rfl⟩
  obtain ⟨w2, hw2⟩ : ∃ w2, w2 = w1.alloc (.cells #[.bool false, .slice none 0 0, .slice none 0 0] 25) := ⟨_, rfl⟩
  have b1 : Below w.heap.size w w1 := by rw [hw1]; exact alloc_below _ _
  have z1 : w1.heap.size = w.heap.size + 1 := by rw [hw1]; simp
  have b12 : Below w1.heap.size w1 w2 := by rw [hw2]; exact alloc_below _ _
  have z2 : w2.heap.size = w.heap.size + 1 + 1 := by rw [hw2]; simp [z1]
  have b2 : Below w.heap.size w w2 := b1.trans (b12.mono (by omega))
  have kz : w2.heap[w.heap.size + 1]? = some (.cells #[.bool false, .slice none 0 0, .slice none 0 0] 25 (0, 0)) := by rw [hw2, ← z1]; exact heap_alloc_new _ _
  have hop := open_any g an cn ae ce w2 (by omega) he (hg.below b2)
  rw [hd] at hop
  rw [hw2, hw1] at hop
  have hoph := Lib.hid hop
  have hK := Lib.hid (And.intro b2 (And.intro kz z2))
  have hw2h : Hid (w2 = (w.alloc (.cells #[.bool false, .slice an g.nodes.length cn, .slice ae g.edges.length ce] 25)).alloc (.cells #[.bool false, .slice none 0 0, .slice none 0 0] 25)) := by unfold Hid; rw [hw2, hw1]
  have hokh := Lib.hid hok
  have hdh := Lib.hid hd
  have h64h : Hid (∀ x ∈ asc g.nodes, In64 x) := fun x hx => h64 x (asc_mem.1 hx)
  have hnh : Hid ((asc g.nodes).length ≤ 1000) := by unfold Hid; rw [asc_length]; exact hn
  clear hw1 hw2 b1 z1 b12 z2 b2 kz hop hg hok hd h64
  go_enter Tryz.func7, Tryz.ntmps7
  go_wp2_with fail
  refine (unhide hoph).mono ?_
  rintro e w3 ⟨pb, b, rfl, hb, hb3, _, _, hpl, _⟩
  rw [← hw2h.out] at hb3
  rw [hokh.out] at hb
  subst hb
  have hp := Lib.hid (hpl hokh.out)
  obtain ⟨b2, kz, z2⟩ := hK.out
  have b3 : Hid (Below w.heap.size w w3) := b2.trans (hb3.mono b2.size)
  have hkz : Hid (w3.heap[w.heap.size + 1]? = some (.cells #[.bool false, .slice none 0 0, .slice none 0 0] 25 (0, 0))) := (hb3.block _ (by omega)).trans kz
  have hov : openv g.dir pb = .iface 80 (.agg #[.pointer (some ⟨pb, 0, none⟩)]) := by rw [hdh.out]; rfl
  rw [hov]
  clear b2 kz z2 hb3 hpl hov hoph hw2h hK
  go_wp2_with fail
  refine (inf_any _).mono ?_
  rintro e w' ⟨rfl, rfl⟩
  go_wp2_with fail
  refine (newUnd_any (asc g.nodes) _).mono ?_
  rintro e w4 ⟨ad, c, gb, jn, je, jt, ju, js, jr, rfl, hW, hb4⟩
  have hcw := Lib.hid (copyundirectedUndirected_any (f := fun x y => fl (wOf g x y)) hnh.out h64h.out hp.out hb4 (arc_at hokh.out) (fun x hx => gs_self hokh.out hx) (fun x _ y _ => by show fl (wOf g x y) = fl (wOf g y x); rw [wOf_sym hdh.out]) hW (fun j hj h => by omega))
  have hb4h := Lib.hid hb4
  clear hW hb4
  go_wp2_with fail
  refine (unhide hcw).mono ?_
  rintro e w5 ⟨rfl, ⟨ad5, c5', F, hW5, hF⟩, hk5⟩
  have hb5 := hb4h.out.trans (hk5.from hb4h.out.size)
  obtain ⟨hS, hFm, hU⟩ := hF.arcs hokh.out (fun _ => hdh.out)
  have hse := Lib.hid (seenWUndirected_any hnh.out h64h.out (ok_up hokh.out) hW5 (fun x => List.mem_reverse.symm) hS (fun x => gs_up hokh.out x) (fun x => by have := succ_len hp.out x; have := hnh.out; show (succOf _ _ x).length ≤ 1000; unfold outsOf; omega) (fun a b h => List.mem_reverse.2 (hFm a b h).2) (fun x hx => gs_self hokh.out hx) hU (fun x y => wOf_fl hokh.out x y))
  have hkz5 : Hid (w5.heap[w.heap.size + 1]? = some (.cells #[.bool false, .slice none 0 0, .slice none 0 0] 25 (0, 0))) := (hb5.block _ (lt_of_block hkz.out)).trans hkz.out
  have b5 : Hid (Below w.heap.size w w5) := b3.out.trans (hb5.mono b3.out.size)
  have hz3 := lt_of_block hkz5.out
  clear hcw hb4h hW5 hF hk5 hb5 hS hFm hU hkz b3
  go_wp2_with fail
  refine (unhide hse).mono ?_
  rintro e w6 ⟨a4, c4, a5, c5, rfl, hcn, hnone, hce, hr4, hr5, hb6⟩
  have hkz6 := (hb6.block _ hz3).trans hkz5.out
  obtain ⟨y0, y1, y2, y3, y4, y5, y6, y7, y8⟩ := ebox3 hkz6 (.bool false) (.slice a4 (asc g.nodes).length c4) (.slice a5 (seenW false (wOf g) (asc g.nodes) (gSucc g)).length c5)
  have hfin := Lib.hid (copy_done (w := w) (d := false) (rb := w.heap.size + 1) (c4 := c4) (c5 := c5) hcn hnone hce (fun g k e => Nat.lt_of_lt_of_le hz3 (hr4 g k e)) (fun g k e => Nat.lt_of_lt_of_le hz3 (hr5 g k e)) (b5.out.trans (hb6.mono b5.out.size)) (by omega) (.bool false) (.slice a4 (asc g.nodes).length c4) (.slice a5 (seenW false (wOf g) (asc g.nodes) (gSucc g)).length c5))
  obtain ⟨m, hm⟩ : ∃ m, m = (seenW false (wOf g) (asc g.nodes) (gSucc g)).length := ⟨_, rfl⟩
  rw [← hm] at y6 y7 y8 hfin ⊢
  clear hkz5 hkz6 hcn hnone hce hb6 hse b5 hm hr4 hr5 hz3
  go_wp2_with fail
  (try simp only [Exit.inBlock, Exit.then])
  refine bodyPost_ret (v := .tuple #[.agg #[.bool false, .slice a4 (asc g.nodes).length c4, .slice a5 m c5], .bool false]) (by simp [results, show Tryz.func7.results = #[.cell 4 25, .tmp 5] from rfl, go_sem, y6, y7, y8]) rfl ?_
  exact hfin.out

end Go.Proofs.YtfihclhceakmdaaGreat

namespace Go.Proofs.YtfihclhceakmdaaGreat
open Go.RowKit
attribute [local go_sem ↓] Go.wp_at_zero Go.wp_at_succ

theorem copyI_any (g : Gr) (d : Bool) (an : Option Addr) (cn : Nat) (ae : Option Addr) (ce : Nat) (w : World) (hn : g.nodes.length ≤ 1000) (he : g.edges.length ≤ 1048576) (hg : GrAt w g an cn ae) (hok : okGraph g = true) (hd : g.dir = true → d = true) (h64 : ∀ x ∈ g.nodes, In64 x) :
    Calls Tryz.prog 7 #[.agg #[.bool g.dir, .slice an g.nodes.length cn, .slice ae g.edges.length ce], .bool d] w (CopyPost w g d) := by
  rcases h : g.dir with _ | _
  · cases d
    · exact copyIUU_any g an cn ae ce w hn he hg hok h h64
    · exact copyIUD_any g an cn ae ce w hn he hg hok h h64
  · rw [hd h]
    exact copyIDD_any g an cn ae ce w hn he hg hok h h64

theorem app_below {w1 w7 w9 : World} {o : Obj} {e size n : Nat} {v : Value} {xs : List Value} (hb : Below w1.heap.size w1 w7) (own : w7.ownsRow w1.heap.size e size v n xs) (hg : (w7.alloc o).grownBy w9 v.ownBlock) : Below w1.heap.size w1 w9 :=
  (hb.trans ((alloc_below w7 o).mono hb.size)).grown hg (by have := hb.size; simp; omega) fun j e => (own.lt j e).1

theorem app_cells {w : World} {base n g c : Nat} {l : List Int} {x : Int} (own : w.ownsRow base 3 1 (.slice (some ⟨g, 0, none⟩) n c) n (ints l ++ [.int .i64 x])) : Cells w (some ⟨g, 0, none⟩) (ints (l ++ [x])) := by
  obtain ⟨a', c', e', _, hc, _⟩ := owns_cells own
  injection e' with e1 _ _
  subst e1
  rw [show ints (l ++ [x]) = ints l ++ [.int .i64 x] by simp [ints]]
  exact hc

set_option maxRecDepth 100000 in
set_option maxHeartbeats 4000000 in
theorem copyFn_any (g : Gr) (d : Bool) (an : Option Addr) (cn : Nat) (ae : Option Addr) (ce : Nat) (w : World) (hm : g.nodes.length ≤ 9223372036854775807) (hm' : g.edges.length ≤ 9223372036854775807) (hg : GrAt w g an cn ae) (h64 : ∀ x ∈ g.nodes, In64 x) :
    Calls Tryz.prog 3 #[.agg #[.bool g.dir, .slice an g.nodes.length cn, .slice ae g.edges.length ce], .bool d] w
      fun e w' => e = .returned (.bool true) ∧ Below w.heap.size w w' := by
  obtain ⟨w1, hw1⟩ : ∃ w1, w1 = w.alloc (.cells #[.bool g.dir, .slice an g.nodes.length cn, .slice ae g.edges.length ce] 25) := ⟨_, rfl⟩
  have hb1 : Below w.heap.size w w1 := by rw [hw1]; exact alloc_below w _
  have hz1 : w1.heap.size = w.heap.size + 1 := by rw [hw1]; simp
  have k0 : w1.cell? ⟨w.heap.size, 0, none⟩ = some (.bool g.dir) := by rw [hw1]; simp
  have k1 : w1.cell? ⟨w.heap.size, 1, none⟩ = some (.slice an g.nodes.length cn) := by rw [hw1]; simp
  have k2 : w1.cell? ⟨w.heap.size, 2, none⟩ = some (.slice ae g.edges.length ce) := by rw [hw1]; simp
  have hK : Hid (∀ wr, Below w1.heap.size w1 wr → (Below w.heap.size w wr ∧ GrAt wr g an cn ae) ∧ wr.cell? ⟨w.heap.size, 0, none⟩ = some (.bool g.dir) ∧ wr.cell? ⟨w.heap.size, 1, none⟩ = some (.slice an g.nodes.length cn) ∧ wr.cell? ⟨w.heap.size, 2, none⟩ = some (.slice ae g.edges.length ce)) :=
    fun wr h => ⟨⟨hb1.trans (h.mono (by omega)), (hg.below hb1).below h⟩, cell_below h k0, cell_below h k1, cell_below h k2⟩
  have hfits := Lib.hid (fits_any g an cn ae ce w1 hm hm')
  rw [hw1] at hfits
  have hw1h := Lib.hid hw1
  have h64h := Lib.hid h64
  have hwz : Hid (w.heap.size < w1.heap.size) := by unfold Hid; omega
  clear hg hb1 hw1 k0 k1 k2 h64 hz1
  go_enter Tryz.func3, Tryz.ntmps3
  go_wp2_with fail
  refine (unhide hfits).mono ?_
  rintro e w2 ⟨rfl, hb2⟩
  rw [← hw1h.out] at hb2
  obtain ⟨⟨hbw2, hg2⟩, c0, c1, c2⟩ := hK.out w2 hb2
  have hb2h := Lib.hid hb2
  have hbw2h := Lib.hid hbw2
  rcases hf : fitsB g with _ | _
  · clear hb2 hbw2
    go_wp2_with fail
    go_ret
    exact ⟨rfl, hbw2h.out⟩
  have hfew := Lib.hid (few_any g an cn ae ce w2 40 (by omega) hg2)
  obtain ⟨fw, hfw⟩ : ∃ fw, fw = fewB g 40 := ⟨_, rfl⟩
  rw [← hfw] at hfew
  have hfwh := Lib.hid hfw
  clear hb2 hbw2 hg2 hfits hfw hf
  go_wp2_with fail
  refine (unhide hfew).mono ?_
  rintro e w3 ⟨rfl, hb3⟩
  have hb3' := hb2h.out.trans (hb3.mono hb2h.out.size)
  obtain ⟨⟨hbw3, hg3⟩, d0, d1, d2⟩ := hK.out w3 hb3'
  have hbw3h := Lib.hid hbw3
  have hb3h := Lib.hid hb3'
  have hg3h := Lib.hid hg3
  clear hb3 hb3' hbw3 hg3 hfew c0 c1 c2
  cases fw
  · go_wp2_with fail
    go_ret
    exact ⟨rfl, hbw3h.out⟩
  have hfw2 := hfwh.out.symm
  unfold fewB at hfw2
  rw [Bool.and_eq_true, Bool.and_eq_true] at hfw2
  have hn40 : g.nodes.length ≤ 40 := of_decide_eq_true hfw2.1.1
  have he320 : g.edges.length ≤ 8 * 40 := of_decide_eq_true hfw2.1.2
  have hok := Lib.hid hfw2.2
  obtain ⟨ng, hng⟩ : ∃ ng, ng = g.nodes.length := ⟨_, rfl⟩
  obtain ⟨nc, hnc⟩ : ∃ nc, nc = (copyG g d).nodes.length := ⟨_, rfl⟩
  obtain ⟨mc, hmc⟩ : ∃ mc, mc = (copyG g d).edges.length := ⟨_, rfl⟩
  have hcl := copy_len hok.out d (by omega)
  have hcp : Hid ((g.dir = true → d = true) → Calls Tryz.prog 7 #[.agg #[.bool g.dir, .slice an ng cn, .slice ae g.edges.length ce], .bool d] w3 fun e w' => ∃ a1 c1 a2 c2, e = .returned (.tuple #[.agg #[.bool d, .slice a1 nc c1, .slice a2 mc c2], .bool false]) ∧ GrAt w' (copyG g d) a1 c1 a2 ∧ Below w3.heap.size w3 w') := fun hd => by
    have h := copyI_any g d an cn ae ce w3 (by omega) (by omega) hg3h.out hok.out hd h64h.out
    rw [hng]
    refine h.mono ?_
    rintro e w' ⟨a1, c1, a2, c2, rfl, h1, h2⟩
    exact ⟨a1, c1, a2, c2, by rw [hnc, hmc]; rfl, h1, h2⟩
  have heq : Hid (∀ W a1 c1 a2 c2, (g.dir = true → d = true) → Below w1.heap.size w1 W → GrAt W (copyG g d) a1 c1 a2 → Calls Tryz.prog 8 #[.agg #[.bool g.dir, .slice an ng cn, .slice ae g.edges.length ce], .agg #[.bool d, .slice a1 nc c1, .slice a2 mc c2]] W fun e w' => e = .returned (.tuple #[.bool true, .bool false]) ∧ Below W.heap.size W w') := fun W a1 c1 a2 c2 hd hW hG => by
    have h := equal_any g (copyG g d) an cn ae ce a1 c1 a2 c2 W (by omega) (by omega) hcl.1 hcl.2 (hK.out W hW).1.2 hG hok.out (copy_ok hok.out d)
    rw [decide_eq_true ((eqP_iff hok.out (copy_ok hok.out d)).2 (copy_same hok.out hd)), ← hng, ← hnc, ← hmc] at h
    exact h
  have hclo : Hid (∀ W, Below w1.heap.size w1 W → Calls Tryz.prog 9 #[.slice an ng cn] W fun e w' => ∃ a c, e = .returned (.slice a ng c) ∧ w'.ownsRow w1.heap.size 3 1 (.slice a ng c) ng (ints g.nodes) ∧ Below w1.heap.size w1 w') := fun W hW =>
    (cloneInt_any an ng cn g.nodes W hng (by omega) (hK.out W hW).1.2.nodes (hK.out W hW).1.2.none).mono fun e w' ⟨a, c, h1, h2, _, h4⟩ => ⟨a, c, h1, owns_base h2 hW.size, hW.trans (h4.mono hW.size)⟩
  have hsp : Hid (∀ W, Below w1.heap.size w1 W → Calls Tryz.prog 10 #[.slice an ng cn] W fun e w' => ∃ m : Nat, e = .returned (.int .i64 m) ∧ m ≤ 1000 ∧ (m : Int) ∉ g.nodes ∧ W = w') := fun W hW =>
    spare_any an ng cn g.nodes W hng (by omega) (hK.out W hW).1.2.nodes
  have heq2 : Hid (∀ (W : World) (a : Addr) (c : Nat) (m : Nat), Below w1.heap.size w1 W → Cells W (some a) (ints (g.nodes ++ [(m : Int)])) → (m : Int) ∉ g.nodes → Calls Tryz.prog 8 #[.agg #[.bool g.dir, .slice an ng cn, .slice ae g.edges.length ce], .agg #[.bool d, .slice (some a) (ng + 1) c, .slice none 0 0]] W fun e w' => e = .returned (.tuple #[.bool false, .bool false]) ∧ Below W.heap.size W w') := fun W a c m hW hC hm => by
    have hl : (moreG g d m).nodes.length = ng + 1 := by rw [hng]; simp [moreG]
    have h := equal_any g (moreG g d m) an cn ae ce (some a) c none 0 W (by omega) (by omega) (by rw [hl]; omega) (by simp [moreG]) (hK.out W hW).1.2 ⟨hC, .inl rfl, fun e => by cases e⟩ hok.out (more_ok hok.out d hm)
    rw [decide_eq_false (fun h => more_other d (m : Int) ((eqP_iff hok.out (more_ok hok.out d hm)).1 h)), ← hng, hl] at h
    exact h
  have hK2 : Hid (∀ W, Below w1.heap.size w1 W → W.cell? ⟨w.heap.size, 0, none⟩ = some (.bool g.dir) ∧ W.cell? ⟨w.heap.size, 1, none⟩ = some (.slice an ng cn) ∧ W.cell? ⟨w.heap.size, 2, none⟩ = some (.slice ae g.edges.length ce)) := fun W hW => by rw [hng]; exact (hK.out W hW).2
  rw [← hng] at d1
  have hngb : ng ≤ 40 := by omega
  have hia := Tryz.isAgg4
  have hiz := Tryz.sizeOf4
  obtain ⟨i0, hi0, hz0, hz1, hz2⟩ := info_parts info_int
  obtain ⟨gd, hgd⟩ : ∃ gd, gd = g.dir := ⟨_, rfl⟩
  rw [← hgd] at hcp heq heq2 hK2 d0 ⊢
  have hgl : Hid (ints g.nodes ++ [Value.int .i64 0] = ints g.nodes ++ [Value.int .i64 0]) := rfl
  rw [← hng]
  clear hfwh hfw2 hm hm' hcl hng hnc hmc hg3h hgl hgd
  cases gd <;> cases d
  case true.false =>
    go_wp2_with fail
    go_ret
    exact ⟨rfl, hbw3h.out⟩
  case false.false =>
    go_wp2_with fail
    refine (hcp.out (by intro h; first | exact h | rfl | cases h)).mono ?_
    rintro e w4 ⟨a1, c1, a2, c2, rfl, hG4, hb4⟩
    have hb14 := hb3h.out.trans (hb4.mono hb3h.out.size)
    obtain ⟨k0, k1, k2⟩ := hK2.out w4 hb14
    have hlt4 : w.heap.size < w4.heap.size := by have := hb14.size; have := hwz.out; omega
    have hb5 : Hid (∀ o, Below w1.heap.size w1 (w4.alloc o)) := fun o => hb14.trans ((alloc_below w4 o).mono hb14.size)
    have he5 := Lib.hid (fun o => heq.out (w4.alloc o) a1 c1 a2 c2 (by intro h; first | exact h | rfl | cases h) (hb5.out o) (hG4.below (alloc_below w4 o)))
    clear hG4 hb4 hb14 hcp heq d0 d1 d2
    go_wp2_with fail
    refine (he5.out _).mono ?_
    rintro e w6 ⟨rfl, hb6⟩
    have hb16 := Lib.hid ((hb5.out _).trans (hb6.mono (hb5.out _).size))
    obtain ⟨l0, l1, l2⟩ := hK2.out w6 hb16.out
    clear hb6 k0 k1 k2 hlt4 he5 hb5
    go_wp2_with fail
    go_region_held3 (fun W => W.cell? ⟨w.heap.size, 0, none⟩ = some (.bool false) ∧ W.cell? ⟨w.heap.size, 1, none⟩ = some (.slice an ng cn) ∧ W.cell? ⟨w.heap.size, 2, none⟩ = some (.slice ae g.edges.length ce))
      (first | exact hK2.out _ hb16.out.drew | exact hK2.out _ hb7 | exact hK2.out _ (hb7.trans ((alloc_below w7 _).mono hs7)) | exact hK2.out _ hb9 | exact hK2.out _ hb110.out)
      (first
        | (go_at_call 9; refine (hclo.out _ hb16.out.drew).mono ?_; rintro e w7 ⟨a7, c7, rfl, own7, hb7⟩; have ho7 := Lib.hid (fun o => own7.alloc o); have hbb7 := Lib.hid (fun o w9 (hg : (w7.alloc o).grownBy w9 (Value.slice a7 ng c7).ownBlock) => app_below hb7 own7 hg); have hs7 := hb7.size; clear own7)
        | (go_at_call 10; refine (hsp.out _ hb7).mono ?_; rintro e w8 ⟨m, rfl, hm1, hm2, rfl⟩; have hnew := Lib.hid (new_one w7 (.int .i64 (m : Int)) 3))
        | (refine step_append_lies _ (by rfl) (.tmp 42) (.tmp 46) 22 (by rfl) w1.heap.size 3 i0 (.int .i64 0) 1 8 Tryz.underlying22 hi0 hz0 hz1 hz2 rfl (by omega) (.slice a7 ng c7) ng (ints g.nodes) (by rfl) (ho7.out _) ⟨w7.heap.size, 0, none⟩ 1 1 [.int .i64 (m : Int)] (by rfl) rfl hnew.out (one_int _) (by omega) (by unfold maxLen; omega) (by omega) (by show _ ≤ (w7.alloc _).heap.size; simp; omega) (w7.heap.size + 1) (by simp) ?_; intro g2 c3 w9 hown9 hg9 hat9 _; have hb9 := hbb7.out _ _ hg9; have hC9 := app_cells hown9; have hq9 := Lib.hid (heq2.out w9 ⟨g2, 0, none⟩ c3 m hb9 hC9 hm2); clear hown9 hg9 hat9 hC9)
        | (go_at_call 8; refine (hq9.out).mono ?_; rintro e w10 ⟨rfl, hb10⟩; have hb110 := Lib.hid (hb9.trans (hb10.mono hb9.size)); clear hb10))
    all_goals
      go_wp2_with fail
      go_ret
      exact ⟨rfl, (hK.out _ hb110.out).1.1⟩
  case false.true =>
    go_wp2_with fail
    refine (hcp.out (by intro h; first | exact h | rfl | cases h)).mono ?_
    rintro e w4 ⟨a1, c1, a2, c2, rfl, hG4, hb4⟩
    have hb14 := hb3h.out.trans (hb4.mono hb3h.out.size)
    obtain ⟨k0, k1, k2⟩ := hK2.out w4 hb14
    have hlt4 : w.heap.size < w4.heap.size := by have := hb14.size; have := hwz.out; omega
    have hb5 : Hid (∀ o, Below w1.heap.size w1 (w4.alloc o)) := fun o => hb14.trans ((alloc_below w4 o).mono hb14.size)
    have he5 := Lib.hid (fun o => heq.out (w4.alloc o) a1 c1 a2 c2 (by intro h; first | exact h | rfl | cases h) (hb5.out o) (hG4.below (alloc_below w4 o)))
    clear hG4 hb4 hb14 hcp heq d0 d1 d2
    go_wp2_with fail
    refine (he5.out _).mono ?_
    rintro e w6 ⟨rfl, hb6⟩
    have hb16 := Lib.hid ((hb5.out _).trans (hb6.mono (hb5.out _).size))
    obtain ⟨l0, l1, l2⟩ := hK2.out w6 hb16.out
    clear hb6 k0 k1 k2 hlt4 he5 hb5
    go_wp2_with fail
    go_region_held3 (fun W => W.cell? ⟨w.heap.size, 0, none⟩ = some (.bool false) ∧ W.cell? ⟨w.heap.size, 1, none⟩ = some (.slice an ng cn) ∧ W.cell? ⟨w.heap.size, 2, none⟩ = some (.slice ae g.edges.length ce))
      (first | exact hK2.out _ hb16.out.drew | exact hK2.out _ hb7 | exact hK2.out _ (hb7.trans ((alloc_below w7 _).mono hs7)) | exact hK2.out _ hb9 | exact hK2.out _ hb110.out)
      (first
        | (go_at_call 9; refine (hclo.out _ hb16.out.drew).mono ?_; rintro e w7 ⟨a7, c7, rfl, own7, hb7⟩; have ho7 := Lib.hid (fun o => own7.alloc o); have hbb7 := Lib.hid (fun o w9 (hg : (w7.alloc o).grownBy w9 (Value.slice a7 ng c7).ownBlock) => app_below hb7 own7 hg); have hs7 := hb7.size; clear own7)
        | (go_at_call 10; refine (hsp.out _ hb7).mono ?_; rintro e w8 ⟨m, rfl, hm1, hm2, rfl⟩; have hnew := Lib.hid (new_one w7 (.int .i64 (m : Int)) 3))
        | (refine step_append_lies _ (by rfl) (.tmp 42) (.tmp 46) 22 (by rfl) w1.heap.size 3 i0 (.int .i64 0) 1 8 Tryz.underlying22 hi0 hz0 hz1 hz2 rfl (by omega) (.slice a7 ng c7) ng (ints g.nodes) (by rfl) (ho7.out _) ⟨w7.heap.size, 0, none⟩ 1 1 [.int .i64 (m : Int)] (by rfl) rfl hnew.out (one_int _) (by omega) (by unfold maxLen; omega) (by omega) (by show _ ≤ (w7.alloc _).heap.size; simp; omega) (w7.heap.size + 1) (by simp) ?_; intro g2 c3 w9 hown9 hg9 hat9 _; have hb9 := hbb7.out _ _ hg9; have hC9 := app_cells hown9; have hq9 := Lib.hid (heq2.out w9 ⟨g2, 0, none⟩ c3 m hb9 hC9 hm2); clear hown9 hg9 hat9 hC9)
        | (go_at_call 8; refine (hq9.out).mono ?_; rintro e w10 ⟨rfl, hb10⟩; have hb110 := Lib.hid (hb9.trans (hb10.mono hb9.size)); clear hb10))
    all_goals
      go_wp2_with fail
      go_ret
      exact ⟨rfl, (hK.out _ hb110.out).1.1⟩
  case true.true =>
    go_wp2_with fail
    refine (hcp.out (by intro h; first | exact h | rfl | cases h)).mono ?_
    rintro e w4 ⟨a1, c1, a2, c2, rfl, hG4, hb4⟩
    have hb14 := hb3h.out.trans (hb4.mono hb3h.out.size)
    obtain ⟨k0, k1, k2⟩ := hK2.out w4 hb14
    have hlt4 : w.heap.size < w4.heap.size := by have := hb14.size; have := hwz.out; omega
    have hb5 : Hid (∀ o, Below w1.heap.size w1 (w4.alloc o)) := fun o => hb14.trans ((alloc_below w4 o).mono hb14.size)
    have he5 := Lib.hid (fun o => heq.out (w4.alloc o) a1 c1 a2 c2 (by intro h; first | exact h | rfl | cases h) (hb5.out o) (hG4.below (alloc_below w4 o)))
    clear hG4 hb4 hb14 hcp heq d0 d1 d2
    go_wp2_with fail
    refine (he5.out _).mono ?_
    rintro e w6 ⟨rfl, hb6⟩
    have hb16 := Lib.hid ((hb5.out _).trans (hb6.mono (hb5.out _).size))
    obtain ⟨l0, l1, l2⟩ := hK2.out w6 hb16.out
    clear hb6 k0 k1 k2 hlt4 he5 hb5
    go_wp2_with fail
    go_region_held3 (fun W => W.cell? ⟨w.heap.size, 0, none⟩ = some (.bool true) ∧ W.cell? ⟨w.heap.size, 1, none⟩ = some (.slice an ng cn) ∧ W.cell? ⟨w.heap.size, 2, none⟩ = some (.slice ae g.edges.length ce))
      (first | exact hK2.out _ hb16.out.drew | exact hK2.out _ hb7 | exact hK2.out _ (hb7.trans ((alloc_below w7 _).mono hs7)) | exact hK2.out _ hb9 | exact hK2.out _ hb110.out)
      (first
        | (go_at_call 9; refine (hclo.out _ hb16.out.drew).mono ?_; rintro e w7 ⟨a7, c7, rfl, own7, hb7⟩; have ho7 := Lib.hid (fun o => own7.alloc o); have hbb7 := Lib.hid (fun o w9 (hg : (w7.alloc o).grownBy w9 (Value.slice a7 ng c7).ownBlock) => app_below hb7 own7 hg); have hs7 := hb7.size; clear own7)
        | (go_at_call 10; refine (hsp.out _ hb7).mono ?_; rintro e w8 ⟨m, rfl, hm1, hm2, rfl⟩; have hnew := Lib.hid (new_one w7 (.int .i64 (m : Int)) 3))
        | (refine step_append_lies _ (by rfl) (.tmp 42) (.tmp 46) 22 (by rfl) w1.heap.size 3 i0 (.int .i64 0) 1 8 Tryz.underlying22 hi0 hz0 hz1 hz2 rfl (by omega) (.slice a7 ng c7) ng (ints g.nodes) (by rfl) (ho7.out _) ⟨w7.heap.size, 0, none⟩ 1 1 [.int .i64 (m : Int)] (by rfl) rfl hnew.out (one_int _) (by omega) (by unfold maxLen; omega) (by omega) (by show _ ≤ (w7.alloc _).heap.size; simp; omega) (w7.heap.size + 1) (by simp) ?_; intro g2 c3 w9 hown9 hg9 hat9 _; have hb9 := hbb7.out _ _ hg9; have hC9 := app_cells hown9; have hq9 := Lib.hid (heq2.out w9 ⟨g2, 0, none⟩ c3 m hb9 hC9 hm2); clear hown9 hg9 hat9 hC9)
        | (go_at_call 8; refine (hq9.out).mono ?_; rintro e w10 ⟨rfl, hb10⟩; have hb110 := Lib.hid (hb9.trans (hb10.mono hb9.size)); clear hb10))
    all_goals
      go_wp2_with fail
      go_ret
      exact ⟨rfl, (hK.out _ hb110.out).1.1⟩
end Go.Proofs.YtfihclhceakmdaaGreat

namespace Go.Proofs.YtfihclhceakmdaaGreat
open Go.ChangeShapes Go.WideShapes Go.ChangeAt Go.RowKit

set_option maxRecDepth 100000 in
theorem copyEqual_lifted (os : Os) (started : os.Started) (H : Type) (enc : TypeId × Value → H) :
    ReturnsInHanded {} Tryz.checked os 3 .any (Rows.fnCopyEqualSpec.pre6 enc Tryz.prog Tryz.f3 Rows.fnCopyEqualRow.domain false) (Rows.fnCopyEqualSpec.post enc Tryz.prog Tryz.f3 false true false false) := by
  refine returnsInHanded_of_change (C := Tryz.checked) own_knob started (by kernel_rfl) Tryz.func3
    (ChangeSpec.witness6 (enc := enc) (C := Tryz.checked) false ⟨#[], #[.agg #[.bool false, .slice none 0 0, .slice none 0 0], .bool false], []⟩ 8 (by kernel_rfl) (by kernel_rfl) (by kernel_rfl) (by kernel_rfl)) ?_
  intro W base args ds gs before hval0 hW hcnd _
  have hval : ∀ (j : Nat) t v, Tryz.f3.params[j]? = some t → args[j]? = some v → Value.okWide Tryz.prog W .any base t v := hval0
  have hW' := hW
  obtain ⟨p, q, hA0, hV, rfl, hfz, hnd⟩ := hW
  have hA : DataW.TrodAll enc Tryz.prog W 0 (fun _ => true) true Tryz.f3.params.toList args.toList ds p := hA0
  rw [Tryz.params3] at hA hval
  obtain ⟨v0, v1, d0, d1, p0, p1, rfl, rfl, rfl, h0, h1⟩ := trodAll_two hA
  obtain ⟨rfl, rfl⟩ := trodVars_none hV
  obtain ⟨a, an, cn, ae, ce, rfl, hga, h64, l1, l2⟩ := open_graph (hval 0 25 v0 rfl rfl) h0
  obtain ⟨d, rfl, rfl, rfl⟩ := open_bool Tryz.underlying4 (hval 1 4 v1 rfl rfl) h1
  clear h1
  clear hA0 hval0
  unfold maxLen at l1 l2
  refine (copyFn_any a d an cn ae ce W (by omega) (by omega) hga h64).mono fun e W' ⟨he, hb⟩ => ?_
  subst he
  have hlt0 : ∀ x ∈ p0, x.block < W.heap.size := fun x hx => hW'.lt x (by simp [hx])
  refine ⟨_, rfl, post_below (pa := p0 ++ []) (pv := []) hW' (fun _ _ _ => trodAll_mk1 (shut_bool Tryz.underlying4 true)) (fun sp hsp => ?_) (fun _ _ => rfl) (by simp) hb (ok_one (by kernel_rfl) rfl (okWide_bool_mk Tryz.underlying4 true))⟩
  exact trodAll_mk2 (WideElems.Trod_stays laid_out (by kernel_rfl) (of_decide_eq_true (by kernel_rfl)) h0 (fun x hx => hb.same (hlt0 x hx)) (fun x hx => hsp x (by simp [hx])))
    (shut_bool Tryz.underlying4 d)

theorem copyEqual_holds : Rows.FnCopyEqualSaid :=
  OpenClaim.holds_of_wide 3 Tryz.f3 rfl rfl rfl rfl rfl rfl rfl ⟨rfl, rfl, rfl, rfl, rfl⟩ rfl rfl rfl rfl rfl (by kernel_rfl) Tryz.func3 (by kernel_rfl)
    (of_decide_eq_true (by kernel_rfl)) (by unfold Func.isWrapper; rw [if_neg (by decide +kernel)]; exact ⟨rfl, rfl⟩)
    (fun os started H enc _ => copyEqual_lifted os started H enc)

#print axioms copyEqual_holds

end Go.Proofs.YtfihclhceakmdaaGreat
