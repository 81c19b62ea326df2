/- What is no graph, or one of the other kind, is refused: the functions of the chapter topo. -/
import Derived.Test.YthpjmjohdliohaaGreatNumA
import Derived.Test.YthpjmjohdliohaaGreatBothWays
import Derived.Test.YthpjmjohdliohaaGreatOpenA
namespace Go.Proofs.YthpjmjohdliohaaGreat
open Go.RowKit

set_option maxRecDepth 100000 in
set_option maxHeartbeats 1000000 in
theorem sortNo_any (g : Gr) (an : Option Addr) (cn : Nat) (ae : Option Addr) (ce : Nat) (w : World) (hn : g.nodes.length ≤ 1000) (he : g.edges.length ≤ 1048576) (hg : GrAt w g an cn ae) (hno : (okGraph g && g.dir) = false) :
    Calls Tryz.prog 7 #[.agg #[.bool g.dir, .slice an g.nodes.length cn, .slice ae g.edges.length ce]] w fun e w' => e = .returned (.tuple #[.slice none 0 0, .slice none 0 0, .bool false, .bool true]) ∧ Below w.heap.size w w' := by
  obtain ⟨w1, hw1⟩ : ∃ w1, w1 = w.alloc (.cells #[.bool g.dir, .slice an g.nodes.length cn, .slice ae g.edges.length ce] 25) := ⟨_, rfl⟩
  have b1 : Below w.heap.size w w1 := by rw [hw1]; exact alloc_below _ _
  have ho := oneWay_any g an cn ae ce w1 (by omega) he (hg.below b1)
  rw [hw1] at ho
  have hoh := Lib.hid ho
  have hw1h := Lib.hid hw1
  have b1h := Lib.hid b1
  have hnoh := Lib.hid hno
  clear hw1 b1 ho hg hno
  go_enter Tryz.func7, Tryz.ntmps7
  go_wp2_with fail
  refine (unhide hoh).mono ?_
  rintro e w2 ⟨pb, rfl, hb2, _⟩
  rw [← hw1h.out] at hb2
  rw [hnoh.out]
  have hb : Hid (Below w.heap.size w w2) := b1h.out.trans (hb2.mono b1h.out.size)
  clear hb2 hoh
  go_wp2_with fail
  (try simp only [Exit.inBlock, Exit.then])
  refine bodyPost_ret (v := .tuple #[.slice none 0 0, .slice none 0 0, .bool false, .bool true]) (by simp [results, Tryz.results7, go_sem]) rfl ?_
  first | exact ⟨rfl, hb.out⟩ | exact ⟨rfl, hb.out.alloc (by have := hb.out.size; omega) _⟩

set_option maxRecDepth 100000 in
set_option maxHeartbeats 1000000 in
theorem sortStNo_any (g : Gr) (an : Option Addr) (cn : Nat) (ae : Option Addr) (ce : Nat) (w : World) (hn : g.nodes.length ≤ 1000) (he : g.edges.length ≤ 1048576) (hg : GrAt w g an cn ae) (hno : (okGraph g && g.dir) = false) :
    Calls Tryz.prog 8 #[.agg #[.bool g.dir, .slice an g.nodes.length cn, .slice ae g.edges.length ce]] w fun e w' => e = .returned (.tuple #[.slice none 0 0, .slice none 0 0, .bool false, .bool true]) ∧ Below w.heap.size w w' := by
  obtain ⟨w1, hw1⟩ : ∃ w1, w1 = w.alloc (.cells #[.bool g.dir, .slice an g.nodes.length cn, .slice ae g.edges.length ce] 25) := ⟨_, rfl⟩
  have b1 : Below w.heap.size w w1 := by rw [hw1]; exact alloc_below _ _
  have ho := oneWay_any g an cn ae ce w1 (by omega) he (hg.below b1)
  rw [hw1] at ho
  have hoh := Lib.hid ho
  have hw1h := Lib.hid hw1
  have b1h := Lib.hid b1
  have hnoh := Lib.hid hno
  clear hw1 b1 ho hg hno
  go_enter Tryz.func8, Tryz.ntmps8
  go_wp2_with fail
  refine (unhide hoh).mono ?_
  rintro e w2 ⟨pb, rfl, hb2, _⟩
  rw [← hw1h.out] at hb2
  rw [hnoh.out]
  have hb : Hid (Below w.heap.size w w2) := b1h.out.trans (hb2.mono b1h.out.size)
  clear hb2 hoh
  go_wp2_with fail
  (try simp only [Exit.inBlock, Exit.then])
  refine bodyPost_ret (v := .tuple #[.slice none 0 0, .slice none 0 0, .bool false, .bool true]) (by simp [results, Tryz.results8, go_sem]) rfl ?_
  first | exact ⟨rfl, hb.out⟩ | exact ⟨rfl, hb.out.alloc (by have := hb.out.size; omega) _⟩

set_option maxRecDepth 100000 in
set_option maxHeartbeats 1000000 in
theorem sccNo_any (g : Gr) (an : Option Addr) (cn : Nat) (ae : Option Addr) (ce : Nat) (w : World) (hn : g.nodes.length ≤ 1000) (he : g.edges.length ≤ 1048576) (hg : GrAt w g an cn ae) (hno : (okGraph g && g.dir) = false) :
    Calls Tryz.prog 9 #[.agg #[.bool g.dir, .slice an g.nodes.length cn, .slice ae g.edges.length ce]] w fun e w' => e = .returned (.tuple #[.slice none 0 0, .bool true]) ∧ Below w.heap.size w w' := by
  obtain ⟨w1, hw1⟩ : ∃ w1, w1 = w.alloc (.cells #[.bool g.dir, .slice an g.nodes.length cn, .slice ae g.edges.length ce] 25) := ⟨_, rfl⟩
  have b1 : Below w.heap.size w w1 := by rw [hw1]; exact alloc_below _ _
  have ho := oneWay_any g an cn ae ce w1 (by omega) he (hg.below b1)
  rw [hw1] at ho
  have hoh := Lib.hid ho
  have hw1h := Lib.hid hw1
  have b1h := Lib.hid b1
  have hnoh := Lib.hid hno
  clear hw1 b1 ho hg hno
  go_enter Tryz.func9, Tryz.ntmps9
  go_wp2_with fail
  refine (unhide hoh).mono ?_
  rintro e w2 ⟨pb, rfl, hb2, _⟩
  rw [← hw1h.out] at hb2
  rw [hnoh.out]
  have hb : Hid (Below w.heap.size w w2) := b1h.out.trans (hb2.mono b1h.out.size)
  clear hb2 hoh
  go_wp2_with fail
  (try simp only [Exit.inBlock, Exit.then])
  refine bodyPost_ret (v := .tuple #[.slice none 0 0, .bool true]) (by simp [results, Tryz.results9, go_sem]) rfl ?_
  first | exact ⟨rfl, hb.out⟩ | exact ⟨rfl, hb.out.alloc (by have := hb.out.size; omega) _⟩

set_option maxRecDepth 100000 in
set_option maxHeartbeats 1000000 in
theorem compNo_any (g : Gr) (an : Option Addr) (cn : Nat) (ae : Option Addr) (ce : Nat) (w : World) (hn : g.nodes.length ≤ 1000) (he : g.edges.length ≤ 1048576) (hg : GrAt w g an cn ae) (hno : (okGraph g && !g.dir) = false) :
    Calls Tryz.prog 10 #[.agg #[.bool g.dir, .slice an g.nodes.length cn, .slice ae g.edges.length ce]] w fun e w' => e = .returned (.tuple #[.slice none 0 0, .bool true]) ∧ Below w.heap.size w w' := by
  obtain ⟨w1, hw1⟩ : ∃ w1, w1 = w.alloc (.cells #[.bool g.dir, .slice an g.nodes.length cn, .slice ae g.edges.length ce] 25) := ⟨_, rfl⟩
  have b1 : Below w.heap.size w w1 := by rw [hw1]; exact alloc_below _ _
  have ho := bothWays_any g an cn ae ce w1 (by omega) he (hg.below b1)
  rw [hw1] at ho
  have hoh := Lib.hid ho
  have hw1h := Lib.hid hw1
  have b1h := Lib.hid b1
  have hnoh := Lib.hid hno
  clear hw1 b1 ho hg hno
  go_enter Tryz.func10, Tryz.ntmps10
  go_wp2_with fail
  refine (unhide hoh).mono ?_
  rintro e w2 ⟨pb, rfl, hb2, _⟩
  rw [← hw1h.out] at hb2
  rw [hnoh.out]
  have hb : Hid (Below w.heap.size w w2) := b1h.out.trans (hb2.mono b1h.out.size)
  clear hb2 hoh
  go_wp2_with fail
  (try simp only [Exit.inBlock, Exit.then])
  refine bodyPost_ret (v := .tuple #[.slice none 0 0, .bool true]) (by simp [results, Tryz.results10, go_sem]) rfl ?_
  first | exact ⟨rfl, hb.out⟩ | exact ⟨rfl, hb.out.alloc (by have := hb.out.size; omega) _⟩

set_option maxRecDepth 100000 in
set_option maxHeartbeats 1000000 in
theorem degenNo_any (g : Gr) (an : Option Addr) (cn : Nat) (ae : Option Addr) (ce : Nat) (w : World) (hn : g.nodes.length ≤ 1000) (he : g.edges.length ≤ 1048576) (hg : GrAt w g an cn ae) (hno : (okGraph g && !g.dir) = false) :
    Calls Tryz.prog 11 #[.agg #[.bool g.dir, .slice an g.nodes.length cn, .slice ae g.edges.length ce]] w fun e w' => e = .returned (.tuple #[.slice none 0 0, .slice none 0 0, .bool true]) ∧ Below w.heap.size w w' := by
  obtain ⟨w1, hw1⟩ : ∃ w1, w1 = w.alloc (.cells #[.bool g.dir, .slice an g.nodes.length cn, .slice ae g.edges.length ce] 25) := ⟨_, rfl⟩
  have b1 : Below w.heap.size w w1 := by rw [hw1]; exact alloc_below _ _
  have ho := bothWays_any g an cn ae ce w1 (by omega) he (hg.below b1)
  rw [hw1] at ho
  have hoh := Lib.hid ho
  have hw1h := Lib.hid hw1
  have b1h := Lib.hid b1
  have hnoh := Lib.hid hno
  clear hw1 b1 ho hg hno
  go_enter Tryz.func11, Tryz.ntmps11
  go_wp2_with fail
  refine (unhide hoh).mono ?_
  rintro e w2 ⟨pb, rfl, hb2, _⟩
  rw [← hw1h.out] at hb2
  rw [hnoh.out]
  have hb : Hid (Below w.heap.size w w2) := b1h.out.trans (hb2.mono b1h.out.size)
  clear hb2 hoh
  go_wp2_with fail
  (try simp only [Exit.inBlock, Exit.then])
  refine bodyPost_ret (v := .tuple #[.slice none 0 0, .slice none 0 0, .bool true]) (by simp [results, Tryz.results11, go_sem]) rfl ?_
  first | exact ⟨rfl, hb.out⟩ | exact ⟨rfl, hb.out.alloc (by have := hb.out.size; omega) _⟩

set_option maxRecDepth 100000 in
set_option maxHeartbeats 1000000 in
theorem kcoreNo_any (g : Gr) (an : Option Addr) (cn : Nat) (ae : Option Addr) (ce : Nat) (w : World) (hn : g.nodes.length ≤ 1000) (he : g.edges.length ≤ 1048576) (hg : GrAt w g an cn ae) (hno : (okGraph g && !g.dir) = false) :
    Calls Tryz.prog 12 #[.int .i64 0, .agg #[.bool g.dir, .slice an g.nodes.length cn, .slice ae g.edges.length ce]] w fun e w' => e = .returned (.tuple #[.slice none 0 0, .bool true]) ∧ Below w.heap.size w w' := by
  obtain ⟨w1, hw1⟩ : ∃ w1, w1 = w.alloc (.cells #[.bool g.dir, .slice an g.nodes.length cn, .slice ae g.edges.length ce] 25) := ⟨_, rfl⟩
  have b1 : Below w.heap.size w w1 := by rw [hw1]; exact alloc_below _ _
  have ho := bothWays_any g an cn ae ce w1 (by omega) he (hg.below b1)
  rw [hw1] at ho
  have hoh := Lib.hid ho
  have hw1h := Lib.hid hw1
  have b1h := Lib.hid b1
  have hnoh := Lib.hid hno
  clear hw1 b1 ho hg hno
  go_enter Tryz.func12, Tryz.ntmps12
  go_wp2_with fail
  refine (unhide hoh).mono ?_
  rintro e w2 ⟨pb, rfl, hb2, _⟩
  rw [← hw1h.out] at hb2
  rw [hnoh.out]
  have hb : Hid (Below w.heap.size w w2) := b1h.out.trans (hb2.mono b1h.out.size)
  clear hb2 hoh
  go_wp2_with fail
  (try simp only [Exit.inBlock, Exit.then])
  refine bodyPost_ret (v := .tuple #[.slice none 0 0, .bool true]) (by simp [results, Tryz.results12, go_sem]) rfl ?_
  first | exact ⟨rfl, hb.out⟩ | exact ⟨rfl, hb.out.alloc (by have := hb.out.size; omega) _⟩

set_option maxRecDepth 100000 in
set_option maxHeartbeats 1000000 in
theorem ucycNo_any (g : Gr) (an : Option Addr) (cn : Nat) (ae : Option Addr) (ce : Nat) (w : World) (hn : g.nodes.length ≤ 1000) (he : g.edges.length ≤ 1048576) (hg : GrAt w g an cn ae) (hno : (okGraph g && !g.dir) = false) :
    Calls Tryz.prog 13 #[.agg #[.bool g.dir, .slice an g.nodes.length cn, .slice ae g.edges.length ce]] w fun e w' => e = .returned (.tuple #[.slice none 0 0, .bool true]) ∧ Below w.heap.size w w' := by
  obtain ⟨w1, hw1⟩ : ∃ w1, w1 = w.alloc (.cells #[.bool g.dir, .slice an g.nodes.length cn, .slice ae g.edges.length ce] 25) := ⟨_, rfl⟩
  have b1 : Below w.heap.size w w1 := by rw [hw1]; exact alloc_below _ _
  have ho := bothWays_any g an cn ae ce w1 (by omega) he (hg.below b1)
  rw [hw1] at ho
  have hoh := Lib.hid ho
  have hw1h := Lib.hid hw1
  have b1h := Lib.hid b1
  have hnoh := Lib.hid hno
  clear hw1 b1 ho hg hno
  go_enter Tryz.func13, Tryz.ntmps13
  go_wp2_with fail
  refine (unhide hoh).mono ?_
  rintro e w2 ⟨pb, rfl, hb2, _⟩
  rw [← hw1h.out] at hb2
  rw [hnoh.out]
  have hb : Hid (Below w.heap.size w w2) := b1h.out.trans (hb2.mono b1h.out.size)
  clear hb2 hoh
  go_wp2_with fail
  (try simp only [Exit.inBlock, Exit.then])
  refine bodyPost_ret (v := .tuple #[.slice none 0 0, .bool true]) (by simp [results, Tryz.results13, go_sem]) rfl ?_
  first | exact ⟨rfl, hb.out⟩ | exact ⟨rfl, hb.out.alloc (by have := hb.out.size; omega) _⟩

end Go.Proofs.YthpjmjohdliohaaGreat
