/- laws.FnSort: the walk. -/
import Derived.Test.YtagnmdhdogaijaaGreatOrdFn
namespace Go.Proofs.YtagnmdhdogaijaaGreat
open Go.RowKit

theorem none_eq (l : List (List Int)) : decide (l = []) = ((l.length : Int) == 0) := by
  cases l with
  | nil => rfl
  | cons a l =>
    have h : ((((a :: l).length : Nat) : Int) == 0) = false := by simp; omega
    rw [h]; rfl

set_option maxRecDepth 100000 in
set_option maxHeartbeats 4000000 in
theorem sort_law_any (g : Gr) (an : Option Addr) (cn : Nat) (ae : Option Addr) (ce : Nat) (w : World) (hm : g.nodes.length ≤ 9223372036854775807) (hm' : g.edges.length ≤ 9223372036854775807) (hg : GrAt w g an cn ae) (h64 : ∀ x ∈ g.nodes, In64 x) :
    Calls Tryz.prog 4 #[.agg #[.bool g.dir, .slice an g.nodes.length cn, .slice ae g.edges.length ce]] w
      fun e w' => e = .returned (.bool true) ∧ Below w.heap.size w w' := by
  obtain ⟨w1, hw1⟩ : ∃ w1, w1 = w.alloc (.cells #[.bool g.dir, .slice an g.nodes.length cn, .slice ae g.edges.length ce] 25) := ⟨_, rfl⟩
  have hb1 : Below w.heap.size w w1 := by rw [hw1]; exact alloc_below w _
  have hz1 : w1.heap.size = w.heap.size + 1 := by rw [hw1]; simp
  have k0 : w1.cell? ⟨w.heap.size, 0, none⟩ = some (.bool g.dir) := by rw [hw1]; simp
  have k1 : w1.cell? ⟨w.heap.size, 1, none⟩ = some (.slice an g.nodes.length cn) := by rw [hw1]; simp
  have k2 : w1.cell? ⟨w.heap.size, 2, none⟩ = some (.slice ae g.edges.length ce) := by rw [hw1]; simp
  have hK : Hid (∀ wr, Below w1.heap.size w1 wr → Below w.heap.size w wr ∧ GrAt wr g an cn ae ∧ wr.cell? ⟨w.heap.size, 0, none⟩ = some (.bool g.dir) ∧ wr.cell? ⟨w.heap.size, 1, none⟩ = some (.slice an g.nodes.length cn) ∧ wr.cell? ⟨w.heap.size, 2, none⟩ = some (.slice ae g.edges.length ce)) :=
    fun wr h => ⟨hb1.trans (h.mono (by omega)), (hg.below hb1).below h, cell_below h k0, cell_below h k1, cell_below h k2⟩
  have hg1 := hg.below hb1
  have hfits := Lib.hid (fits_any g an cn ae ce w1 hm hm')
  rw [hw1] at hfits
  have hw1h := Lib.hid hw1
  clear hg hb1 hw1 k0 k1 k2 hg1
  go_enter Tryz.func4, Tryz.ntmps4
  go_wp2_with fail
  refine (unhide hfits).mono ?_
  rintro e w2 ⟨rfl, hb2⟩
  rw [← hw1h.out] at hb2
  obtain ⟨hb2', hg2, c0, c1, c2⟩ := hK.out w2 hb2
  have hb2h := Lib.hid hb2
  have hb2h' := Lib.hid hb2'
  rcases hf : fitsB g with _ | _
  · clear hb2 hb2'
    go_wp2_with fail
    go_ret
    exact ⟨rfl, hb2h'.out⟩
  have hfew := Lib.hid (fewOf_any g an cn ae ce true w2 25 (by omega) hg2)
  obtain ⟨fw, hfw⟩ : ∃ fw, fw = (g.dir == true && fewB g 25) := ⟨_, rfl⟩
  rw [← hfw] at hfew
  have hfwh := Lib.hid hfw
  clear hb2 hb2' hg2 hfits hfw hf
  go_wp2_with fail
  refine (unhide hfew).mono ?_
  rintro e w3 ⟨rfl, hb3⟩
  have hb3' := hb2h.out.trans (hb3.mono hb2h.out.size)
  obtain ⟨hbw, hg3, d0, d1, d2⟩ := hK.out w3 hb3'
  have hbwh := Lib.hid hbw
  have hb3h := Lib.hid hb3'
  have hg3h := Lib.hid hg3
  clear hb3 hb3' hbw hg3 hfew c0 c1 c2
  cases fw
  · go_wp2_with fail
    go_ret
    exact ⟨rfl, hbwh.out⟩
  have hfw' := hfwh.out.symm
  rw [Bool.and_eq_true] at hfw'
  have hdir0 : g.dir = true := by have := hfw'.1; simpa using this
  have hdir := Lib.hid hdir0
  have hfw2 := hfw'.2
  unfold fewB at hfw2
  rw [Bool.and_eq_true, Bool.and_eq_true] at hfw2
  have hn40 : g.nodes.length ≤ 25 := of_decide_eq_true hfw2.1.1
  have he320 : g.edges.length ≤ 8 * 25 := of_decide_eq_true hfw2.1.2
  have hok := Lib.hid hfw2.2
  clear hfwh hfw' hfw2 hdir0
  have hst := Lib.hid (sort_any g an cn ae ce w3 (by omega) (by omega) hg3h.out hok.out hdir.out h64)
  clear h64
  go_wp2_with fail
  refine (unhide hst).mono ?_
  rintro e w4 ⟨a1, c1, a2, c2, B, vs, rfl, ho1, ho2, hr2, hB, hb4⟩
  have hb4' := hb3h.out.trans (hb4.mono hb3h.out.size)
  obtain ⟨hbw4, hg4, c0, c1', c2'⟩ := hK.out w4 hb4'
  rw [none_eq]
  obtain ⟨n1, hn1⟩ : ∃ n1, n1 = (gComps g).length := ⟨_, rfl⟩
  obtain ⟨n2, hn2⟩ : ∃ n2, n2 = (cycL (gComps g) (gComps g).length).length := ⟨_, rfl⟩
  rw [← hn2] at ho2 ⊢
  rw [← hn1] at ho1 ⊢
  have hor := Lib.hid (ordered_true g an cn ae ce a1 n1 c1 a2 n2 c2 B vs w4 (by omega) (by omega) hg4 hok.out hn1 (by rw [hn2]; exact List.length_reverse.symm) ho1 ho2 hr2)
  have hbw4h := Lib.hid hbw4
  clear hst ho1 ho2 hr2 hB hb4 hb4' hbw4 hg4 hn1 hn2 d0 d1 d2
  go_wp2_with fail
  refine (unhide hor).mono ?_
  rintro e w5 ⟨rfl, hb5⟩
  have hfin : Hid (Below w.heap.size w w5) := hbw4h.out.trans (hb5.mono hbw4h.out.size)
  clear hb5 hor c0 c1' c2'
  go_wp2_with fail
  go_ret
  exact ⟨rfl, hfin.out⟩
end Go.Proofs.YtagnmdhdogaijaaGreat
