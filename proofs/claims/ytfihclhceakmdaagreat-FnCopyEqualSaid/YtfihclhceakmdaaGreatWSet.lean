/- SetWeightedEdge of simple graphs with weights. -/
import Derived.Test.YtfihclhceakmdaaGreatWLay
namespace Go.Proofs.YtfihclhceakmdaaGreat
open Go.RowKit Go.Maps

/-- The value of an edge. -/
def wev (x y : Int) (b : Nat) : Value := .iface 229 (.agg #[.iface 227 (.int .i64 x), .iface 227 (.int .i64 y), .float .f64 b])

theorem wfrom_any (x y : Int) (b : Nat) (w : World) : Calls Tryz.prog 205 #[.agg #[.iface 227 (.int .i64 x), .iface 227 (.int .i64 y), .float .f64 b]] w
    fun e w' => e = .returned (.iface 227 (.int .i64 x)) ∧ Below w.heap.size w w' := by
  go_enter Tryz.func205, Tryz.ntmps205
  go_wp2
  go_ret
  exact ⟨rfl, alloc_below w _⟩
theorem wto_any (x y : Int) (b : Nat) (w : World) : Calls Tryz.prog 207 #[.agg #[.iface 227 (.int .i64 x), .iface 227 (.int .i64 y), .float .f64 b]] w
    fun e w' => e = .returned (.iface 227 (.int .i64 y)) ∧ Below w.heap.size w w' := by
  go_enter Tryz.func207, Tryz.ntmps207
  go_wp2
  go_ret
  exact ⟨rfl, alloc_below w _⟩
theorem wweight_any (x y : Int) (b : Nat) (w : World) : Calls Tryz.prog 208 #[.agg #[.iface 227 (.int .i64 x), .iface 227 (.int .i64 y), .float .f64 b]] w
    fun e w' => e = .returned (.float .f64 b) ∧ Below w.heap.size w w' := by
  go_enter Tryz.func208, Tryz.ntmps208
  go_wp2
  go_ret
  exact ⟨rfl, alloc_below w _⟩
theorem wfrom_method (n : Nat) (a b c : Value) (w : World) : (method (n + 1) 229 (.agg #[a, b, c]) "From").run Tryz.prog w = .ok (205, .agg #[a, b, c]) w := by kernel_rfl
theorem wto_method (n : Nat) (a b c : Value) (w : World) : (method (n + 1) 229 (.agg #[a, b, c]) "To").run Tryz.prog w = .ok (207, .agg #[a, b, c]) w := by kernel_rfl
theorem wweight_method (n : Nat) (a b c : Value) (w : World) : (method (n + 1) 229 (.agg #[a, b, c]) "Weight").run Tryz.prog w = .ok (208, .agg #[a, b, c]) w := by kernel_rfl

set_option maxRecDepth 100000 in
set_option maxHeartbeats 4000000 in
theorem setEdgeDirected_any {w : World} {ids : List Int} {B : Nat → Prop} {ad : WR → Option Nat} {c : WR → Cont} {gb jn je jt ju js jr : Nat} {N : List Int} {F : Int → Int → Option Value}
    (h : WG true w ids B ad c gb jn je jt ju js jr N F) {x y : Int} (b : Nat) (hx : In64 x) (hy : In64 y) (hxm : x ∈ ids) (hym : y ∈ ids) (hxN : x ∈ N) (hyN : y ∈ N) (hxy : x ≠ y) (hl : ids.length ≤ 1000) :
    Calls Tryz.prog 135 #[.pointer (some ⟨gb, 0, none⟩), wev x y b] w
      fun e w' => e = .returned (.tuple #[]) ∧ (∃ ad' c', WG true w' ids B ad' c' gb jn je jt ju js jr N (updE F x y (wev x y b))) ∧ Keeps B w w' := by
  have hne : (x == y) = false := by simpa using hxy
  have hne2 : decide (x = y) = false := decide_eq_false hxy
  have hmf := wfrom_method
  have hmt := wto_method
  have hH := Lib.hid h
  have hxh := Lib.hid hx
  have hyh := Lib.hid hy
  unfold wev
  clear h hx hy
  go_enter Tryz.func135, Tryz.ntmps135
  go_wp2_with fail
  refine (wfrom_any x y b w).mono ?_
  rintro e w1 ⟨rfl, hb1⟩
  have h1 := hH.out.below hb1
  have hb1h : Hid (Keeps B w w1) := Keeps.of hb1
  have h1h := Lib.hid h1
  clear hb1 h1 hH
  go_wp2_with (go_at_call 204; refine (id_any _ _).mono ?_; rintro e w' ⟨rfl, rfl⟩)
  refine (wto_any x y b w1).mono ?_
  rintro e w2 ⟨rfl, hb2⟩
  have h2 := h1h.out.below hb2
  have hb2h : Hid (Keeps B w w2) := hb1h.out.trans (Keeps.of hb2)
  have k0 : w2.cell? ⟨gb, 0, none⟩ = some (.map (some jn)) := h2.cell rfl
  obtain ⟨hlx, w3, hux, ⟨c3, h3⟩, hb3⟩ := h2.again hxh.out hxm hxN hl
  have k3 : w3.cell? ⟨gb, 0, none⟩ = some (.map (some jn)) := h3.cell rfl
  obtain ⟨hly, w4, huy, ⟨c4, h4⟩, hb4⟩ := h3.again hyh.out hym hyN hl
  have k4 : w4.cell? ⟨gb, 1, none⟩ = some (.map (some je)) := h4.cell rfl
  have hb4h : Hid (Keeps B w w4) := hb2h.out.trans (hb3.trans hb4)
  clear hb2 h2 hb3 hb4 h3 h1h hb1h
  rcases h4.layE (y := y) hxh.out hyh.out hxm hym hl (wev x y b) with ⟨j, w5, he1, he2, ⟨ad5, c5, h5⟩, hb5⟩ | ⟨w5a, w5, he1, he2, he3, ⟨ad5, c5, h5⟩, hb5⟩
  · have k5 : w5.cell? ⟨gb, 2, none⟩ = some (.map (some jt)) := h5.cell rfl
    rcases h5.layT rfl hyh.out hxh.out hym hxm hl (wev x y b) with ⟨i, w6, hf1, hf2, ⟨ad6, c6, h6⟩, hb6⟩ | ⟨w6a, w6, hf1, hf2, hf3, ⟨ad6, c6, h6⟩, hb6⟩
    · have hfin := Lib.hid (hb4h.out.trans (hb5.trans hb6))
      have h6h := Lib.hid h6
      unfold wev at he2 hf2
      clear hb5 hb6 h4 h5 h6
      go_wp2_with (go_at_call 204; refine (id_any _ _).mono ?_; rintro e w' ⟨rfl, rfl⟩)
      go_end0
      exact ⟨rfl, ⟨_, _, h6h.out⟩, hfin.out⟩
    · have hfin := Lib.hid (hb4h.out.trans (hb5.trans hb6))
      have h6h := Lib.hid h6
      have hmm := @run_makeMap Tryz.prog
      unfold wev at he2 hf2
      clear hb5 hb6 h4 h5 h6
      go_wp2_with (go_at_call 204; refine (id_any _ _).mono ?_; rintro e w' ⟨rfl, rfl⟩)
      go_end0
      exact ⟨rfl, ⟨_, _, h6h.out⟩, hfin.out⟩
  · have k5 : w5.cell? ⟨gb, 2, none⟩ = some (.map (some jt)) := h5.cell rfl
    have hmm := @run_makeMap Tryz.prog
    rcases h5.layT rfl hyh.out hxh.out hym hxm hl (wev x y b) with ⟨i, w6, hf1, hf2, ⟨ad6, c6, h6⟩, hb6⟩ | ⟨w6a, w6, hf1, hf2, hf3, ⟨ad6, c6, h6⟩, hb6⟩
    · have hfin := Lib.hid (hb4h.out.trans (hb5.trans hb6))
      have h6h := Lib.hid h6
      unfold wev at he2 hf2
      clear hb5 hb6 h4 h5 h6
      go_wp2_with (go_at_call 204; refine (id_any _ _).mono ?_; rintro e w' ⟨rfl, rfl⟩)
      go_end0
      exact ⟨rfl, ⟨_, _, h6h.out⟩, hfin.out⟩
    · have hfin := Lib.hid (hb4h.out.trans (hb5.trans hb6))
      have h6h := Lib.hid h6
      unfold wev at he2 hf2
      clear hb5 hb6 h4 h5 h6
      go_wp2_with (go_at_call 204; refine (id_any _ _).mono ?_; rintro e w' ⟨rfl, rfl⟩)
      go_end0
      exact ⟨rfl, ⟨_, _, h6h.out⟩, hfin.out⟩

set_option maxRecDepth 100000 in
set_option maxHeartbeats 4000000 in
theorem setEdgeUndirected_any {w : World} {ids : List Int} {B : Nat → Prop} {ad : WR → Option Nat} {c : WR → Cont} {gb jn je jt ju js jr : Nat} {N : List Int} {F : Int → Int → Option Value}
    (h : WG false w ids B ad c gb jn je jt ju js jr N F) {x y : Int} (b : Nat) (hx : In64 x) (hy : In64 y) (hxm : x ∈ ids) (hym : y ∈ ids) (hxN : x ∈ N) (hyN : y ∈ N) (hxy : x ≠ y) (hl : ids.length ≤ 1000) :
    Calls Tryz.prog 149 #[.pointer (some ⟨gb, 0, none⟩), wev x y b] w
      fun e w' => e = .returned (.tuple #[]) ∧ (∃ ad' c', WG false w' ids B ad' c' gb jn je jt ju js jr N (updE (updE F x y (wev x y b)) y x (wev x y b))) ∧ Keeps B w w' := by
  have hne : (x == y) = false := by simpa using hxy
  have hne2 : decide (x = y) = false := decide_eq_false hxy
  have hmf := wfrom_method
  have hmt := wto_method
  have hH := Lib.hid h
  have hxh := Lib.hid hx
  have hyh := Lib.hid hy
  unfold wev
  clear h hx hy
  go_enter Tryz.func149, Tryz.ntmps149
  go_wp2_with fail
  refine (wfrom_any x y b w).mono ?_
  rintro e w1 ⟨rfl, hb1⟩
  have h1 := hH.out.below hb1
  have hb1h : Hid (Keeps B w w1) := Keeps.of hb1
  have h1h := Lib.hid h1
  clear hb1 h1 hH
  go_wp2_with (go_at_call 204; refine (id_any _ _).mono ?_; rintro e w' ⟨rfl, rfl⟩)
  refine (wto_any x y b w1).mono ?_
  rintro e w2 ⟨rfl, hb2⟩
  have h2 := h1h.out.below hb2
  have hb2h : Hid (Keeps B w w2) := hb1h.out.trans (Keeps.of hb2)
  have k0 : w2.cell? ⟨gb, 0, none⟩ = some (.map (some jn)) := h2.cell rfl
  obtain ⟨hlx, w3, hux, ⟨c3, h3⟩, hb3⟩ := h2.again hxh.out hxm hxN hl
  have k3 : w3.cell? ⟨gb, 0, none⟩ = some (.map (some jn)) := h3.cell rfl
  obtain ⟨hly, w4, huy, ⟨c4, h4⟩, hb4⟩ := h3.again hyh.out hym hyN hl
  have k4 : w4.cell? ⟨gb, 1, none⟩ = some (.map (some je)) := h4.cell rfl
  have hb4h : Hid (Keeps B w w4) := hb2h.out.trans (hb3.trans hb4)
  clear hb2 h2 hb3 hb4 h3 h1h hb1h
  rcases h4.layE (y := y) hxh.out hyh.out hxm hym hl (wev x y b) with ⟨j, w5, he1, he2, ⟨ad5, c5, h5⟩, hb5⟩ | ⟨w5a, w5, he1, he2, he3, ⟨ad5, c5, h5⟩, hb5⟩
  · have k5 : w5.cell? ⟨gb, 1, none⟩ = some (.map (some je)) := h5.cell rfl
    rcases h5.layE hyh.out hxh.out hym hxm hl (wev x y b) with ⟨i, w6, hf1, hf2, ⟨ad6, c6, h6⟩, hb6⟩ | ⟨w6a, w6, hf1, hf2, hf3, ⟨ad6, c6, h6⟩, hb6⟩
    · have hfin := Lib.hid (hb4h.out.trans (hb5.trans hb6))
      have h6h := Lib.hid h6
      unfold wev at he2 hf2
      clear hb5 hb6 h4 h5 h6
      go_wp2_with (go_at_call 204; refine (id_any _ _).mono ?_; rintro e w' ⟨rfl, rfl⟩)
      go_end0
      exact ⟨rfl, ⟨_, _, h6h.out⟩, hfin.out⟩
    · have hfin := Lib.hid (hb4h.out.trans (hb5.trans hb6))
      have h6h := Lib.hid h6
      have hmm := @run_makeMap Tryz.prog
      unfold wev at he2 hf2
      clear hb5 hb6 h4 h5 h6
      go_wp2_with (go_at_call 204; refine (id_any _ _).mono ?_; rintro e w' ⟨rfl, rfl⟩)
      go_end0
      exact ⟨rfl, ⟨_, _, h6h.out⟩, hfin.out⟩
  · have k5 : w5.cell? ⟨gb, 1, none⟩ = some (.map (some je)) := h5.cell rfl
    have hmm := @run_makeMap Tryz.prog
    rcases h5.layE hyh.out hxh.out hym hxm hl (wev x y b) with ⟨i, w6, hf1, hf2, ⟨ad6, c6, h6⟩, hb6⟩ | ⟨w6a, w6, hf1, hf2, hf3, ⟨ad6, c6, h6⟩, hb6⟩
    · have hfin := Lib.hid (hb4h.out.trans (hb5.trans hb6))
      have h6h := Lib.hid h6
      unfold wev at he2 hf2
      clear hb5 hb6 h4 h5 h6
      go_wp2_with (go_at_call 204; refine (id_any _ _).mono ?_; rintro e w' ⟨rfl, rfl⟩)
      go_end0
      exact ⟨rfl, ⟨_, _, h6h.out⟩, hfin.out⟩
    · have hfin := Lib.hid (hb4h.out.trans (hb5.trans hb6))
      have h6h := Lib.hid h6
      unfold wev at he2 hf2
      clear hb5 hb6 h4 h5 h6
      go_wp2_with (go_at_call 204; refine (id_any _ _).mono ?_; rintro e w' ⟨rfl, rfl⟩)
      go_end0
      exact ⟨rfl, ⟨_, _, h6h.out⟩, hfin.out⟩

end Go.Proofs.YtfihclhceakmdaaGreat
