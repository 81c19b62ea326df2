/- laws.FnCondensed: the graph of the components while it is made. -/
import Derived.Test.YtagnmdhdogaijaaGreatCondLaw
namespace Go.Proofs.YtagnmdhdogaijaaGreat
open Go.RowKit

theorem info_edge : (Tryz.prog.info? 34).map (fun i => (i.zero, i.size, i.bytes)) = some (some (.agg #[.int .i64 0, .int .i64 0, .int .i64 0]), 3, 24) := by kernel_rfl
theorem new_three (w : World) (x y z : Value) (e : TypeId) : ∀ (j : Nat) u, [x, y, z][j]? = some u → (w.alloc (.cells #[x, y, z] e)).cell? ((⟨w.heap.size, 0, none⟩ : Addr).add j) = some u := by
  intro j u hj
  rw [Addr.add_mid, Nat.zero_add]
  rcases j with _ | _ | _ | j
  · simp at hj; subst hj; unfold World.cell?; rw [heap_alloc_new]; rfl
  · simp at hj; subst hj; unfold World.cell?; rw [heap_alloc_new]; rfl
  · simp at hj; subst hj; unfold World.cell?; rw [heap_alloc_new]; rfl
  · simp at hj
theorem one_edge (x y z : Int) : ∀ u ∈ [Value.int .i64 x, Value.int .i64 y, Value.int .i64 z], u.oneCell' = true := by
  intro u hu
  simp at hu
  rcases hu with rfl | rfl | rfl <;> rfl

theorem fresh_slot {b b1 : Option Addr} {n m c c1 s j : Nat} (hat : b1 = b ∨ b1 = some ⟨s, 0, none⟩) (hj : (Value.slice b1 m c1).ownBlock = some j) : (Value.slice b n c).ownBlock = some j ∨ j = s := by
  rcases hat with rfl | rfl
  · left; cases b1 <;> exact hj
  · right
    simp only [Value.ownBlock] at hj
    injection hj with hj
    exact hj.symm

/-- The graph in block hb, its slices above it. -/
structure HG (w0 w : World) (hb : Nat) (ns : List Int) (es : List (Int × Int × Int)) (v1 v2 : Value) : Prop where
  blk : w.heap[hb]? = some (.cells #[.bool true, v1, v2] 25 (0, 0))
  n : w.ownsRow (hb + 1) 3 1 v1 ns.length (ints ns)
  e : w.ownsRow (hb + 1) 34 3 v2 es.length (edgeCells es)
  ap : ∀ j, v1.ownBlock = some j → v2.ownBlock ≠ some j
  below : Below hb w0 w

section
variable {w0 w w1 : World} {hb n c c1 : Nat} {ns : List Int} {es : List (Int × Int × Int)} {b b1 : Option Addr} {o : Obj}

theorem HG.at0 {v1 v2 : Value} (h : HG w0 w hb ns es v1 v2) : w.cell? ⟨hb, 0, none⟩ = some (.bool true) := by have := h.blk; simp [World.cell?, this]
theorem HG.at1 {v1 v2 : Value} (h : HG w0 w hb ns es v1 v2) : w.cell? ⟨hb, 1, none⟩ = some v1 := by have := h.blk; simp [World.cell?, this]
theorem HG.at2 {v1 v2 : Value} (h : HG w0 w hb ns es v1 v2) : w.cell? ⟨hb, 2, none⟩ = some v2 := by have := h.blk; simp [World.cell?, this]

theorem HG.draw {v1 v2 : Value} (h : HG w0 w hb ns es v1 v2) (q : Nat) : HG w0 (w.drewN q) hb ns es v1 v2 :=
  ⟨h.blk, owns_same h.n fun _ _ => rfl, owns_same h.e fun _ _ => rfl, h.ap, h.below.trans ((drewN_below w q).mono (by have := lt_of_block h.blk; omega))⟩

theorem HG.node {v2 : Value} {x : Int} (h : HG w0 w hb ns es (.slice b n c) v2) (hn : n = ns.length) (hg : (w.alloc o).grownBy w1 (Value.slice b n c).ownBlock)
    (ho : w1.ownsRow (hb + 1) 3 1 (.slice b1 (n + 1) c1) (n + 1) (ints ns ++ [.int .i64 x])) (hat : b1 = b ∨ b1 = some ⟨(w.alloc o).heap.size, 0, none⟩) :
    w1.cell? ⟨hb, 1, none⟩ = some (.slice b n c) ∧ w1.frozen? ⟨hb, 1, none⟩ = false ∧ Hid (HG w0 (w1.setCell ⟨hb, 1, none⟩ (.slice b1 (n + 1) c1)) hb (ns ++ [x]) es (.slice b1 (n + 1) c1) v2) := by
  subst hn
  have hz : (w.alloc o).heap.size = w.heap.size + 1 := by simp
  have hk : ∀ j, j < w.heap.size → (Value.slice b ns.length c).ownBlock ≠ some j → w1.heap[j]? = w.heap[j]? := fun j hj hn => by
    rw [hg.block j (by omega) (fun e => hn e.symm), Below.heap_alloc _ _ _ hj]
  have hsz := hg.size
  have hbl := lt_of_block h.blk
  have hb1 := (hk hb hbl fun e => by have := (h.n.lt hb e).1; omega).trans h.blk
  have hset : ∀ j, j ≠ hb → (w1.setCell ⟨hb, 1, none⟩ (.slice b1 (ns.length + 1) c1)).heap[j]? = w1.heap[j]? := fun j hj => Below.heap_setCell _ _ _ _ hj
  refine ⟨by simp [World.cell?, hb1], by simp [World.frozen?, hb1], (heap_set_self hb1 1 _).trans rfl, ?_, ?_, fun j hj e => ?_, ?_⟩
  · have e1 : (ns ++ [x]).length = ns.length + 1 := by simp
    have e2 : ints (ns ++ [x]) = ints ns ++ [.int .i64 x] := by simp [ints]
    rw [e1, e2]
    exact owns_same ho fun j hj => hset j (by have := (ho.lt j hj).1; omega)
  · refine owns_same h.e fun j hj => ?_
    have := h.e.lt j hj
    rw [hset j (by omega), hk j this.2 fun e => h.ap j e hj]
  · rcases fresh_slot (n := ns.length) (c := c) hat hj with e' | e'
    · exact h.ap j e' e
    · have := (h.e.lt j e).2; omega
  · have hb0 := h.below
    refine Below.setCell ⟨(hg.os.trans rfl).trans hb0.os, (hg.tape.trans rfl).trans hb0.tape, (hg.output.trans rfl).trans hb0.output, by have := hb0.size; omega, fun j hj => ?_⟩ (by simp) _
    rw [hk j (by omega) (fun e => by have := (h.n.lt j e).1; omega), hb0.block j hj]

/-- The same, whatever is known of where the row lies. -/
theorem HG.edgeL {v1 : Value} {x : Int × Int × Int} (h : HG w0 w hb ns es v1 (.slice b n c)) (hn : n = es.length) (hg : (w.alloc o).grownBy w1 (Value.slice b n c).ownBlock)
    (ho : w1.ownsRow (hb + 1) 34 3 (.slice b1 (n + 1) c1) (n + 1) (edgeCells es ++ [.int .i64 x.1, .int .i64 x.2.1, .int .i64 x.2.2])) (hat : ∀ j, (Value.slice b1 (n + 1) c1).ownBlock = some j → (Value.slice b n c).ownBlock = some j ∨ j = (w.alloc o).heap.size) :
    w1.cell? ⟨hb, 2, none⟩ = some (.slice b n c) ∧ w1.frozen? ⟨hb, 2, none⟩ = false ∧ Hid (HG w0 (w1.setCell ⟨hb, 2, none⟩ (.slice b1 (n + 1) c1)) hb ns (es ++ [x]) v1 (.slice b1 (n + 1) c1)) := by
  subst hn
  have hz : (w.alloc o).heap.size = w.heap.size + 1 := by simp
  have hk : ∀ j, j < w.heap.size → (Value.slice b es.length c).ownBlock ≠ some j → w1.heap[j]? = w.heap[j]? := fun j hj hn => by
    rw [hg.block j (by omega) (fun e => hn e.symm), Below.heap_alloc _ _ _ hj]
  have hsz := hg.size
  have hbl := lt_of_block h.blk
  have hb1 := (hk hb hbl fun e => by have := (h.e.lt hb e).1; omega).trans h.blk
  have hset : ∀ j, j ≠ hb → (w1.setCell ⟨hb, 2, none⟩ (.slice b1 (es.length + 1) c1)).heap[j]? = w1.heap[j]? := fun j hj => Below.heap_setCell _ _ _ _ hj
  refine ⟨by simp [World.cell?, hb1], by simp [World.frozen?, hb1], (heap_set_self hb1 2 _).trans rfl, ?_, ?_, fun j hj e => ?_, ?_⟩
  · refine owns_same h.n fun j hj => ?_
    have := h.n.lt j hj
    rw [hset j (by omega), hk j this.2 fun e => h.ap j hj e]
  · have e1 : (es ++ [x]).length = es.length + 1 := by simp
    have e2 : edgeCells (es ++ [x]) = edgeCells es ++ [.int .i64 x.1, .int .i64 x.2.1, .int .i64 x.2.2] := by simp [edgeCells]
    rw [e1, e2]
    exact owns_same ho fun j hj => hset j (by have := (ho.lt j hj).1; omega)
  · rcases hat j e with e' | e'
    · exact h.ap j hj e'
    · have := (h.n.lt j hj).2; omega
  · have hb0 := h.below
    refine Below.setCell ⟨(hg.os.trans rfl).trans hb0.os, (hg.tape.trans rfl).trans hb0.tape, (hg.output.trans rfl).trans hb0.output, by have := hb0.size; omega, fun j hj => ?_⟩ (by simp) _
    rw [hk j (by omega) (fun e => by have := (h.e.lt j e).1; omega), hb0.block j hj]

theorem HG.edge {v1 : Value} {x : Int × Int × Int} (h : HG w0 w hb ns es v1 (.slice b n c)) (hn : n = es.length) (hg : (w.alloc o).grownBy w1 (Value.slice b n c).ownBlock)
    (ho : w1.ownsRow (hb + 1) 34 3 (.slice b1 (n + 1) c1) (n + 1) (edgeCells es ++ [.int .i64 x.1, .int .i64 x.2.1, .int .i64 x.2.2])) (hat : b1 = b ∨ b1 = some ⟨(w.alloc o).heap.size, 0, none⟩) :
    w1.cell? ⟨hb, 2, none⟩ = some (.slice b n c) ∧ w1.frozen? ⟨hb, 2, none⟩ = false ∧ Hid (HG w0 (w1.setCell ⟨hb, 2, none⟩ (.slice b1 (n + 1) c1)) hb ns (es ++ [x]) v1 (.slice b1 (n + 1) c1)) :=
  h.edgeL hn hg ho fun _ e => fresh_slot (n := n) (c := c) hat e

theorem HG.shape {v1 v2 : Value} (h : HG w0 w hb ns es v1 v2) : ∃ a1 c1 a2 c2, v1 = .slice a1 ns.length c1 ∧ v2 = .slice a2 es.length c2 ∧ GrAt w ⟨true, ns, es⟩ a1 c1 a2 := by
  obtain ⟨a1, c1, e1, _, h1, _⟩ := owns_cells h.n
  obtain ⟨a2, c2, e2, _, h2, _⟩ := owns_cells h.e
  refine ⟨a1, c1, a2, c2, e1, e2, h1, h2, fun e => ?_⟩
  subst e
  obtain ⟨_, h3 | ⟨g, cap, cur, hv, _⟩⟩ := h.n
  · rw [e1] at h3
    injection h3.1
  · rw [e1] at hv
    injection hv with hv
    cases hv
end

theorem condNodes_succ (n : Nat) : condNodes (n + 1) = condNodes n ++ [(n : Int)] := by
  unfold condNodes
  rw [List.range_succ, List.map_append]; rfl
theorem condEdges_succ (L : List (List Int)) {es : List (Int × Int × Int)} {k : Nat} (hk : k < es.length) :
    condEdges L (es.take (k + 1)) = condEdges L (es.take k) ++ (if compAt L es[k].1 = compAt L es[k].2.1 then [] else [(compAt L es[k].1, compAt L es[k].2.1, 0)]) := by
  unfold condEdges
  rw [List.take_succ_eq_append_getElem hk, List.filterMap_append]
  congr 1
  split <;> simp_all
theorem compUp_succ (L : List (List Int)) (x : Int) {i : Nat} (hi : i < L.length) : compUp L x (i + 1) = if decide (x ∈ L[i]) then (i : Int) else compUp L x i := by
  conv => lhs; unfold compUp
  have e : L.getD i [] = L[i] := by simp [hi]
  rw [e]
  by_cases h : x ∈ L[i] <;> simp [h]
theorem condEdges_le (L : List (List Int)) (es : List (Int × Int × Int)) : (condEdges L es).length ≤ es.length := List.length_filterMap_le _ _

theorem HG.keep {w0 w w1 : World} {hb : Nat} {ns : List Int} {es : List (Int × Int × Int)} {v1 v2 : Value} (h : HG w0 w hb ns es v1 v2) (hb1 : Below w.heap.size w w1) : HG w0 w1 hb ns es v1 v2 := by
  have hl := lt_of_block h.blk
  exact ⟨(hb1.block hb hl).trans h.blk, owns_same h.n fun j hj => hb1.block j (h.n.lt j hj).2, owns_same h.e fun j hj => hb1.block j (h.e.lt j hj).2, h.ap, h.below.trans (hb1.mono (by omega))⟩

theorem HG.start (w : World) : HG w (w.alloc (.cells #[.bool true, .slice none 0 0, .slice none 0 0] 25)) w.heap.size (condNodes 0) [] (.slice none 0 0) (.slice none 0 0) :=
  ⟨heap_alloc_new _ _, World.ownsRow_nil _ _ _ _, World.ownsRow_nil _ _ _ _, fun j hj => by simp [Value.ownBlock] at hj, alloc_below _ _⟩

theorem cond_in64 {n : Nat} (hn : n ≤ 1000) : ∀ x ∈ condNodes n, In64 x := fun x hx => by
  obtain ⟨k, hk, rfl⟩ := condNodes_mem.1 hx
  show (decide (IntKind.i64.min ≤ (k : Int)) && decide ((k : Int) ≤ IntKind.i64.max)) = true
  have h1 : IntKind.i64.min = -9223372036854775808 := by decide
  have h2 : IntKind.i64.max = 9223372036854775807 := by decide
  rw [h1, h2, Bool.and_eq_true]
  exact ⟨decide_eq_true (by omega), decide_eq_true (by omega)⟩

end Go.Proofs.YtagnmdhdogaijaaGreat
