/- FnEqual: what its loop finds, plain; what stays of a world. -/
import Derived.Test.YtaolfdmmadfncaaTable1
import Derived.Test.YtaolfdmmadfncaaTable3
import Derived.Test.YtaolfdmmadfncaaEqRows
import Derived.Test.YtaolfdmmadfncaaIter
namespace Go.Proofs.Ytaolfdmmadfncaa
open Go.RowKit

/-- What the loop has found after k rows. -/
def wantE (a b : Gr) (k : Nat) : Bool := decide (asc a.nodes = asc b.nodes ∧ ∀ j, j < k → (rowsB a).getD j [] = (rowsB b).getD j [])

theorem wantE_zero (a b : Gr) : wantE a b 0 = decide (asc a.nodes = asc b.nodes) := by
  unfold wantE
  exact decide_eq_decide.2 ⟨fun h => h.1, fun h => ⟨h, fun j hj => absurd hj (Nat.not_lt_zero _)⟩⟩

theorem wantE_succ {a b : Gr} {k : Nat} (h : wantE a b k = true) : wantE a b (k + 1) = decide ((rowsB a).getD k [] = (rowsB b).getD k []) := by
  unfold wantE at h ⊢
  have h := of_decide_eq_true h
  refine decide_eq_decide.2 ⟨fun h' => h'.2 k (by omega), fun h' => ⟨h.1, fun j hj => ?_⟩⟩
  by_cases e : j = k
  · subst e; exact h'
  · exact h.2 j (by omega)

theorem wantE_stop {a b : Gr} {k : Nat} (hk : k ≤ (asc a.nodes).length) (h : wantE a b k = false) : wantE a b (asc a.nodes).length = false := by
  unfold wantE at h ⊢
  exact decide_eq_false fun h' => of_decide_eq_false h ⟨h'.1, fun j hj => h'.2 j (by omega)⟩

theorem wantE_all {a b : Gr} (ha : okGraph a = true) (hb : okGraph b = true) : wantE a b (asc a.nodes).length = decide (eqP (asc a.nodes) (outsOf a) (asc b.nodes) (outsOf b)) := by
  unfold wantE
  refine decide_eq_decide.2 ?_
  rw [eqP_iff ha hb]
  unfold sameG
  constructor
  · intro h
    exact ⟨h.1, (table_same ha hb h.1).1 h.2⟩
  · intro h
    exact ⟨h.1, (table_same ha hb h.1).2 h.2⟩

/-- From block lo to block hi nothing has turned. -/
def Out (lo hi : Nat) (w w' : World) : Prop := w.heap.size ≤ w'.heap.size ∧ ∀ j, lo ≤ j → j < hi → w'.heap[j]? = w.heap[j]?
theorem Out.refl (lo hi : Nat) (w : World) : Out lo hi w w := ⟨Nat.le_refl _, fun _ _ _ => rfl⟩
theorem Out.drew {lo hi : Nat} {w w' : World} (h : Out lo hi w w') : Out lo hi w w'.drew := h
theorem Out.alloc {lo hi : Nat} {w w' : World} (h : Out lo hi w w') (o : Obj) (hh : hi ≤ w'.heap.size) : Out lo hi w (w'.alloc o) :=
  ⟨by have := h.1; simp; omega, fun j h1 h2 => by rw [Below.heap_alloc _ _ _ (by omega)]; exact h.2 j h1 h2⟩
theorem Out.setCell {lo hi : Nat} {w w' : World} (h : Out lo hi w w') {b o : Nat} (v : Value) (hh : b < lo ∨ hi ≤ b) : Out lo hi w (w'.setCell ⟨b, o, none⟩ v) :=
  ⟨by rw [size_setCell']; exact h.1, fun j h1 h2 => by
    have hne : j ≠ b := by omega
    rw [Below.heap_setCell _ _ _ _ hne]; exact h.2 j h1 h2⟩
theorem Out.below {lo hi : Nat} {w w' w'' : World} (h : Out lo hi w w') (hb : Below w'.heap.size w' w'') (hh : hi ≤ w'.heap.size) : Out lo hi w w'' :=
  ⟨Nat.le_trans h.1 hb.size, fun j h1 h2 => by rw [hb.block j (by omega)]; exact h.2 j h1 h2⟩
theorem TabAt.out {w w' : World} {lo hi : Nat} {ids : List Int} {nv sa sw : Value} {ta : List (List Bool)} {tw : List (List Int)} (h : TabAt w lo hi ids nv sa sw ta tw) (ho : Out lo hi w w') : TabAt w' lo hi ids nv sa sw ta tw := h.same ho.2 ho.1

/-- What is read of a table: its nodes. -/
theorem TabAt.nodes {w : World} {lo hi : Nat} {ids : List Int} {nv sa sw : Value} {ta : List (List Bool)} {tw : List (List Int)} (h : TabAt w lo hi ids nv sa sw ta tw) : ∃ a1 c1, nv = .slice a1 ids.length c1 ∧ Cells w a1 (ints ids) := by
  obtain ⟨a1, c1, B, sb, gs, hs, rfl, hn, _⟩ := h
  obtain ⟨aa, cc, e', _, hc, _⟩ := owns_cells hn
  injection e' with e1' _ _
  exact ⟨a1, c1, rfl, by rw [e1']; exact hc⟩

/-- What is read of a table: a row of Booleans. -/
theorem TabAt.row {w : World} {lo hi i : Nat} {ids : List Int} {nv sa sw : Value} {ta : List (List Bool)} {tw : List (List Int)} (h : TabAt w lo hi ids nv sa sw ta tw) (hl : ta.length = ids.length) (hi' : i < ids.length) :
    ∃ a0 ca g, sa = .slice (some ⟨a0, 0, none⟩) ids.length ca ∧ w.cell? ⟨a0, i, none⟩ = some (.slice (some ⟨g, 0, none⟩) ids.length ids.length) ∧ Cells w (some ⟨g, 0, none⟩) (bools (ta.getD i [])) ∧ (ta.getD i []).length = ids.length := by
  obtain ⟨a1, c1, B, sb, gs, hs, rfl, hn, T, _⟩ := h
  obtain ⟨a0, ca, g, h1, h2, h3, h4⟩ := T.rowA (i := i) (by omega)
  have e : ta.getD i [] = ta[i]'(by omega) := by
    have : i < ta.length := by omega
    simp [this]
  rw [e]
  refine ⟨a0, ca, g, h1, h2, .mk (lt_of_block h3) (fun j u hj => ?_), h4⟩
  unfold bools at hj
  simp only [List.getElem?_map, Option.map_eq_some_iff] at hj
  obtain ⟨x, hx, rfl⟩ := hj
  have hj' := (List.getElem?_eq_some_iff.1 hx)
  obtain ⟨hjl, hje⟩ := hj'
  have := (row_cell h3 hjl).1
  rw [Nat.zero_add, this, hje]

theorem TabAt.shape {w : World} {lo hi : Nat} {ids : List Int} {nv sa sw : Value} {ta : List (List Bool)} {tw : List (List Int)} (h : TabAt w lo hi ids nv sa sw ta tw) : ∃ a1 c1 a2 c2 a3 c3, nv = .slice a1 ids.length c1 ∧ sa = .slice a2 ids.length c2 ∧ sw = .slice a3 ids.length c3 := by
  obtain ⟨a1, c1, B, sb, gs, hs, rfl, hn, T, _⟩ := h
  obtain ⟨aa, ca, rfl, _⟩ := owns_cells T.oa
  obtain ⟨aw, cw, rfl, _⟩ := owns_cells T.ow
  exact ⟨_, _, _, _, _, _, rfl, rfl, rfl⟩

/-- A table's block as it is made. -/
def zObj : Obj := .cells #[.slice none 0 0, .slice none 0 0, .slice none 0 0] 33
def ZBlk (w : World) (p : Nat) : Prop := SBlock w p (.slice none 0 0) (.slice none 0 0) (.slice none 0 0)
theorem ZBlk.new (w : World) : ZBlk (w.alloc (.cells #[.slice none 0 0, .slice none 0 0, .slice none 0 0] 33)) w.heap.size := heap_alloc_new _ _
theorem ZBlk.sb {w : World} {p : Nat} (h : ZBlk w p) : SBlock w p (.slice none 0 0) (.slice none 0 0) (.slice none 0 0) := h
theorem SBlock.set3z {w : World} {p : Nat} {x y z : Value} (h : ZBlk w p) : SBlock (((w.setCell ⟨p, 0, none⟩ x).setCell ⟨p, 1, none⟩ y).setCell ⟨p, 2, none⟩ z) p x y z := by
  have h1 := heap_set_self (h : w.heap[p]? = _) 0 x
  have h2 := heap_set_self h1 1 y
  have h3 := heap_set_self h2 2 z
  exact h3.trans rfl
theorem ZBlk.alloc {w : World} {p : Nat} (h : ZBlk w p) (o : Obj) : ZBlk (w.alloc o) p := (Below.heap_alloc _ _ _ (lt_of_block h)).trans h
theorem ZBlk.drew {w : World} {p : Nat} (h : ZBlk w p) : ZBlk w.drew p := h
theorem ZBlk.other {w : World} {p q o : Nat} {v : Value} (h : ZBlk w p) (hn : p ≠ q) : ZBlk (w.setCell ⟨q, o, none⟩ v) p := (Below.heap_setCell w ⟨q, o, none⟩ v p hn).trans h
theorem SBlock.new (w : World) (x y z : Value) : SBlock (w.alloc (.cells #[x, y, z] 33)) w.heap.size x y z := heap_alloc_new _ _
theorem SBlock.new1 (w : World) (o : Obj) (x y z : Value) : SBlock ((w.alloc o).alloc (.cells #[x, y, z] 33)) (w.heap.size + 1) x y z := by
  have := SBlock.new (w.alloc o) x y z
  rwa [show (w.alloc o).heap.size = w.heap.size + 1 by simp] at this
theorem below_set {B b o : Nat} {w w' : World} {v : Value} (h : Below B w w') (hb : B ≤ b) : Below B w (w'.setCell ⟨b, o, none⟩ v) := h.setCell hb v
theorem SBlock.lt {w : World} {p : Nat} {x y z : Value} (h : SBlock w p x y z) : p < w.heap.size := lt_of_block h
theorem SBlock.alloc {w : World} {p : Nat} {x y z : Value} (h : SBlock w p x y z) (o : Obj) : SBlock (w.alloc o) p x y z := (Below.heap_alloc _ _ _ h.lt).trans h
theorem SBlock.drew {w : World} {p : Nat} {x y z : Value} (h : SBlock w p x y z) : SBlock w.drew p x y z := h
theorem SBlock.below {w w' : World} {p : Nat} {x y z : Value} (h : SBlock w p x y z) (hb : Below w.heap.size w w') : SBlock w' p x y z := (hb.block p h.lt).trans h
theorem SBlock.other {w : World} {p q o : Nat} {x y z v : Value} (h : SBlock w p x y z) (hn : p ≠ q) : SBlock (w.setCell ⟨q, o, none⟩ v) p x y z := (Below.heap_setCell w ⟨q, o, none⟩ v p hn).trans h
theorem SBlock.set3 {w : World} {p : Nat} {a b c x y z : Value} (h : SBlock w p a b c) : SBlock (((w.setCell ⟨p, 0, none⟩ x).setCell ⟨p, 1, none⟩ y).setCell ⟨p, 2, none⟩ z) p x y z := by
  have h1 := heap_set_self h 0 x
  have h2 := heap_set_self h1 1 y
  have h3 := heap_set_self h2 2 z
  exact h3.trans rfl
theorem free_alloc {w : World} {p : Addr} {v : Value} (h : w.cell? p = some v) (hf : w.frozen? p = false) (o : Obj) : (w.alloc o).frozen? p = false := free_below (alloc_below w o) h hf
/-- What stores into such a block need. -/
theorem ZBlk.facts {w : World} {p : Nat} (h : ZBlk w p) :
    (w.cell? ⟨p, 0, none⟩ = some (.slice none 0 0) ∧ w.cell? ⟨p, 1, none⟩ = some (.slice none 0 0) ∧ w.cell? ⟨p, 2, none⟩ = some (.slice none 0 0)) ∧ (∀ j, w.frozen? ⟨p, j, none⟩ = false) ∧
    (∀ o, (w.alloc o).cell? ⟨p, 0, none⟩ = some (.slice none 0 0) ∧ (w.alloc o).cell? ⟨p, 1, none⟩ = some (.slice none 0 0) ∧ (w.alloc o).cell? ⟨p, 2, none⟩ = some (.slice none 0 0)) ∧ (∀ o j, (w.alloc o).frozen? ⟨p, j, none⟩ = false) := by
  have h0 : ∀ {W : World}, ZBlk W p → W.cell? ⟨p, 0, none⟩ = some (.slice none 0 0) := fun {W} h => by unfold ZBlk SBlock at h; simp [World.cell?, h]
  refine ⟨⟨h0 h, SBlock.c1 h, SBlock.c2 h⟩, SBlock.free h, fun o => ⟨h0 (SBlock.alloc h o), SBlock.c1 (SBlock.alloc h o), SBlock.c2 (SBlock.alloc h o)⟩, fun o j => SBlock.free (SBlock.alloc h o) j⟩

theorem eqP_self (ids : List Int) (outs : List (List Arc)) : decide (eqP ids outs ids outs) = true := decide_eq_true ⟨rfl, fun _ _ => rfl⟩

theorem wantE_true {a b : Gr} {k : Nat} (h : wantE a b k = true) : asc a.nodes = asc b.nodes := by
  unfold wantE at h; exact (of_decide_eq_true h).1

theorem rowsB_length {g : Gr} (h : okGraph g = true) : (rowsB g).length = (asc g.nodes).length := (graph_table h).s1.1
end Go.Proofs.Ytaolfdmmadfncaa
