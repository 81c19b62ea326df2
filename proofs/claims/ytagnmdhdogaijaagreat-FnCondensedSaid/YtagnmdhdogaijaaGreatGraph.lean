/- A graph as the statements have it: nodes, edges with weights; how it lies in memory; when it is not bad. -/
import Derived.Test.YtagnmdhdogaijaaGreatSorting
namespace Go.Proofs.YtagnmdhdogaijaaGreat
open Go.RowKit

structure Gr where
  dir : Bool
  nodes : List Int
  edges : List (Int × Int × Int)

def edgeCells (es : List (Int × Int × Int)) : List Value := es.flatMap fun e => [.int .i64 e.1, .int .i64 e.2.1, .int .i64 e.2.2]

theorem edgeCells_length (es : List (Int × Int × Int)) : (edgeCells es).length = es.length * 3 := by
  induction es with
  | nil => rfl
  | cons e es ih => simp only [edgeCells, List.flatMap_cons, List.length_append, List.length_cons, List.length_nil] at *; omega

theorem edgeCells_get (es : List (Int × Int × Int)) (j : Nat) (hj : j < es.length) :
    (edgeCells es)[j * 3]? = some (.int .i64 es[j].1) ∧ (edgeCells es)[j * 3 + 1]? = some (.int .i64 es[j].2.1) ∧ (edgeCells es)[j * 3 + 2]? = some (.int .i64 es[j].2.2) := by
  induction es generalizing j with
  | nil => simp at hj
  | cons e es ih =>
    cases j with
    | zero => simp [edgeCells]
    | succ j =>
      have := ih j (by simpa using hj)
      have e3 : ∀ r, (edgeCells (e :: es))[(j + 1) * 3 + r]? = (edgeCells es)[j * 3 + r]? := fun r => by
        show (([.int .i64 e.1, .int .i64 e.2.1, .int .i64 e.2.2] : List Value) ++ edgeCells es)[(j + 1) * 3 + r]? = _
        rw [List.getElem?_append_right (by simp; omega)]
        congr 1
        simp; omega
      have e0 := e3 0
      have e1 := e3 1
      have e2 := e3 2
      simp only [Nat.add_zero] at e0
      rw [e0, e1, e2]
      simpa using this

/-- An edge that is not bad. -/
def okEdge (nodes : List Int) (e : Int × Int × Int) : Bool := decide (e.1 ≠ e.2.1 ∧ e.1 ∈ nodes ∧ e.2.1 ∈ nodes ∧ e.2.2 ≤ 1099511627776 ∧ -1099511627776 ≤ e.2.2)
/-- A graph that is not bad. -/
def okGraph (g : Gr) : Bool := decide g.nodes.Nodup && g.edges.all (okEdge g.nodes)

/-- The graph's slices in memory. -/
structure GrAt (w : World) (g : Gr) (an : Option Addr) (cn : Nat) (ae : Option Addr) : Prop where
  nodes : Cells w an (ints g.nodes)
  edges : Cells w ae (edgeCells g.edges)
  none : an = none → cn = 0

theorem GrAt.below {w w' : World} {g : Gr} {an ae : Option Addr} {cn : Nat} (h : GrAt w g an cn ae) (hb : Below w.heap.size w w') : GrAt w' g an cn ae :=
  ⟨h.nodes.below hb, h.edges.below hb, h.none⟩

/-- The value of a graph. -/
def grv (g : Gr) (an : Option Addr) (cn : Nat) (ae : Option Addr) (ce : Nat) : Value := .agg #[.bool g.dir, .slice an g.nodes.length cn, .slice ae g.edges.length ce]

theorem edge_cells {w : World} {b off : Nat} {es : List (Int × Int × Int)} (h : w.rangeAt b off (edgeCells es)) {j : Nat} (hj : j < es.length) :
    w.cell? ⟨b, off + j * 3, none⟩ = some (.int .i64 es[j].1) ∧ w.cell? ⟨b, off + j * 3 + 1, none⟩ = some (.int .i64 es[j].2.1) ∧ w.cell? ⟨b, off + j * 3 + 2, none⟩ = some (.int .i64 es[j].2.2) := by
  obtain ⟨h1, h2, h3⟩ := edgeCells_get es j hj
  exact ⟨h _ _ h1, by rw [Nat.add_assoc]; exact h _ _ h2, by rw [Nat.add_assoc]; exact h _ _ h3⟩

theorem okGraph_false {g : Gr} {k : Nat} (hk : k < g.edges.length) (h : okEdge g.nodes g.edges[k] = false) : okGraph g = false := by
  have : g.edges.all (okEdge g.nodes) = false := List.all_eq_false.2 ⟨_, List.getElem_mem hk, by simp [h]⟩
  simp [okGraph, this]

/-- Whether an edge leads from u to v (in an undirected graph also the other way round). -/
def hits (dir : Bool) (u v : Int) (e : Int × Int × Int) : Prop := (e.1 = u ∧ e.2.1 = v) ∨ (dir = false ∧ e.1 = v ∧ e.2.1 = u)
instance (dir : Bool) (u v : Int) (e : Int × Int × Int) : Decidable (hits dir u v e) := by unfold hits; exact inferInstance
/-- Whether there is an edge from u to v. -/
def arcB (g : Gr) (u v : Int) : Bool := g.edges.any fun e => decide (hits g.dir u v e)

theorem arcB_true {g : Gr} {u v : Int} {k : Nat} (hk : k < g.edges.length) (h : hits g.dir u v g.edges[k]) : arcB g u v = true :=
  List.any_eq_true.2 ⟨_, List.getElem_mem hk, decide_eq_true h⟩
theorem arcB_false {g : Gr} {u v : Int} (h : ∀ k (hk : k < g.edges.length), ¬ hits g.dir u v g.edges[k]) : arcB g u v = false :=
  List.any_eq_false.2 fun e he => by
    obtain ⟨j, hj, rfl⟩ := List.mem_iff_getElem.1 he
    simpa using h j hj
end Go.Proofs.YtagnmdhdogaijaaGreat
