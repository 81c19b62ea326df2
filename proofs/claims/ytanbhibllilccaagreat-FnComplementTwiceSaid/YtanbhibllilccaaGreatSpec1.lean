/- The definitions (spec): indexOf, barredTo, Weight, Joined, Nodes, From.
   The definitions (spec): From, Open; two rows of numbers that grow.
   The definitions (spec): Open. -/
import Derived.Test.YtanbhibllilccaaGreatSpec0
import Derived.Test.YtanbhibllilccaaGreatBase
import Derived.Deep.RegionLaw
import Derived.Deep.AppendLies
namespace Go.Proofs.YtanbhibllilccaaGreat
open Go.RowKit

/-- Whether an edge is among those that are barred. -/
def barB (dir : Bool) (barred : List (Int × Int × Int)) (u v : Int) : Bool := barred.any fun e => decide (hits dir u v e)

def WeightPost (w : World) (g : Gr) (u v : Int) (e : Ending) (w' : World) : Prop := ∃ x : Int, e = .returned (.tuple #[.int .i64 x, .bool (arcB g u v)]) ∧ Below w.heap.size w w'

end Go.Proofs.YtanbhibllilccaaGreat

namespace Go.Proofs.YtanbhibllilccaaGreat
open Go.RowKit

/-- The nodes to which edges lead. -/
def sFrom (g : Gr) (u : Int) : List Int := (asc g.nodes).filter fun v => arcB g u v

def FromSPost (w : World) (l : List Int) (e : Ending) (w' : World) : Prop := ∃ (a : Option Addr) (c : Nat), e = .returned (.slice a l.length c) ∧ w'.ownsRow w.heap.size 3 1 (.slice a l.length c) l.length (ints l) ∧ Below w.heap.size w w'

end Go.Proofs.YtanbhibllilccaaGreat

namespace Go.Proofs.YtanbhibllilccaaGreat
open Go.RowKit

theorem einfo : (Tryz.prog.info? 55).map (fun i => (i.zero, i.size, i.bytes)) = some (some (.agg #[.int .i64 0, .int .i64 0, .int .i64 0]), 3, 24) := by kernel_rfl
theorem enew (w : World) (x y z : Value) (e : TypeId) : ∀ (j : Nat) u, [x, y, z][j]? = some u → (w.alloc (.cells #[x, y, z] e)).cell? ((⟨w.heap.size, 0, none⟩ : Addr).add j) = some u := by
  intro j u hj
  rw [Addr.add_mid, Nat.zero_add]
  rcases j with _ | _ | _ | j
  · simp at hj; subst hj; unfold World.cell?; rw [heap_alloc_new]; rfl
  · simp at hj; subst hj; unfold World.cell?; rw [heap_alloc_new]; rfl
  · simp at hj; subst hj; unfold World.cell?; rw [heap_alloc_new]; rfl
  · simp at hj
theorem eone (x y z : Int) : ∀ u ∈ [Value.int .i64 x, Value.int .i64 y, Value.int .i64 z], u.oneCell' = true := by
  intro u hu
  simp at hu
  rcases hu with rfl | rfl | rfl <;> rfl

/-- The edges that are not barred. -/
def openEs (g : Gr) (barred : List (Int × Int × Int)) (l : List (Int × Int × Int)) : List (Int × Int × Int) := l.filter fun e => !barB g.dir barred e.1 e.2.1
/-- The graph without the edges that are barred. -/
def openG (g : Gr) (barred : List (Int × Int × Int)) : Gr := ⟨g.dir, g.nodes, openEs g barred g.edges⟩

/-- What Open gives. -/
def OpenSPost (w : World) (g : Gr) (barred : List (Int × Int × Int)) (an : Option Addr) (cn : Nat) (e : Ending) (w' : World) : Prop :=
  ∃ (ae : Option Addr) (ce : Nat), e = .returned (.agg #[.bool g.dir, .slice an g.nodes.length cn, .slice ae (openG g barred).edges.length ce]) ∧ GrAt w' (openG g barred) an cn ae ∧ Below w.heap.size w w'

/-- The graph in the making: block ob. -/
structure OG (w0 w : World) (ob : Nat) (dir : Bool) (vn : Value) (es : List (Int × Int × Int)) (v : Value) : Prop where
  blk : w.heap[ob]? = some (.cells #[.bool dir, vn, v] 25 (0, 0))
  e : w.ownsRow (ob + 1) 55 3 v es.length (edgeCells es)
  below : Below ob w0 w

section
variable {w0 w w1 : World} {ob n c c1 : Nat} {dir : Bool} {vn : Value} {es : List (Int × Int × Int)} {b b1 : Option Addr} {o : Obj}

theorem OG.at2 {v : Value} (h : OG w0 w ob dir vn es v) : w.cell? ⟨ob, 2, none⟩ = some v := by have := h.blk; simp [World.cell?, this]
theorem OG.keep {v : Value} (h : OG w0 w ob dir vn es v) (hb : Below w.heap.size w w1) : OG w0 w1 ob dir vn es v :=
  ⟨(hb.block ob (lt_of_block h.blk)).trans h.blk, owns_same h.e fun j hj => hb.block j (h.e.lt j hj).2, h.below.trans (hb.mono (by have := lt_of_block h.blk; omega))⟩

theorem OG.add {x : Int × Int × Int} (h : OG w0 w ob dir vn es (.slice b n c)) (hn : n = es.length) (hg : (w.alloc o).grownBy w1 (Value.slice b n c).ownBlock)
    (ho : w1.ownsRow (ob + 1) 55 3 (.slice b1 (n + 1) c1) (n + 1) (edgeCells es ++ [.int .i64 x.1, .int .i64 x.2.1, .int .i64 x.2.2])) :
    w1.cell? ⟨ob, 2, none⟩ = some (.slice b n c) ∧ w1.frozen? ⟨ob, 2, none⟩ = false ∧ Hid (OG w0 (w1.setCell ⟨ob, 2, none⟩ (.slice b1 (n + 1) c1)) ob dir vn (es ++ [x]) (.slice b1 (n + 1) c1)) := by
  subst hn
  have hz : (w.alloc o).heap.size = w.heap.size + 1 := by simp
  have hbl := lt_of_block h.blk
  have hk : ∀ j, j < w.heap.size → (Value.slice b es.length c).ownBlock ≠ some j → w1.heap[j]? = w.heap[j]? := fun j hj hn => by
    rw [hg.block j (by omega) (fun e => hn e.symm), Below.heap_alloc _ _ _ hj]
  have hb1 := (hk ob hbl fun e => by have := (h.e.lt ob e).1; omega).trans h.blk
  have hset : ∀ j, j ≠ ob → (w1.setCell ⟨ob, 2, none⟩ (.slice b1 (es.length + 1) c1)).heap[j]? = w1.heap[j]? := fun j hj => Below.heap_setCell _ _ _ _ hj
  refine ⟨by simp [World.cell?, hb1], by simp [World.frozen?, hb1], (heap_set_self hb1 2 _).trans rfl, ?_, ?_⟩
  · have e1 : (es ++ [x]).length = es.length + 1 := by simp
    have e2 : edgeCells (es ++ [x]) = edgeCells es ++ [.int .i64 x.1, .int .i64 x.2.1, .int .i64 x.2.2] := by simp [edgeCells]
    rw [e1, e2]
    exact owns_same ho fun j hj => hset j (by have := (ho.lt j hj).1; omega)
  · have hb : Below ob w0 w1 := (h.below.alloc (by omega) o).grown hg (by simp; omega) (fun j e => by have := (h.e.lt j e).1; omega)
    exact hb.setCell (by show ob ≤ ob; omega) _
end

theorem ebox3 {w : World} {q : Nat} {a b c : Value} {ty : TypeId} (h : w.heap[q]? = some (.cells #[a, b, c] ty (0, 0))) (u v z : Value) :
    w.cell? ⟨q, 0, none⟩ = some a ∧ w.frozen? ⟨q, 0, none⟩ = false ∧ (w.setCell ⟨q, 0, none⟩ u).cell? ⟨q, 1, none⟩ = some b ∧ (w.setCell ⟨q, 0, none⟩ u).frozen? ⟨q, 1, none⟩ = false ∧
    ((w.setCell ⟨q, 0, none⟩ u).setCell ⟨q, 1, none⟩ v).cell? ⟨q, 2, none⟩ = some c ∧ ((w.setCell ⟨q, 0, none⟩ u).setCell ⟨q, 1, none⟩ v).frozen? ⟨q, 2, none⟩ = false ∧
    (((w.setCell ⟨q, 0, none⟩ u).setCell ⟨q, 1, none⟩ v).setCell ⟨q, 2, none⟩ z).cell? ⟨q, 0, none⟩ = some u ∧ (((w.setCell ⟨q, 0, none⟩ u).setCell ⟨q, 1, none⟩ v).setCell ⟨q, 2, none⟩ z).cell? ⟨q, 1, none⟩ = some v ∧
    (((w.setCell ⟨q, 0, none⟩ u).setCell ⟨q, 1, none⟩ v).setCell ⟨q, 2, none⟩ z).cell? ⟨q, 2, none⟩ = some z := by
  have h1 : (w.setCell ⟨q, 0, none⟩ u).heap[q]? = some (.cells #[u, b, c] ty (0, 0)) := (heap_set_self h 0 _).trans rfl
  have h2 : ((w.setCell ⟨q, 0, none⟩ u).setCell ⟨q, 1, none⟩ v).heap[q]? = some (.cells #[u, v, c] ty (0, 0)) := (heap_set_self h1 1 _).trans rfl
  have h3 : (((w.setCell ⟨q, 0, none⟩ u).setCell ⟨q, 1, none⟩ v).setCell ⟨q, 2, none⟩ z).heap[q]? = some (.cells #[u, v, z] ty (0, 0)) := (heap_set_self h2 2 _).trans rfl
  refine ⟨by simp [World.cell?, h], by simp [World.frozen?, h], by simp [World.cell?, h1], by simp [World.frozen?, h1], by simp [World.cell?, h2], by simp [World.frozen?, h2], by simp [World.cell?, h3], by simp [World.cell?, h3], by simp [World.cell?, h3]⟩

end Go.Proofs.YtanbhibllilccaaGreat
