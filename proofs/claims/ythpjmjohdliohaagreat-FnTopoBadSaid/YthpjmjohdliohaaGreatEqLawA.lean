/- The queue of nodes: Enqueue, Dequeue.
   The queue of nodes: Dequeue.
   What stays of the queue, the set, the iterator.
   BreadthFirst.Walk as PathExistsIn calls it.
   BreadthFirst.Walk as PathExistsIn calls it, over an undirected graph.
   impl.from with one node.
   topo.PathExistsIn, impl.from, impl.PathExistsIn.
   The plain law of FnPathStep: no walk.
   The plain law of FnEqual: what topo.Equal compares, in the words of the graphs. -/
import Derived.Test.YthpjmjohdliohaaGreatOpenA
import Derived.Test.YthpjmjohdliohaaGreatInsert
import Derived.Test.YthpjmjohdliohaaGreatBase
import Derived.BigRegion
import Derived.Test.YthpjmjohdliohaaGreatTabsS
import Derived.Deep.LoopGhost
import Derived.WalkSpells
import Derived.Test.YthpjmjohdliohaaGreatLay
namespace Go.Proofs.YthpjmjohdliohaaGreat
open Go.RowKit

/-- The block of the queue's row. -/
def qblk (w : World) (tb : Nat) : Option Nat := (w.cell? ⟨tb, 3, none⟩).bind Value.ownBlock

/-- What a call of the queue leaves alone: all old blocks but the queue's own two; its row lies where it lay, or in a new block. -/
structure Touch (tb : Nat) (w w' : World) : Prop where
  os : w'.os = w.os
  tape : w'.tape = w.tape
  output : w'.output = w.output
  size : w.heap.size ≤ w'.heap.size
  block : ∀ k, k < w.heap.size → k ≠ tb → some k ≠ qblk w tb → w'.heap[k]? = w.heap[k]?
  row : ∀ k, qblk w' tb = some k → qblk w tb = some k ∨ w.heap.size ≤ k

theorem Touch.trans {tb : Nat} {a b c : World} (p : Touch tb a b) (q : Touch tb b c) : Touch tb a c where
  os := q.os.trans p.os
  tape := q.tape.trans p.tape
  output := q.output.trans p.output
  size := Nat.le_trans p.size q.size
  block := fun k hk h1 h2 => (q.block k (Nat.lt_of_lt_of_le hk p.size) h1 (fun e => by
    rcases p.row k e.symm with h | h
    · exact h2 h.symm
    · omega)).trans (p.block k hk h1 h2)
  row := fun k hk => by
    rcases q.row k hk with h | h
    · exact p.row k h
    · exact .inr (Nat.le_trans p.size h)

theorem touch_drewN (tb : Nat) (w : World) (q : Nat) : Touch tb w (w.drewN q) := ⟨rfl, rfl, rfl, Nat.le_refl _, fun _ _ _ _ => rfl, fun _ h => .inl h⟩
end Go.Proofs.YthpjmjohdliohaaGreat

namespace Go.Proofs.YthpjmjohdliohaaGreat
open Go.RowKit

end Go.Proofs.YthpjmjohdliohaaGreat

namespace Go.Proofs.YthpjmjohdliohaaGreat
open Go.RowKit

theorem SetAt.same {w w' : World} {mb N : Nat} {s : List Int} (h : SetAt w mb N s) (h1 : w'.heap[mb]? = w.heap[mb]?) : SetAt w' mb N s := by
  obtain ⟨D, hown, hD⟩ := h
  obtain ⟨es, clock, hb, r⟩ := hown
  exact ⟨D, ⟨es, clock, h1.trans hb, r⟩, hD⟩
theorem SetAt.lt {w : World} {mb N : Nat} {s : List Int} (h : SetAt w mb N s) : mb < w.heap.size := by
  obtain ⟨D, ⟨es, clock, hb, r⟩, hD⟩ := h
  exact (Array.getElem?_eq_some_iff.1 hb).1
theorem SetAt.below {w w' : World} {mb N : Nat} {s : List Int} (h : SetAt w mb N s) (hb : Below w.heap.size w w') : SetAt w' mb N s := h.same (hb.block mb h.lt)
/-- The queue's row lies outside of the iterator's blocks. -/
def Far (w : World) (tb B2 E : Nat) : Prop := ∀ k, qblk w tb = some k → k < B2 ∨ E ≤ k

theorem Far.touch {w w' : World} {tb B2 E : Nat} (h : Far w tb B2 E) (ht : Touch tb w w') (hE : E ≤ w.heap.size) : Far w' tb B2 E := fun k hk => by
  rcases ht.row k hk with h' | h'
  · exact h k h'
  · exact .inr (by omega)

theorem IterAt.touch {w w' : World} {B2 E ib k tb : Nat} {ns : List Int} (h : IterAt w B2 E ib k ns) (hf : Far w tb B2 E) (ht : Touch tb w w') (h1 : tb < B2) (hE : E ≤ w.heap.size) : IterAt w' B2 E ib k ns :=
  h.same fun j h2 h3 => ht.block j (by omega) (by omega) (fun e => by
    rcases hf j e.symm with h' | h' <;> omega)

end Go.Proofs.YthpjmjohdliohaaGreat

namespace Go.Proofs.YthpjmjohdliohaaGreat
open Go.RowKit

theorem func_nil76 (w : World) : (binOp .neq 99 .nilFunc .nilFunc).run Tryz.prog w = .ok (.bool false) w := by kernel_rfl
theorem func_nil77 (w : World) : (binOp .neq 100 .nilFunc .nilFunc).run Tryz.prog w = .ok (.bool false) w := by kernel_rfl
/-- What a walk breadth first for v finds. -/
def WalkPost (w0 : World) (succ : Int → List Int) (u v : Int) (e : Ending) (w' : World) : Prop :=
  ((e = .returned (.iface 127 (.int .i64 v)) ∧ Reach succ u v) ∨ (e = .returned .nilIface ∧ ¬ Reach succ u v)) ∧ Below w0.heap.size w0 w'

end Go.Proofs.YthpjmjohdliohaaGreat

namespace Go.Proofs.YthpjmjohdliohaaGreat
open Go.RowKit

end Go.Proofs.YthpjmjohdliohaaGreat

namespace Go.Proofs.YthpjmjohdliohaaGreat
open Go.RowKit

end Go.Proofs.YthpjmjohdliohaaGreat

namespace Go.Proofs.YthpjmjohdliohaaGreat
open Go.RowKit

open Classical in
/-- Whether there is a path. -/
noncomputable def pathB (succ : Int → List Int) (u v : Int) : Bool := decide (Reach succ u v)

open Classical in
theorem pathB_iff {succ : Int → List Int} {u v : Int} : pathB succ u v = true ↔ Reach succ u v := by
  unfold pathB; simp
theorem pathB_true {succ : Int → List Int} {u v : Int} (h : Reach succ u v) : true = pathB succ u v := (pathB_iff.2 h).symm
theorem pathB_false {succ : Int → List Int} {u v : Int} (h : ¬ Reach succ u v) : false = pathB succ u v := by
  cases e : pathB succ u v
  · rfl
  · exact absurd (pathB_iff.1 e) h

theorem below_box {w w' : World} {o : Obj} (h : Below (w.alloc o).heap.size (w.alloc o) w') : Below w.heap.size w w' := (alloc_below w o).trans (h.mono (by simp))

end Go.Proofs.YthpjmjohdliohaaGreat

namespace Go.Proofs.YthpjmjohdliohaaGreat

/-- What the loop of FnPathStep gathers. -/
noncomputable def wantB (g : Gr) (u v : Int) (k : Nat) : Bool := (g.nodes.take k).any fun y => arcB g u y && pathB (gSucc g) y v

theorem wantB_zero (g : Gr) (u v : Int) : wantB g u v 0 = false := by simp [wantB]
theorem wantB_succ (g : Gr) (u v : Int) (k : Nat) (hk : k < g.nodes.length) : wantB g u v (k + 1) = (wantB g u v k || (arcB g u g.nodes[k] && pathB (gSucc g) g.nodes[k] v)) := by
  unfold wantB
  rw [List.take_succ_eq_append_getElem hk, List.any_append]
  simp

theorem step_law {g : Gr} (hok : okGraph g = true) {u v : Int} (hu : u ∈ g.nodes) (hne : u ≠ v) : pathB (gSucc g) u v = wantB g u v g.nodes.length := by
  rw [Bool.eq_iff_iff, pathB_iff, reach_step hne]
  unfold wantB
  rw [List.take_length, List.any_eq_true]
  constructor
  · rintro ⟨y, hy, hr⟩
    obtain ⟨h1, h2⟩ := (gSucc_mem hok hu).1 hy
    exact ⟨y, h1, by rw [h2, Bool.true_and]; exact pathB_iff.2 hr⟩
  · rintro ⟨y, hy, h⟩
    rw [Bool.and_eq_true] at h
    exact ⟨y, (gSucc_mem hok hu).2 ⟨hy, h.1⟩, pathB_iff.1 h.2⟩

theorem path_self (g : Gr) (v : Int) : pathB (gSucc g) v v = true := pathB_iff.2 .refl
end Go.Proofs.YthpjmjohdliohaaGreat

namespace Go.Proofs.YthpjmjohdliohaaGreat

/-- What topo.Equal compares. -/
def eqP (idsA : List Int) (outsA : List (List Arc)) (idsB : List Int) (outsB : List (List Arc)) : Prop :=
  asc idsA = asc idsB ∧ ∀ x ∈ asc idsA, asc (succOf idsA outsA x) = asc (succOf idsB outsB x)

instance (idsA : List Int) (outsA : List (List Arc)) (idsB : List Int) (outsB : List (List Arc)) : Decidable (eqP idsA outsA idsB outsB) := by unfold eqP; exact inferInstance

theorem asc_asc (zs : List Int) : asc (asc zs) = asc zs := (asc_unique (zs := asc zs) (List.Perm.refl _) (asc_sorted zs)).symm

/-- Two lists of numbers have the same ones: in order they are the same, if none stands twice. -/
theorem asc_ext {xs ys : List Int} (hx : xs.Nodup) (hy : ys.Nodup) : asc xs = asc ys ↔ ∀ z, z ∈ xs ↔ z ∈ ys := by
  constructor
  · intro h z
    rw [← asc_mem (zs := xs), ← asc_mem (zs := ys), h]
  · intro h
    have hp : xs.Perm ys := (List.perm_ext_iff_of_nodup hx hy).2 h
    exact asc_unique ((asc_perm xs).trans hp) (asc_sorted xs)

/-- Where the ends of a row's arcs ascend none stands twice. -/
theorem succ_nodup {ids : List Int} {outs : List (List Arc)} (hup : ids.Pairwise (· < ·)) (hok : ∀ l ∈ outs, RowOk ids.length l) (x : Int) : (succOf ids outs x).Nodup := by
  unfold succOf endsOf
  have hrow : RowOk ids.length (outs.getD (posOf ids x) []) := by
    rcases Nat.lt_or_ge (posOf ids x) outs.length with hl | hl
    · have hm : outs.getD (posOf ids x) [] ∈ outs := by simp [hl]
      exact hok _ hm
    · rw [List.getD_eq_getElem?_getD, List.getElem?_eq_none hl]; exact RowOk.nil _
  generalize outs.getD (posOf ids x) [] = l at hrow
  show (l.map fun a => ids.getD a.1 0).Pairwise (· ≠ ·)
  rw [List.pairwise_map]
  refine hrow.1.imp_of_mem fun {a b} ha hb hab => ?_
  have h1 := hrow.2 a ha
  have h2 := hrow.2 b hb
  have := List.pairwise_iff_getElem.1 hup a.1 b.1 h1 h2 hab
  simp only [List.getD_eq_getElem?_getD, List.getElem?_eq_getElem h1, List.getElem?_eq_getElem h2, Option.getD_some]
  omega

/-- Two graphs have the same nodes, and the same edges but for weights. -/
def sameG (a b : Gr) : Prop := asc a.nodes = asc b.nodes ∧ ∀ x ∈ asc a.nodes, ∀ y ∈ asc a.nodes, arcB a x y = arcB b x y

theorem eqP_iff {a b : Gr} (ha : okGraph a = true) (hb : okGraph b = true) : eqP (asc a.nodes) (outsOf a) (asc b.nodes) (outsOf b) ↔ sameG a b := by
  have hta := graph_tabs ha
  have htb := graph_tabs hb
  have upA : (asc a.nodes).Pairwise (· < ·) := asc_incr (by unfold okGraph at ha; rw [Bool.and_eq_true] at ha; exact of_decide_eq_true ha.1)
  have upB : (asc b.nodes).Pairwise (· < ·) := asc_incr (by unfold okGraph at hb; rw [Bool.and_eq_true] at hb; exact of_decide_eq_true hb.1)
  have nA := fun x => succ_nodup (outs := outsOf a) upA hta.r1 x
  have nB := fun x => succ_nodup (outs := outsOf b) upB htb.r1 x
  unfold eqP sameG
  rw [asc_asc, asc_asc]
  constructor
  · rintro ⟨h1, h2⟩
    refine ⟨h1, fun x hx y hy => ?_⟩
    have h := (asc_ext (nA x) (nB x)).1 (h2 x hx) y
    have hxb : x ∈ asc b.nodes := h1 ▸ hx
    have hyb : y ∈ asc b.nodes := h1 ▸ hy
    have e1 := gSucc_mem ha (y := y) (asc_mem.1 hx)
    have e2 := gSucc_mem hb (y := y) (asc_mem.1 hxb)
    unfold gSucc at e1 e2
    rw [e1, e2] at h
    rw [Bool.eq_iff_iff]
    constructor
    · intro k; exact (h.1 ⟨asc_mem.1 hy, k⟩).2
    · intro k; exact (h.2 ⟨asc_mem.1 hyb, k⟩).2
  · rintro ⟨h1, h2⟩
    refine ⟨h1, fun x hx => (asc_ext (nA x) (nB x)).2 fun y => ?_⟩
    have hxb : x ∈ asc b.nodes := h1 ▸ hx
    have e1 := gSucc_mem ha (y := y) (asc_mem.1 hx)
    have e2 := gSucc_mem hb (y := y) (asc_mem.1 hxb)
    unfold gSucc at e1 e2
    rw [e1, e2]
    constructor
    · rintro ⟨k1, k2⟩
      have k1' : y ∈ asc a.nodes := asc_mem.2 k1
      exact ⟨asc_mem.1 (h1 ▸ k1'), by rw [← h2 x hx y k1']; exact k2⟩
    · rintro ⟨k1, k2⟩
      have k1' : y ∈ asc a.nodes := h1.symm ▸ asc_mem.2 k1
      exact ⟨asc_mem.1 k1', by rw [h2 x hx y k1']; exact k2⟩
end Go.Proofs.YthpjmjohdliohaaGreat
