/- The definitions (spec): sortInts, hasInt, Nodes.
   The definitions (spec): indexOf, barredTo, Weight, Joined, Nodes, From.
   The definitions (spec): From, Open; two rows of numbers that grow.
   The definitions (spec): Open.
   The definitions (spec): hasInt, reached.
   The walk depth first with a stack: the plain law.
   FnComponentsTold, pure: the classes of what can be come to, told twice. -/
import Derived.Test.YtgkimjjodhnmiaaGreatIter
import Derived.Deep.RegionLawGrows
import Derived.Laws.OwnMore
import Derived.Deep.AppendLies
import Derived.Deep.DeepCutAuto
import Derived.Maps.AppendAt
import Derived.Test.YtgkimjjodhnmiaaGreatBase
import Derived.Deep.RegionLaw
import Derived.Test.YtgkimjjodhnmiaaGreatTarjanLaw
import Derived.Deep.LoopGhost
import Derived.Test.YtgkimjjodhnmiaaGreatSucc
namespace Go.Proofs.YtgkimjjodhnmiaaGreat
open Go.RowKit

/-- An append of an empty source: what stood first comes back. -/
theorem step_append_empty {P : Program} {ops : Array Oper} {o : Oper} {a : Act} {w : World} {K : Act → World → Prop} {Q : Exit → Act → World → Prop} {E : Prop}
    (hg : o.guard = none) (s x : Operand) (t : TypeId) (hop : o.op = Op.call { callee := Callee.builtin Builtin.append, args := #[s, x], argTypes := #[t, t] })
    (e : TypeId) (i : TypeInfo) (h1 : P.underlying t = some (.slice e)) (h2 : P.info? e = some i)
    (b : Addr) (n cap : Nat) (hs : a.eval s = .slice (some b) n cap) (hnc : n ≤ cap) (ao : Option Addr) (c : Nat) (hx : a.eval x = .slice ao 0 c)
    (hK : K (a.put o.dst (.slice (some b) n cap)) w) :
    if Region.wanted o (yielded ops a.tmps) = true then Oper.wp P o a w K Q else E := by
  have hw : Region.wanted o (yielded ops a.tmps) = true := by simp [Region.wanted, hg]
  rw [if_pos hw]
  have hrun : (Builtin.append_ #[t, t] o.type #[.slice (some b) n cap, .slice ao 0 c]).run P w = .ok (.slice (some b) n cap) w := by
    cases ao with
    | none => simp [Builtin.append_, run_underlying h1, sizeOf, typeInfo, h2, Builtin.lenOf, Builtin.firstCells, hnc, storeCells]
    | some d => simp [Builtin.append_, run_underlying h1, sizeOf, typeInfo, h2, Builtin.lenOf, Builtin.firstCells, hnc]; rfl
  unfold Oper.wp
  simp [execOp, hop, resolve, invoke, builtin, hs, hx, hrun, Result.andThen]
  exact hK

theorem asc_nil : asc [] = [] := List.eq_nil_of_length_eq_zero (by rw [asc_length]; rfl)

/-- A number laid into a list that ascends. -/
theorem asc_lay {zs : List Int} {x : Int} {k : Nat} (hk : k ≤ zs.length) (h1 : ∀ j (hj : j < (asc zs).length), k ≤ j → x < (asc zs)[j]) (h2 : ∀ (h : 0 < k), (asc zs)[k - 1]'(by rw [asc_length]; omega) ≤ x) :
    (asc zs).take k ++ x :: (asc zs).drop k = asc (zs ++ [x]) := by
  have hal := asc_length zs
  refine asc_unique ?_ ?_
  · refine List.perm_middle.trans ?_
    rw [List.take_append_drop]
    exact ((asc_perm zs).cons x).trans (List.perm_append_comm (l₁ := [x]) (l₂ := zs))
  · have hs := asc_sorted zs
    have hle : ∀ y ∈ (asc zs).take k, y ≤ x := fun y hy => by
      obtain ⟨j, hj, rfl⟩ := List.mem_iff_getElem.1 hy
      rw [List.length_take] at hj
      rw [List.getElem_take]
      have h3 := h2 (by omega)
      rcases Nat.lt_or_ge j (k - 1) with h | h
      · have := List.pairwise_iff_getElem.1 hs j (k - 1) (by omega) (by omega) h
        omega
      · have e : j = k - 1 := by omega
        subst e; exact h3
    have hge : ∀ y ∈ (asc zs).drop k, x < y := fun y hy => by
      obtain ⟨j, hj, rfl⟩ := List.mem_iff_getElem.1 hy
      rw [List.length_drop] at hj
      rw [List.getElem_drop]
      exact h1 (k + j) (by omega) (by omega)
    rw [List.pairwise_append]
    refine ⟨hs.sublist (List.take_sublist _ _), ?_, fun a ha b hb => ?_⟩
    · rw [List.pairwise_cons]
      exact ⟨fun y hy => by have := hge y hy; omega, hs.sublist (List.drop_sublist _ _)⟩
    · have h3 := hle a ha
      rcases List.mem_cons.1 hb with rfl | hb
      · exact h3
      · have := hge b hb; omega

end Go.Proofs.YtgkimjjodhnmiaaGreat

namespace Go.Proofs.YtgkimjjodhnmiaaGreat
open Go.RowKit

/-- Whether an edge is among those that are barred. -/
def barB (dir : Bool) (barred : List (Int × Int × Int)) (u v : Int) : Bool := barred.any fun e => decide (hits dir u v e)

def WeightPost (w : World) (g : Gr) (u v : Int) (e : Ending) (w' : World) : Prop := ∃ x : Int, e = .returned (.tuple #[.int .i64 x, .bool (arcB g u v)]) ∧ Below w.heap.size w w'

end Go.Proofs.YtgkimjjodhnmiaaGreat

namespace Go.Proofs.YtgkimjjodhnmiaaGreat
open Go.RowKit

/-- The nodes to which edges lead. -/
def sFrom (g : Gr) (u : Int) : List Int := (asc g.nodes).filter fun v => arcB g u v

def FromSPost (w : World) (l : List Int) (e : Ending) (w' : World) : Prop := ∃ (a : Option Addr) (c : Nat), e = .returned (.slice a l.length c) ∧ w'.ownsRow w.heap.size 3 1 (.slice a l.length c) l.length (ints l) ∧ Below w.heap.size w w'

end Go.Proofs.YtgkimjjodhnmiaaGreat

namespace Go.Proofs.YtgkimjjodhnmiaaGreat
open Go.RowKit

theorem einfo : (Tryz.prog.info? 33).map (fun i => (i.zero, i.size, i.bytes)) = some (some (.agg #[.int .i64 0, .int .i64 0, .int .i64 0]), 3, 24) := by kernel_rfl
theorem enew (w : World) (x y z : Value) (e : TypeId) : ∀ (j : Nat) u, [x, y, z][j]? = some u → (w.alloc (.cells #[x, y, z] e)).cell? ((⟨w.heap.size, 0, none⟩ : Addr).add j) = some u := by
  intro j u hj
  rw [Addr.add_mid, Nat.zero_add]
  rcases j with _ | _ | _ | j
  · simp at hj; subst hj; unfold World.cell?; rw [heap_alloc_new]; rfl
  · simp at hj; subst hj; unfold World.cell?; rw [heap_alloc_new]; rfl
  · simp at hj; subst hj; unfold World.cell?; rw [heap_alloc_new]; rfl
  · simp at hj
theorem eone (x y z : Int) : ∀ u ∈ [Value.int .i64 x, Value.int .i64 y, Value.int .i64 z], u.oneCell' = true := by
  intro u hu
  simp at hu
  rcases hu with rfl | rfl | rfl <;> rfl

/-- The edges that are not barred. -/
def openEs (g : Gr) (barred : List (Int × Int × Int)) (l : List (Int × Int × Int)) : List (Int × Int × Int) := l.filter fun e => !barB g.dir barred e.1 e.2.1
/-- The graph without the edges that are barred. -/
def openG (g : Gr) (barred : List (Int × Int × Int)) : Gr := ⟨g.dir, g.nodes, openEs g barred g.edges⟩

/-- What Open gives. -/
def OpenSPost (w : World) (g : Gr) (barred : List (Int × Int × Int)) (an : Option Addr) (cn : Nat) (e : Ending) (w' : World) : Prop :=
  ∃ (ae : Option Addr) (ce : Nat), e = .returned (.agg #[.bool g.dir, .slice an g.nodes.length cn, .slice ae (openG g barred).edges.length ce]) ∧ GrAt w' (openG g barred) an cn ae ∧ Below w.heap.size w w'

/-- The graph in the making: block ob. -/
structure OG (w0 w : World) (ob : Nat) (dir : Bool) (vn : Value) (es : List (Int × Int × Int)) (v : Value) : Prop where
  blk : w.heap[ob]? = some (.cells #[.bool dir, vn, v] 25 (0, 0))
  e : w.ownsRow (ob + 1) 33 3 v es.length (edgeCells es)
  below : Below ob w0 w

section
variable {w0 w w1 : World} {ob n c c1 : Nat} {dir : Bool} {vn : Value} {es : List (Int × Int × Int)} {b b1 : Option Addr} {o : Obj}

theorem OG.at2 {v : Value} (h : OG w0 w ob dir vn es v) : w.cell? ⟨ob, 2, none⟩ = some v := by have := h.blk; simp [World.cell?, this]
theorem OG.keep {v : Value} (h : OG w0 w ob dir vn es v) (hb : Below w.heap.size w w1) : OG w0 w1 ob dir vn es v :=
  ⟨(hb.block ob (lt_of_block h.blk)).trans h.blk, owns_same h.e fun j hj => hb.block j (h.e.lt j hj).2, h.below.trans (hb.mono (by have := lt_of_block h.blk; omega))⟩

theorem OG.add {x : Int × Int × Int} (h : OG w0 w ob dir vn es (.slice b n c)) (hn : n = es.length) (hg : (w.alloc o).grownBy w1 (Value.slice b n c).ownBlock)
    (ho : w1.ownsRow (ob + 1) 33 3 (.slice b1 (n + 1) c1) (n + 1) (edgeCells es ++ [.int .i64 x.1, .int .i64 x.2.1, .int .i64 x.2.2])) :
    w1.cell? ⟨ob, 2, none⟩ = some (.slice b n c) ∧ w1.frozen? ⟨ob, 2, none⟩ = false ∧ Hid (OG w0 (w1.setCell ⟨ob, 2, none⟩ (.slice b1 (n + 1) c1)) ob dir vn (es ++ [x]) (.slice b1 (n + 1) c1)) := by
  subst hn
  have hz : (w.alloc o).heap.size = w.heap.size + 1 := by simp
  have hbl := lt_of_block h.blk
  have hk : ∀ j, j < w.heap.size → (Value.slice b es.length c).ownBlock ≠ some j → w1.heap[j]? = w.heap[j]? := fun j hj hn => by
    rw [hg.block j (by omega) (fun e => hn e.symm), Below.heap_alloc _ _ _ hj]
  have hb1 := (hk ob hbl fun e => by have := (h.e.lt ob e).1; omega).trans h.blk
  have hset : ∀ j, j ≠ ob → (w1.setCell ⟨ob, 2, none⟩ (.slice b1 (es.length + 1) c1)).heap[j]? = w1.heap[j]? := fun j hj => Below.heap_setCell _ _ _ _ hj
  refine ⟨by simp [World.cell?, hb1], by simp [World.frozen?, hb1], (heap_set_self hb1 2 _).trans rfl, ?_, ?_⟩
  · have e1 : (es ++ [x]).length = es.length + 1 := by simp
    have e2 : edgeCells (es ++ [x]) = edgeCells es ++ [.int .i64 x.1, .int .i64 x.2.1, .int .i64 x.2.2] := by simp [edgeCells]
    rw [e1, e2]
    exact owns_same ho fun j hj => hset j (by have := (ho.lt j hj).1; omega)
  · have hb : Below ob w0 w1 := (h.below.alloc (by omega) o).grown hg (by simp; omega) (fun j e => by have := (h.e.lt j e).1; omega)
    exact hb.setCell (by show ob ≤ ob; omega) _
end

theorem ebox3 {w : World} {q : Nat} {a b c : Value} {ty : TypeId} (h : w.heap[q]? = some (.cells #[a, b, c] ty (0, 0))) (u v z : Value) :
    w.cell? ⟨q, 0, none⟩ = some a ∧ w.frozen? ⟨q, 0, none⟩ = false ∧ (w.setCell ⟨q, 0, none⟩ u).cell? ⟨q, 1, none⟩ = some b ∧ (w.setCell ⟨q, 0, none⟩ u).frozen? ⟨q, 1, none⟩ = false ∧
    ((w.setCell ⟨q, 0, none⟩ u).setCell ⟨q, 1, none⟩ v).cell? ⟨q, 2, none⟩ = some c ∧ ((w.setCell ⟨q, 0, none⟩ u).setCell ⟨q, 1, none⟩ v).frozen? ⟨q, 2, none⟩ = false ∧
    (((w.setCell ⟨q, 0, none⟩ u).setCell ⟨q, 1, none⟩ v).setCell ⟨q, 2, none⟩ z).cell? ⟨q, 0, none⟩ = some u ∧ (((w.setCell ⟨q, 0, none⟩ u).setCell ⟨q, 1, none⟩ v).setCell ⟨q, 2, none⟩ z).cell? ⟨q, 1, none⟩ = some v ∧
    (((w.setCell ⟨q, 0, none⟩ u).setCell ⟨q, 1, none⟩ v).setCell ⟨q, 2, none⟩ z).cell? ⟨q, 2, none⟩ = some z := by
  have h1 : (w.setCell ⟨q, 0, none⟩ u).heap[q]? = some (.cells #[u, b, c] ty (0, 0)) := (heap_set_self h 0 _).trans rfl
  have h2 : ((w.setCell ⟨q, 0, none⟩ u).setCell ⟨q, 1, none⟩ v).heap[q]? = some (.cells #[u, v, c] ty (0, 0)) := (heap_set_self h1 1 _).trans rfl
  have h3 : (((w.setCell ⟨q, 0, none⟩ u).setCell ⟨q, 1, none⟩ v).setCell ⟨q, 2, none⟩ z).heap[q]? = some (.cells #[u, v, z] ty (0, 0)) := (heap_set_self h2 2 _).trans rfl
  refine ⟨by simp [World.cell?, h], by simp [World.frozen?, h], by simp [World.cell?, h1], by simp [World.frozen?, h1], by simp [World.cell?, h2], by simp [World.frozen?, h2], by simp [World.cell?, h3], by simp [World.cell?, h3], by simp [World.cell?, h3]⟩

end Go.Proofs.YtgkimjjodhnmiaaGreat

namespace Go.Proofs.YtgkimjjodhnmiaaGreat
open Go.RowKit

/-- A row that is read, apart from one that grows. -/
def RdOne (w : World) (lb : Nat) (al : Option Addr) (l : List Int) (sa : Value) : Prop :=
  l = [] ∨ (al = some ⟨lb, 0, none⟩ ∧ w.rangeAt lb 0 (ints l) ∧ lb < w.heap.size ∧ sa.ownBlock ≠ some lb)

theorem RdOne.keep {w w1 : World} {lb : Nat} {al : Option Addr} {l : List Int} {sa : Value} (h : RdOne w lb al l sa) (hb : Below w.heap.size w w1) : RdOne w1 lb al l sa := by
  rcases h with h | ⟨h1, h2, h3, h4⟩
  · exact .inl h
  · exact .inr ⟨h1, rangeAt_below h2 hb h3, Nat.lt_of_lt_of_le h3 hb.size, h4⟩

theorem RdOne.grown {w w1 : World} {lb : Nat} {al : Option Addr} {l : List Int} {sa sa' : Value} (h : RdOne w lb al l sa) (hg : w.grownBy w1 sa.ownBlock) (ha : ∀ j, sa'.ownBlock = some j → sa.ownBlock = some j ∨ w.heap.size ≤ j) : RdOne w1 lb al l sa' := by
  rcases h with h | ⟨h1, h2, h3, h4⟩
  · exact .inl h
  · refine .inr ⟨h1, fun j u hj => ?_, Nat.lt_of_lt_of_le h3 hg.size, fun e => ?_⟩
    · rw [World.cell?_of_block (hg.block lb h3 (fun e => h4 e.symm))]; exact h2 j u hj
    · rcases ha lb e with e' | e'
      · exact h4 e'
      · omega

/-- What has been reached, of which the first i were gone from. -/
structure RS (s : Int → List Int) (u : Int) (i : Nat) (F : List Int) : Prop where
  nd : F.Nodup
  start : u ∈ F
  reach : ∀ x ∈ F, Reach s u x
  shut : ∀ j (hj : j < F.length), j < i → ∀ y ∈ s F[j], y ∈ F

theorem RS.new (s : Int → List Int) (u : Int) : RS s u 0 [u] := ⟨by simp, by simp, fun x hx => by rw [List.mem_singleton.1 hx]; exact .refl, fun j _ h => absurd h (Nat.not_lt_zero j)⟩

theorem RS.more {s : Int → List Int} {u : Int} {i : Nat} {F : List Int} (h : RS s u i F) (hi : i ≤ F.length) {t x : Int} (ht : t ∈ F) (hx : x ∈ s t) (hn : x ∉ F) : RS s u i (F ++ [x]) := by
  refine ⟨?_, List.mem_append_left _ h.start, fun y hy => ?_, fun j hj hji y hy => ?_⟩
  · rw [List.nodup_append]
    exact ⟨h.nd, by simp, fun a ha b hb e => hn (by rw [List.mem_singleton.1 hb] at e; exact e ▸ ha)⟩
  · rcases List.mem_append.1 hy with hy | hy
    · exact h.reach y hy
    · rw [List.mem_singleton.1 hy]; exact (h.reach t ht).step hx
  · rw [List.getElem_append_left (by omega)] at hy
    exact List.mem_append_left _ (h.shut j (by omega) hji y hy)

theorem RS.next {s : Int → List Int} {u : Int} {i : Nat} {F : List Int} (h : RS s u i F) (hi : i < F.length) (hs : ∀ y ∈ s F[i], y ∈ F) : RS s u (i + 1) F :=
  ⟨h.nd, h.start, h.reach, fun j hj hji y hy => by
    rcases Nat.lt_or_eq_of_le (Nat.le_of_lt_succ hji) with e | e
    · exact h.shut j hj e y hy
    · subst e; exact hs y hy⟩

theorem RS.all {s : Int → List Int} {u : Int} {F : List Int} (h : RS s u F.length F) {x : Int} (hx : Reach s u x) : x ∈ F := by
  induction hx with
  | refl => exact h.start
  | step _ hy ih =>
    obtain ⟨j, hj, e⟩ := List.mem_iff_getElem.1 ih
    exact h.shut j hj hj _ (by rw [e]; exact hy)

theorem sReach {g : Gr} {u : Int} (hu : u ∈ g.nodes) : ∀ x, Reach (sFrom g) u x → x ∈ asc g.nodes := fun x r => by
  induction r with
  | refl => exact asc_mem.2 hu
  | step _ hy _ => exact (List.mem_filter.1 hy).1

/-- What reached gives. -/
def ReachedPost (w : World) (g : Gr) (u : Int) (e : Ending) (w' : World) : Prop :=
  ∃ (R : List Int) (a : Option Addr) (c : Nat), R.Nodup ∧ (∀ x, x ∈ R ↔ Reach (sFrom g) u x) ∧ R.length ≤ 1000 ∧ e = .returned (.slice a R.length c) ∧ w'.ownsRow w.heap.size 3 1 (.slice a R.length c) R.length (ints (asc R)) ∧ Below w.heap.size w w'

end Go.Proofs.YtgkimjjodhnmiaaGreat

namespace Go.Proofs.YtgkimjjodhnmiaaGreat

section
variable (succ : Int → List Int)

/-- The stack in its frames: for each node that was visited (the last one first) what is left of its successors. -/
def FR (V : List Int) : List Int → List Int → Prop
  | [], S => S = []
  | x :: VR, S => ∃ f S', S = f ++ S' ∧ (∀ y ∈ f, y ∈ succ x) ∧ (∀ y ∈ succ x, y ∈ V ∨ y ∈ f) ∧ FR V VR S'

theorem FR.mono {V V' : List Int} (hv : ∀ x ∈ V, x ∈ V') : ∀ {VR S : List Int}, FR succ V VR S → FR succ V' VR S
  | [], _, h => h
  | _ :: _, _, ⟨f, S', e, h1, h2, h3⟩ => ⟨f, S', e, h1, fun y hy => (h2 y hy).imp (hv y) id, h3.mono hv⟩

theorem FR.pop {V : List Int} : ∀ {VR S : List Int} {y : Int}, FR succ V VR (y :: S) →
    ∃ A x B, VR = A ++ x :: B ∧ (∀ a ∈ A, ∀ z ∈ succ a, z ∈ V) ∧ y ∈ succ x ∧ ∀ V', (∀ z ∈ V, z ∈ V') → y ∈ V' → FR succ V' VR S
  | [], _, _, h => by cases h
  | a :: VR, S, y, ⟨f, S', e, h1, h2, h3⟩ => by
    match f, e, h1, h2 with
    | [], e, _, h2 =>
      have e' : S' = y :: S := e.symm
      subst e'
      obtain ⟨A, x, B, hv, hA, hx, hF⟩ := FR.pop h3
      refine ⟨a :: A, x, B, by rw [hv]; rfl, fun b hb => ?_, hx, fun V' hV hy => ⟨[], S, rfl, by simp, fun z hz => ?_, hF V' hV hy⟩⟩
      · rcases List.mem_cons.1 hb with rfl | hb
        · exact fun z hz => (h2 z hz).resolve_right (by simp)
        · exact hA b hb
      · exact .inl (hV z ((h2 z hz).resolve_right (by simp)))
    | z :: f, e, h1, h2 =>
      injection e with e1 e2
      subst e1
      refine ⟨[], a, VR, rfl, by simp, h1 y List.mem_cons_self, fun V' hV hy => ⟨f, S', e2, fun z hz => h1 z (List.mem_cons_of_mem _ hz), fun z hz => ?_, h3.mono succ hV⟩⟩
      rcases h2 z hz with h | h
      · exact .inl (hV z h)
      · rcases List.mem_cons.1 h with rfl | h
        · exact .inl hy
        · exact .inr h

theorem FR.done {V : List Int} : ∀ {VR : List Int}, FR succ V VR [] → ∀ x ∈ VR, ∀ y ∈ succ x, y ∈ V
  | [], _, x, hx => by cases hx
  | a :: VR, ⟨f, S', e, _, h2, h3⟩, x, hx => by
    obtain ⟨rfl, rfl⟩ := List.append_eq_nil_iff.1 e.symm
    rcases List.mem_cons.1 hx with rfl | hx
    · exact fun y hy => (h2 y hy).resolve_right (by simp)
    · exact FR.done h3 x hx

/-- Each node is an end of an edge from the last node ahead of it that had one to a node not yet visited. -/
def DeepL (V : List Int) : Prop :=
  ∀ i (hi : i < V.length), 0 < i → ∃ j, ∃ hj : j < i, V[i] ∈ succ (V[j]'(by omega)) ∧ ∀ k (hk : k < i), j < k → ∀ z ∈ succ (V[k]'(by omega)), z ∈ V.take i

/-- The state of a walk from u: what was visited, and the stack. -/
structure DInv (u : Int) (V S : List Int) : Prop where
  nd : V.Nodup
  head : V = [] → S = [u]
  first : V ≠ [] → V.headD 0 = u
  fr : V ≠ [] → FR succ V V.reverse S
  deep : DeepL succ V
  reach : ∀ x ∈ V, Reach succ u x
  reachS : ∀ x ∈ S, Reach succ u x

theorem DInv.start (u : Int) : DInv succ u [] [u] :=
  ⟨List.nodup_nil, fun _ => rfl, fun h => absurd rfl h, fun h => absurd rfl h, fun i hi => by simp at hi, by simp, fun x hx => by rw [List.mem_singleton.1 hx]; exact .refl⟩

/-- A node that was visited is left out. -/
theorem DInv.skip {u y : Int} {V S : List Int} (h : DInv succ u V (y :: S)) (hy : y ∈ V) : DInv succ u V S := by
  have hne : V ≠ [] := fun e => by rw [e] at hy; cases hy
  obtain ⟨A, x, B, _, _, _, hF⟩ := FR.pop succ (h.fr hne)
  exact ⟨h.nd, fun e => absurd e hne, h.first, fun _ => hF V (fun _ hz => hz) hy, h.deep, h.reach, fun x hx => h.reachS x (List.mem_cons_of_mem _ hx)⟩

/-- A node that was not visited. -/
theorem DInv.visit {u y : Int} {V S : List Int} (h : DInv succ u V (y :: S)) (hy : y ∉ V) : DInv succ u (V ++ [y]) ((succ y).reverse ++ S) := by
  have hr := h.reachS y List.mem_cons_self
  have hsr : ∀ z ∈ (succ y).reverse ++ S, Reach succ u z := fun z hz => by
    rcases List.mem_append.1 hz with hz | hz
    · exact hr.step (List.mem_reverse.1 hz)
    · exact h.reachS z (List.mem_cons_of_mem _ hz)
  have hvr : ∀ x ∈ V ++ [y], Reach succ u x := fun x hx => by
    rcases List.mem_append.1 hx with hx | hx
    · exact h.reach x hx
    · rw [List.mem_singleton.1 hx]; exact hr
  have hnd : (V ++ [y]).Nodup := by
    rw [List.nodup_append]
    exact ⟨h.nd, by simp, fun a ha b hb e => hy (by rw [List.mem_singleton.1 hb] at e; exact e ▸ ha)⟩
  by_cases hne : V = []
  · subst hne
    have hs := h.head rfl
    injection hs with h1 h2
    subst h1; subst h2
    refine ⟨hnd, fun e => by simp at e, fun _ => rfl, fun _ => ?_, fun i hi h0 => by simp at hi; omega, hvr, hsr⟩
    exact ⟨(succ y).reverse, [], rfl, fun z hz => List.mem_reverse.1 hz, fun z hz => .inr (List.mem_reverse.2 hz), rfl⟩
  · obtain ⟨A, x, B, hv, hA, hx, hF⟩ := FR.pop succ (h.fr hne)
    refine ⟨hnd, fun e => by simp at e, fun _ => ?_, fun _ => ?_, ?_, hvr, hsr⟩
    · have := h.first hne
      match V, hne with
      | a :: V, _ => exact this
    · rw [List.reverse_append]
      exact ⟨(succ y).reverse, S, rfl, fun z hz => List.mem_reverse.1 hz, fun z hz => .inr (List.mem_reverse.2 hz), hF _ (fun z hz => List.mem_append_left _ hz) (by simp)⟩
    · intro i hi h0
      rw [List.length_append, List.length_singleton] at hi
      by_cases hil : i < V.length
      · obtain ⟨j, hj, h1, h2⟩ := h.deep i hil h0
        refine ⟨j, hj, ?_, fun k hk hjk z hz => ?_⟩
        · rw [List.getElem_append_left hil, List.getElem_append_left (by omega)]; exact h1
        · rw [List.getElem_append_left (by omega)] at hz
          rw [List.take_append_of_le_length (by omega)]
          exact h2 k hk hjk z hz
      · have hie : i = V.length := by omega
        subst hie
        have hV : V = B.reverse ++ x :: A.reverse := by
          have := congrArg List.reverse hv
          rw [List.reverse_reverse, List.reverse_append, List.reverse_cons, List.append_assoc] at this
          exact this
        have hlen : V.length = B.length + 1 + A.length := by rw [hV]; simp; omega
        refine ⟨B.length, by omega, ?_, fun k hk hjk z hz => ?_⟩
        · rw [List.getElem_append_right (Nat.le_refl _), List.getElem_append_left (by omega)]
          have e : V[B.length]'(by omega) = x := by
            simp only [hV]
            rw [List.getElem_append_right (by simp)]
            simp
          simp only [Nat.sub_self, List.getElem_singleton, e]
          exact hx
        · rw [List.getElem_append_left hk] at hz
          rw [List.take_left']
          · refine hA (V[k]) ?_ z hz
            have e : V[k] ∈ A.reverse := by
              have h2 : V[k]'hk = (B.reverse ++ x :: A.reverse)[k]'(by rw [← hV]; exact hk) := by simp only [← hV]
              rw [h2, List.getElem_append_right (by simp; omega)]
              rw [List.getElem_cons, dif_neg (by simp; omega)]
              exact List.getElem_mem _
            exact List.mem_reverse.1 e
          · rfl

/-- What a walk has found. -/
structure DWalk (u : Int) (V : List Int) : Prop where
  nd : V.Nodup
  ne : V ≠ []
  first : V.headD 0 = u
  deep : DeepL succ V
  reach : ∀ x ∈ V, Reach succ u x
  shut : ∀ x ∈ V, ∀ y ∈ succ x, y ∈ V

theorem DInv.done {u : Int} {V : List Int} (h : DInv succ u V []) : DWalk succ u V := by
  have hne : V ≠ [] := fun e => by have := h.head e; cases this
  exact ⟨h.nd, hne, h.first hne, h.deep, h.reach, fun x hx => FR.done succ (h.fr hne) x (List.mem_reverse.2 hx)⟩

/-- What the walks through all have found so far: lists of nodes, of which the walk is through the first nodes of a list. -/
structure DAll (ids : List Int) (k : Nat) (L : List (List Int)) : Prop where
  nd : L.flatten.Nodup
  walk : ∀ l ∈ L, DWalk succ (l.headD 0) l
  sub : ∀ x ∈ L.flatten, x ∈ ids
  all : ∀ x ∈ ids.take k, x ∈ L.flatten
  heads : (L.map fun l => l.headD 0).Sublist (ids.take k)

theorem DAll.start (ids : List Int) : DAll succ ids 0 [] := ⟨List.nodup_nil, by simp, by simp, by simp, by simp⟩

theorem DAll.shut {ids : List Int} {k : Nat} {L : List (List Int)} (h : DAll succ ids k L) {x y : Int} (hx : x ∈ L.flatten) (hy : y ∈ succ x) : y ∈ L.flatten := by
  obtain ⟨l, hl, hxl⟩ := List.mem_flatten.1 hx
  exact List.mem_flatten.2 ⟨l, hl, (h.walk l hl).shut x hxl y hy⟩

/-- What is not yet visited leads to nothing that was, where edges lead both ways. -/
theorem DAll.apart {ids : List Int} {k : Nat} {L : List (List Int)} (h : DAll succ ids k L) (hsym : ∀ x ∈ ids, ∀ y ∈ succ x, y ∈ ids ∧ x ∈ succ y) {u x : Int} (hu : u ∈ ids) (hn : u ∉ L.flatten) (hr : Reach succ u x) : x ∈ ids ∧ x ∉ L.flatten := by
  induction hr with
  | refl => exact ⟨hu, hn⟩
  | step _ hy ih =>
    have := hsym _ ih.1 _ hy
    exact ⟨this.1, fun hm => ih.2 (h.shut succ hm this.2)⟩

theorem DAll.skip {ids : List Int} {k : Nat} {L : List (List Int)} (h : DAll succ ids k L) (hk : k < ids.length) (hm : ids[k] ∈ L.flatten) : DAll succ ids (k + 1) L :=
  ⟨h.nd, h.walk, h.sub, fun x hx => by
    rw [List.take_succ_eq_append_getElem hk, List.mem_append, List.mem_singleton] at hx
    rcases hx with hx | rfl
    · exact h.all x hx
    · exact hm, h.heads.trans (by rw [List.take_succ_eq_append_getElem hk]; exact List.sublist_append_left _ _)⟩

theorem DAll.more {ids : List Int} {k : Nat} {L : List (List Int)} {V : List Int} (h : DAll succ ids k L) (hsym : ∀ x ∈ ids, ∀ y ∈ succ x, y ∈ ids ∧ x ∈ succ y) (hk : k < ids.length) (hm : ids[k] ∉ L.flatten) (hw : DWalk succ ids[k] V) : DAll succ ids (k + 1) (L ++ [V]) := by
  have hap : ∀ x ∈ V, x ∈ ids ∧ x ∉ L.flatten := fun x hx => h.apart succ hsym (List.getElem_mem hk) hm (hw.reach x hx)
  have hfl : (L ++ [V]).flatten = L.flatten ++ V := by simp
  have hh : ids[k] ∈ V := by
    have h1 := hw.first
    have h2 := hw.ne
    match V, h1, h2 with
    | a :: V, h1, _ => exact h1 ▸ List.mem_cons_self
  refine ⟨?_, fun l hl => ?_, fun x hx => ?_, fun x hx => ?_, ?_⟩
  · rw [hfl, List.nodup_append]
    exact ⟨h.nd, hw.nd, fun a ha b hb e => (hap b hb).2 (e ▸ ha)⟩
  · rcases List.mem_append.1 hl with hl | hl
    · exact h.walk l hl
    · rw [List.mem_singleton.1 hl, hw.first]; exact hw
  · rw [hfl, List.mem_append] at hx
    rcases hx with hx | hx
    · exact h.sub x hx
    · exact (hap x hx).1
  · rw [hfl, List.mem_append]
    rw [List.take_succ_eq_append_getElem hk, List.mem_append, List.mem_singleton] at hx
    rcases hx with hx | rfl
    · exact .inl (h.all x hx)
    · exact .inr hh
  · rw [List.take_succ_eq_append_getElem hk, List.map_append, List.map_singleton, hw.first]
    exact h.heads.append (List.Sublist.refl _)

/-- All walks together visit all nodes. -/
theorem DAll.perm {ids : List Int} {L : List (List Int)} (h : DAll succ ids ids.length L) (hnd : ids.Nodup) : L.flatten.Perm ids := by
  refine (List.perm_ext_iff_of_nodup h.nd hnd).2 fun x => ⟨h.sub x, fun hx => h.all x ?_⟩
  rw [List.take_length]; exact hx
end
end Go.Proofs.YtgkimjjodhnmiaaGreat

namespace Go.Proofs.YtgkimjjodhnmiaaGreat

theorem reach_tr {s : Int → List Int} {x y z : Int} (h : Reach s x y) (k : Reach s y z) : Reach s x z := by
  induction k with
  | refl => exact h
  | step _ h' ih => exact .step ih h'

theorem reach_sym {s : Int → List Int} {ids : List Int} (hsym : ∀ x ∈ ids, ∀ y ∈ s x, y ∈ ids ∧ x ∈ s y) {u x : Int} (hu : u ∈ ids) (h : Reach s u x) : x ∈ ids ∧ Reach s x u := by
  induction h with
  | refl => exact ⟨hu, .refl⟩
  | step _ hz ih =>
    obtain ⟨h1, h2⟩ := hsym _ ih.1 _ hz
    exact ⟨h1, reach_tr (.step .refl h2) ih.2⟩

/-- Classes, of which all first k nodes are in one. -/
structure Comps (s : Int → List Int) (ids : List Int) (k : Nat) (C : List (List Int)) : Prop where
  cls : ∀ c ∈ C, ∃ u ∈ ids, ∃ R : List Int, R.Nodup ∧ c = asc R ∧ ∀ x, x ∈ R ↔ Reach s u x
  nd : C.flatten.Nodup
  all : ∀ x ∈ ids.take k, x ∈ C.flatten

theorem Comps.start (s : Int → List Int) (ids : List Int) : Comps s ids 0 [] := ⟨by simp, by simp, by simp⟩

section
variable {s : Int → List Int} {ids : List Int} (hsym : ∀ x ∈ ids, ∀ y ∈ s x, y ∈ ids ∧ x ∈ s y)

theorem Comps.mem {k : Nat} {C : List (List Int)} (h : Comps s ids k C) {c : List Int} (hc : c ∈ C) : ∃ u ∈ ids, c.Nodup ∧ ∀ x, x ∈ c ↔ Reach s u x := by
  obtain ⟨u, hu, R, h1, rfl, h2⟩ := h.cls c hc
  exact ⟨u, hu, (asc_perm R).nodup_iff.2 h1, fun x => asc_mem.trans (h2 x)⟩

include hsym in
theorem Comps.sub {k : Nat} {C : List (List Int)} (h : Comps s ids k C) : ∀ x ∈ C.flatten, x ∈ ids := fun x hx => by
  obtain ⟨c, hc, hxc⟩ := List.mem_flatten.1 hx
  obtain ⟨u, hu, _, h2⟩ := h.mem hc
  exact (reach_sym hsym hu ((h2 x).1 hxc)).1

theorem Comps.skip {k : Nat} {C : List (List Int)} (h : Comps s ids k C) (hk : k < ids.length) (hm : ids[k] ∈ C.flatten) : Comps s ids (k + 1) C :=
  ⟨h.cls, h.nd, fun x hx => by
    rw [List.take_succ_eq_append_getElem hk, List.mem_append, List.mem_singleton] at hx
    rcases hx with hx | rfl
    · exact h.all x hx
    · exact hm⟩

include hsym in
theorem Comps.more {k : Nat} {C : List (List Int)} (h : Comps s ids k C) (hk : k < ids.length) (hm : ids[k] ∉ C.flatten) {R : List Int} (h1 : R.Nodup) (h2 : ∀ x, x ∈ R ↔ Reach s ids[k] x) : Comps s ids (k + 1) (C ++ [asc R]) := by
  have hfl : (C ++ [asc R]).flatten = C.flatten ++ asc R := by simp
  refine ⟨fun c hc => ?_, ?_, fun x hx => ?_⟩
  · rcases List.mem_append.1 hc with hc | hc
    · exact h.cls c hc
    · exact ⟨ids[k], List.getElem_mem hk, R, h1, List.mem_singleton.1 hc, h2⟩
  · rw [hfl, List.nodup_append]
    refine ⟨h.nd, (asc_perm R).nodup_iff.2 h1, fun a ha b hb e => hm ?_⟩
    subst e
    have hr := (h2 a).1 (asc_mem.1 hb)
    obtain ⟨c, hc, hac⟩ := List.mem_flatten.1 ha
    obtain ⟨u, hu, _, h4⟩ := h.mem hc
    exact List.mem_flatten.2 ⟨c, hc, (h4 _).2 (reach_tr ((h4 a).1 hac) (reach_sym hsym (List.getElem_mem hk) hr).2)⟩
  · rw [hfl, List.mem_append]
    rw [List.take_succ_eq_append_getElem hk, List.mem_append, List.mem_singleton] at hx
    rcases hx with hx | rfl
    · exact .inl (h.all x hx)
    · exact .inr (asc_mem.2 ((h2 _).2 .refl))

theorem Comps.ne {k : Nat} {C : List (List Int)} (h : Comps s ids k C) : ∀ c ∈ C, c ≠ [] := fun c hc e => by
  obtain ⟨u, _, _, h2⟩ := h.mem hc
  have := (h2 u).2 .refl
  rw [e] at this
  cases this

include hsym in
/-- Both tell the same classes. -/
theorem Comps.subset {C M : List (List Int)} (h : Comps s ids ids.length C) (h' : Comps s ids ids.length M) {c : List Int} (hc : c ∈ C) : c ∈ M := by
  obtain ⟨u, hu, R, h1, rfl, h2⟩ := h.cls c hc
  obtain ⟨m, hm, hum⟩ := List.mem_flatten.1 (h'.all u (by rw [List.take_length]; exact hu))
  obtain ⟨v, hv, Q, h3, rfl, h4⟩ := h'.cls m hm
  have hvu := (h4 u).1 (asc_mem.1 hum)
  have huv := (reach_sym hsym hv hvu).2
  have : asc R = asc Q := asc_unique ((asc_perm R).trans ((List.perm_ext_iff_of_nodup h1 h3).2 fun x => by
    rw [h2, h4]
    exact ⟨fun hx => reach_tr hvu hx, fun hx => reach_tr huv hx⟩)) (asc_sorted R)
  rw [this]
  exact hm
end

def headsC (C : List (List Int)) : List Int := C.map fun c => c.headD 0
/-- By its least number: the list of numbers, and what stands for it. -/
def byHead {α : Type} (C : List (List Int)) (vs : List α) (d : α) (x : Int) : α := vs.getD ((headsC C).idxOf x) d

theorem headsC_nodup {l : List (List Int)} (hnd : l.flatten.Nodup) (hne : ∀ c ∈ l, c ≠ []) : (headsC l).Nodup := by
  induction l with
  | nil => simp [headsC]
  | cons c l ih =>
    rw [List.flatten_cons, List.nodup_append] at hnd
    unfold headsC
    rw [List.map_cons, List.nodup_cons]
    refine ⟨fun hm => ?_, ih hnd.2.1 fun d hd => hne d (List.mem_cons_of_mem _ hd)⟩
    obtain ⟨d, hd, e⟩ := List.mem_map.1 hm
    have hc := hne c List.mem_cons_self
    have hd' := hne d (List.mem_cons_of_mem _ hd)
    match c, hc, d, hd', hd, e with
    | a :: c, _, b :: d, _, hd, e =>
      have e' : b = a := e
      subst e'
      exact hnd.2.2 b List.mem_cons_self b (List.mem_flatten.2 ⟨_, hd, List.mem_cons_self⟩) rfl

theorem byHead_at {α : Type} {C : List (List Int)} (hnd : (headsC C).Nodup) {vs : List α} {d : α} (hl : vs.length = C.length) {i : Nat} (hi : i < C.length) : byHead C vs d (C[i].headD 0) = vs[i]'(by omega) := by
  have hi' : i < (headsC C).length := by unfold headsC; rw [List.length_map]; exact hi
  have e : C[i].headD 0 = (headsC C)[i] := (List.getElem_map (l := C) (fun c : List Int => c.headD 0) (h := by rw [List.length_map]; exact hi)).symm
  have e2 : (headsC C).idxOf (headsC C)[i] = i := by
    have hlt := List.idxOf_lt_length_of_mem (List.getElem_mem hi')
    exact (List.getElem_inj hnd).1 (List.getElem_idxOf hlt)
  unfold byHead
  rw [e, e2]
  have : i < vs.length := by omega
  simp [this]

theorem byHead_map {α : Type} {C : List (List Int)} (hnd : (headsC C).Nodup) {vs : List α} {d : α} (hl : vs.length = C.length) : (headsC C).map (byHead C vs d) = vs := by
  refine List.ext_getElem (by unfold headsC; simp [hl]) fun i h1 h2 => ?_
  have hi : i < C.length := by omega
  have hi' : i < (headsC C).length := by unfold headsC; rw [List.length_map]; exact hi
  rw [List.getElem_map]
  have e : (headsC C)[i] = C[i].headD 0 := List.getElem_map (l := C) (fun c : List Int => c.headD 0) (h := by rw [List.length_map]; exact hi)
  rw [e]
  exact byHead_at hnd hl hi

theorem byHead_mem {C : List (List Int)} (hnd : (headsC C).Nodup) {c : List Int} (hc : c ∈ C) : byHead C C [] (c.headD 0) = c := by
  obtain ⟨i, hi, rfl⟩ := List.mem_iff_getElem.1 hc
  exact byHead_at hnd rfl hi

/-- The lists in the order of their least numbers. -/
def ordC (C : List (List Int)) : List (List Int) := (asc (headsC C)).map (byHead C C [])

theorem ordC_eq {s : Int → List Int} {ids : List Int} (hsym : ∀ x ∈ ids, ∀ y ∈ s x, y ∈ ids ∧ x ∈ s y) {C M : List (List Int)} (h : Comps s ids ids.length C) (h' : Comps s ids ids.length M) : ordC C = ordC M := by
  have n1 := headsC_nodup h.nd h.ne
  have n2 := headsC_nodup h'.nd h'.ne
  have hp : (headsC C).Perm (headsC M) := (List.perm_ext_iff_of_nodup n1 n2).2 fun x => by
    unfold headsC
    rw [List.mem_map, List.mem_map]
    exact ⟨fun ⟨c, hc, e⟩ => ⟨c, h.subset hsym h' hc, e⟩, fun ⟨c, hc, e⟩ => ⟨c, h'.subset hsym h hc, e⟩⟩
  have ha : asc (headsC C) = asc (headsC M) := asc_unique ((asc_perm _).trans hp) (asc_sorted _)
  unfold ordC
  rw [← ha]
  refine List.map_congr_left fun x hx => ?_
  obtain ⟨c, hc, rfl⟩ := List.mem_map.1 (asc_mem.1 hx)
  rw [byHead_mem n1 hc, byHead_mem n2 (h.subset hsym h' hc)]

/-- Where two ways to tell the next nodes agree, so do the walks through all and the classes. -/
theorem comps_of_all {s t : Int → List Int} {ids : List Int} (_ : ids.Nodup) (hst : ∀ x ∈ ids, ∀ y, y ∈ t x ↔ y ∈ s x) (hsym : ∀ x ∈ ids, ∀ y ∈ t x, y ∈ ids ∧ x ∈ t y) {L : List (List Int)} (h : DAll t ids ids.length L) : Comps s ids ids.length (L.map asc) := by
  have hts : ∀ u ∈ ids, ∀ x, Reach t u x → x ∈ ids ∧ Reach s u x := fun u hu x r => by
    induction r with
    | refl => exact ⟨hu, .refl⟩
    | step _ hy ih => exact ⟨(hsym _ ih.1 _ hy).1, ih.2.step ((hst _ ih.1 _).1 hy)⟩
  have hstr : ∀ u ∈ ids, ∀ x, Reach s u x → x ∈ ids ∧ Reach t u x := fun u hu x r => by
    induction r with
    | refl => exact ⟨hu, .refl⟩
    | step _ hy ih =>
      have h1 := (hst _ ih.1 _).2 hy
      exact ⟨(hsym _ ih.1 _ h1).1, ih.2.step h1⟩
  have hfl : (L.map asc).flatten.Perm L.flatten := by
    clear h
    induction L with
    | nil => simp
    | cons a L ih => rw [List.map_cons, List.flatten_cons, List.flatten_cons]; exact (asc_perm a).append ih
  refine ⟨fun c hc => ?_, hfl.nodup_iff.2 h.nd, fun x hx => hfl.mem_iff.2 (h.all x hx)⟩
  obtain ⟨l, hl, rfl⟩ := List.mem_map.1 hc
  have hw := h.walk l hl
  have hin : l.headD 0 ∈ l := by
    have := hw.ne
    match l, this with
    | a :: l, _ => exact List.mem_cons_self
  have hu : l.headD 0 ∈ ids := h.sub _ (List.mem_flatten.2 ⟨l, hl, hin⟩)
  refine ⟨l.headD 0, hu, l, hw.nd, rfl, fun x => ⟨fun hx => (hts _ hu x (hw.reach x hx)).2, fun hx => ?_⟩⟩
  have hr := (hstr _ hu x hx).2
  clear hx
  induction hr with
  | refl => exact hin
  | step _ hy ih => exact hw.shut _ ih _ hy

/-- Of a graph without directions: what is told as the next nodes by the definition, and by the program. -/
theorem from_succ {g : Gr} (hok : okGraph g = true) : ∀ x ∈ asc g.nodes, ∀ y, y ∈ gSucc g x ↔ y ∈ sFrom g x := fun x hx y => by
  rw [gSucc_mem hok (asc_mem.1 hx)]
  unfold sFrom
  rw [List.mem_filter, asc_mem]

theorem from_sym {g : Gr} (hd : g.dir = false) : ∀ x ∈ asc g.nodes, ∀ y ∈ sFrom g x, y ∈ asc g.nodes ∧ x ∈ sFrom g y := fun x hx y hy => by
  unfold sFrom at hy ⊢
  rw [List.mem_filter] at hy ⊢
  refine ⟨hy.1, hx, ?_⟩
  have h2 := hy.2
  unfold arcB at h2 ⊢
  rw [List.any_eq_true] at h2 ⊢
  obtain ⟨e, he, hh⟩ := h2
  refine ⟨e, he, decide_eq_true ?_⟩
  rcases of_decide_eq_true hh with ⟨e1, e2⟩ | ⟨e0, e1, e2⟩
  · exact .inr ⟨hd, e1, e2⟩
  · exact .inl ⟨e1, e2⟩

theorem succ_sym {g : Gr} (hok : okGraph g = true) (hd : g.dir = false) : ∀ x ∈ asc g.nodes, ∀ y ∈ gSucc g x, y ∈ asc g.nodes ∧ x ∈ gSucc g y := fun x hx y hy => by
  obtain ⟨h1, h2⟩ := from_sym hd x hx y ((from_succ hok x hx y).1 hy)
  exact ⟨h1, (from_succ hok y h1 x).2 h2⟩
end Go.Proofs.YtgkimjjodhnmiaaGreat
