/- laws.ordered: the walk, at the answer of impl.Sort. -/
import Derived.Test.YtagnmdhdogaijaaGreatOrdLaw
import Derived.Test.YtagnmdhdogaijaaGreatLists
import Derived.Deep.RegionLaw
import Derived.Deep.CutBlock
namespace Go.Proofs.YtagnmdhdogaijaaGreat
open Go.RowKit

theorem slotCells_get (os : List (Option Int)) (k : Nat) (o : Option Int) (h : os[k]? = some o) : (slotCells os)[k * 2]? = some (.bool o.isNone) ∧ (slotCells os)[k * 2 + 1]? = some (.int .i64 (o.getD 0)) := by
  induction os generalizing k with
  | nil => simp at h
  | cons q os ih =>
    have e : slotCells (q :: os) = slotC q ++ slotCells os := List.flatMap_cons
    have hl := slotC_length q
    cases k with
    | zero =>
      rw [List.getElem?_cons_zero] at h
      injection h with h
      subst h
      rw [e]
      cases q <;> exact ⟨rfl, rfl⟩
    | succ k =>
      rw [List.getElem?_cons_succ] at h
      obtain ⟨h1, h2⟩ := ih k h
      rw [e, List.getElem?_append_right (by omega), List.getElem?_append_right (by omega), hl]
      rw [show (k + 1) * 2 - 2 = k * 2 by omega, show (k + 1) * 2 + 1 - 2 = k * 2 + 1 by omega]
      exact ⟨h1, h2⟩

/-- Two lists of numbers that grow side by side, and a row that is read. -/
structure Gath (w0 w : World) (D : Nat) (sa sp : Value) (n m : Nat) (xs ps : List Int) (pb po : Nat) (c : List Int) : Prop where
  a : w.ownsRow D 3 1 sa n (ints xs)
  p : w.ownsRow D 3 1 sp m (ints ps)
  ap : ∀ j, sa.ownBlock = some j → sp.ownBlock ≠ some j
  below : Below D w0 w
  hD : D ≤ w.heap.size
  r : w.rangeAt pb po (ints c)
  rl : pb < w.heap.size
  ra : sa.ownBlock ≠ some pb
  rp : sp.ownBlock ≠ some pb

theorem Gath.pushA {w0 w w1 : World} {D n m ca c1 pb po : Nat} {ba b1 : Option Addr} {sp : Value} {xs ps c : List Int} {o : Obj} {x : Int} (h : Gath w0 w D (.slice ba n ca) sp n m xs ps pb po c)
    (hg : (w.alloc o).grownBy w1 (Value.slice ba n ca).ownBlock) (ho : w1.ownsRow D 3 1 (.slice b1 (n + 1) c1) (n + 1) (ints xs ++ [.int .i64 x])) (hat : b1 = ba ∨ b1 = some ⟨(w.alloc o).heap.size, 0, none⟩) :
    Gath w0 w1 D (.slice b1 (n + 1) c1) sp (n + 1) m (xs ++ [x]) ps pb po c := by
  have hz : (w.alloc o).heap.size = w.heap.size + 1 := by simp
  have hk : ∀ j, j < w.heap.size → (Value.slice ba n ca).ownBlock ≠ some j → w1.heap[j]? = w.heap[j]? := fun j hj hn => by
    rw [hg.block j (by omega) (fun e => hn e.symm), Below.heap_alloc _ _ _ hj]
  have hsz := hg.size
  have hl := h.rl
  have hDz := h.hD
  refine ⟨by have e : ints (xs ++ [x]) = ints xs ++ [.int .i64 x] := by simp [ints]
             rw [e]; exact ho, owns_same h.p fun j hj => hk j (h.p.lt j hj).2 fun e => h.ap j e hj, fun j hj e => ?_, ?_, by omega, fun j u hj => ?_, by omega, fun e => ?_, h.rp⟩
  · rcases fresh_block (n := n) (c := ca) hat hj with e' | e'
    · exact h.ap j e' e
    · have := (h.p.lt j e).2; omega
  · have hb := h.below
    refine ⟨(hg.os.trans rfl).trans hb.os, (hg.tape.trans rfl).trans hb.tape, (hg.output.trans rfl).trans hb.output, by have := hb.size; omega, fun j hj => ?_⟩
    rw [hk j (by omega) (fun e => by have := (h.a.lt j e).1; omega), hb.block j hj]
  · rw [World.cell?_of_block (hk pb hl h.ra)]
    exact h.r j u hj
  · rcases fresh_block (n := n) (c := ca) hat e with e' | e'
    · exact h.ra e'
    · omega

theorem Gath.pushP {w0 w w1 : World} {D n m cp c1 pb po : Nat} {bp b1 : Option Addr} {sa : Value} {xs ps c : List Int} {o : Obj} {x : Int} (h : Gath w0 w D sa (.slice bp m cp) n m xs ps pb po c)
    (hg : (w.alloc o).grownBy w1 (Value.slice bp m cp).ownBlock) (ho : w1.ownsRow D 3 1 (.slice b1 (m + 1) c1) (m + 1) (ints ps ++ [.int .i64 x])) (hat : b1 = bp ∨ b1 = some ⟨(w.alloc o).heap.size, 0, none⟩) :
    Gath w0 w1 D sa (.slice b1 (m + 1) c1) n (m + 1) xs (ps ++ [x]) pb po c := by
  have hz : (w.alloc o).heap.size = w.heap.size + 1 := by simp
  have hk : ∀ j, j < w.heap.size → (Value.slice bp m cp).ownBlock ≠ some j → w1.heap[j]? = w.heap[j]? := fun j hj hn => by
    rw [hg.block j (by omega) (fun e => hn e.symm), Below.heap_alloc _ _ _ hj]
  have hsz := hg.size
  have hl := h.rl
  have hDz := h.hD
  refine ⟨owns_same h.a fun j hj => hk j (h.a.lt j hj).2 fun e => h.ap j hj e, by have e : ints (ps ++ [x]) = ints ps ++ [.int .i64 x] := by simp [ints]
                                                                                  rw [e]; exact ho, fun j hj e => ?_, ?_, by omega, fun j u hj => ?_, by omega, h.ra, fun e => ?_⟩
  · rcases fresh_block (n := m) (c := cp) hat e with e' | e'
    · exact h.ap j hj e'
    · have := (h.a.lt j hj).2; omega
  · have hb := h.below
    refine ⟨(hg.os.trans rfl).trans hb.os, (hg.tape.trans rfl).trans hb.tape, (hg.output.trans rfl).trans hb.output, by have := hb.size; omega, fun j hj => ?_⟩
    rw [hk j (by omega) (fun e => by have := (h.p.lt j e).1; omega), hb.block j hj]
  · rw [World.cell?_of_block (hk pb hl h.rp)]
    exact h.r j u hj
  · rcases fresh_block (n := m) (c := cp) hat e with e' | e'
    · exact h.rp e'
    · omega

/-- The same without a row. -/
structure TwoI (w0 w : World) (D : Nat) (sa sp : Value) (n : Nat) (xs ps : List Int) : Prop where
  a : w.ownsRow D 3 1 sa n (ints xs)
  p : w.ownsRow D 3 1 sp n (ints ps)
  ap : ∀ j, sa.ownBlock = some j → sp.ownBlock ≠ some j
  below : Below D w0 w
  hD : D ≤ w.heap.size
theorem Gath.two {w0 w : World} {D : Nat} {sa sp : Value} {n pb po : Nat} {xs ps c : List Int} (h : Gath w0 w D sa sp n n xs ps pb po c) : TwoI w0 w D sa sp n xs ps := ⟨h.a, h.p, h.ap, h.below, h.hD⟩
theorem TwoI.new {w0 w : World} {D : Nat} {sa sp : Value} {n : Nat} {xs ps : List Int} (h : TwoI w0 w D sa sp n xs ps) (x : Int) (e : TypeId) : Gath w0 (w.alloc (.cells #[.int .i64 x] e)) D sa sp n n xs ps w.heap.size 0 [x] := by
  refine ⟨h.a.alloc _, h.p.alloc _, h.ap, h.below.alloc h.hD _, by simp; have := h.hD; omega, fun j u hj => ?_, by simp, fun e => ?_, fun e => ?_⟩
  · rcases j with _ | j
    · simp [ints] at hj
      subst hj
      have := new_one w (.int .i64 x) e 0 _ rfl
      rw [Addr.add_mid] at this
      exact this
    · simp [ints] at hj
  · have := (h.a.lt _ e).2; omega
  · have := (h.p.lt _ e).2; omega
theorem TwoI.old {w0 w : World} {D : Nat} {sa sp : Value} {n pb po : Nat} {xs ps c : List Int} (h : TwoI w0 w D sa sp n xs ps) (o : Obj) (hr : w0.rangeAt pb po (ints c)) (hp : pb < D) : Gath w0 (w.alloc o) D sa sp n n xs ps pb po c := by
  refine ⟨h.a.alloc _, h.p.alloc _, h.ap, h.below.alloc h.hD _, by simp; have := h.hD; omega, fun j u hj => ?_, by simp; have := h.hD; omega, fun e => ?_, fun e => ?_⟩
  · rw [World.cell?_of_block ((h.below.alloc h.hD o).block pb hp)]
    exact hr j u hj
  · have := (h.a.lt _ e).1; omega
  · have := (h.p.lt _ e).1; omega
end Go.Proofs.YtagnmdhdogaijaaGreat
