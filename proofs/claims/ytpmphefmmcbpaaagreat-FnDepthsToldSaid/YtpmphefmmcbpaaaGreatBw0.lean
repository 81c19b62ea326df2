/- The walk breadth first: its record in memory, with the list that its visits are noted in. -/
import Derived.Test.YtpmphefmmcbpaaaGreatISet
import Derived.Test.YtpmphefmmcbpaaaGreatBfs1
import Derived.Test.YtpmphefmmcbpaaaGreatDfs0
import Derived.Test.YtpmphefmmcbpaaaGreatBfsD
namespace Go.Proofs.YtpmphefmmcbpaaaGreat
open Go.RowKit

/-- The visits as they lie in memory. -/
def visCells (L : List (Int × Int)) : List Value := L.flatMap fun p => [.int .i64 p.1, .int .i64 p.2]
theorem visCells_append (L M : List (Int × Int)) : visCells (L ++ M) = visCells L ++ visCells M := by unfold visCells; rw [List.flatMap_append]
theorem visCells_one (p : Int × Int) : visCells [p] = [.int .i64 p.1, .int .i64 p.2] := by simp [visCells]
theorem visCells_length (L : List (Int × Int)) : (visCells L).length = L.length * 2 := by
  induction L with
  | nil => rfl
  | cons p L ih => simp only [visCells, List.flatMap_cons, List.length_append, List.length_cons, List.length_nil] at *; omega
theorem visCells_get (L : List (Int × Int)) (j : Nat) (hj : j < L.length) : (visCells L)[j * 2]? = some (.int .i64 L[j].1) ∧ (visCells L)[j * 2 + 1]? = some (.int .i64 L[j].2) := by
  induction L generalizing j with
  | nil => simp at hj
  | cons p L ih =>
    cases j with
    | zero => simp [visCells]
    | succ j =>
      have e3 : ∀ r, (visCells (p :: L))[(j + 1) * 2 + r]? = (visCells L)[j * 2 + r]? := fun r => by
        show (([.int .i64 p.1, .int .i64 p.2] : List Value) ++ visCells L)[(j + 1) * 2 + r]? = _
        rw [List.getElem?_append_right (by simp; omega)]
        congr 1
        simp; omega
      have := ih j (by simpa using hj)
      exact ⟨(e3 0).trans this.1, (e3 1).trans this.2⟩
theorem visCells_set (L : List (Int × Int)) (j : Nat) (hj : j < L.length) (d : Int) : (visCells L).set (j * 2 + 1) (.int .i64 d) = visCells (L.set j (L[j].1, d)) := by
  induction L generalizing j with
  | nil => simp at hj
  | cons p L ih =>
    cases j with
    | zero => simp [visCells]
    | succ j =>
      have h1 := ih j (by simpa using hj)
      have e : (j + 1) * 2 + 1 = (j * 2 + 1) + 1 + 1 := by omega
      have e0 : visCells (p :: L) = .int .i64 p.1 :: .int .i64 p.2 :: visCells L := by simp [visCells]
      rw [e0, e, List.set_cons_succ, List.set_cons_succ, h1]
      simp [visCells]

/-- The blocks of a walk. -/
def bfoot (w : World) (tb mb pb : Nat) (pa : Value) : List Nat := [tb, mb, pb] ++ (qblk w tb).toList ++ pa.ownBlock.toList
theorem mem_bfoot {w : World} {j tb mb pb : Nat} {pa : Value} : j ∈ bfoot w tb mb pb pa ↔ j = tb ∨ j = mb ∨ j = pb ∨ qblk w tb = some j ∨ pa.ownBlock = some j := by
  unfold bfoot
  cases h1 : qblk w tb <;> cases h2 : pa.ownBlock <;> simp [eq_comm]

structure BfsAt (w : World) (ids : List Int) (A B tb mb pb N : Nat) (fv ft : Value) (q O : List Int) (L : List (Int × Int)) (pa : Value) : Prop where
  que : QAt w B tb N ⟨fv, ft, .map (some mb)⟩ q
  set : ISetAt w ids mb O
  pblk : VBlk w pb 30 pa
  prow : w.ownsRow B 37 2 pa L.length (visCells L)
  lts : tb < B ∧ mb < B ∧ pb < B ∧ B ≤ w.heap.size
  low : A ≤ tb ∧ A ≤ mb ∧ A ≤ pb
  ne : tb ≠ mb ∧ tb ≠ pb ∧ mb ≠ pb
  ap : ∀ j, qblk w tb = some j → pa.ownBlock ≠ some j

section
variable {w w' : World} {ids : List Int} {A B tb mb pb N : Nat} {fv ft : Value} {q O : List Int} {L : List (Int × Int)} {pa : Value}

theorem BfsAt.footlt (h : BfsAt w ids A B tb mb pb N fv ft q O L pa) : ∀ k ∈ bfoot w tb mb pb pa, k < w.heap.size := fun k hk => by
  have l := h.lts
  rcases mem_bfoot.1 hk with e | e | e | e | e
  · omega
  · omega
  · omega
  · exact (h.que.qge k e).2
  · exact (h.prow.lt k e).2

theorem BfsAt.footlow (h : BfsAt w ids A B tb mb pb N fv ft q O L pa) : ∀ k ∈ bfoot w tb mb pb pa, A ≤ k := fun k hk => by
  have l := h.lts
  have o := h.low
  rcases mem_bfoot.1 hk with e | e | e | e | e
  · omega
  · omega
  · omega
  · have := (h.que.qge k e).1; omega
  · have := (h.prow.lt k e).1; omega

theorem BfsAt.same (h : BfsAt w ids A B tb mb pb N fv ft q O L pa) (hf : ∀ j ∈ bfoot w tb mb pb pa, w'.heap[j]? = w.heap[j]?) (hs : w.heap.size ≤ w'.heap.size) :
    BfsAt w' ids A B tb mb pb N fv ft q O L pa ∧ bfoot w' tb mb pb pa = bfoot w tb mb pb pa := by
  obtain ⟨q1, q2⟩ := h.que.same (hf tb (mem_bfoot.2 (by simp))) (fun k hk => hf k (mem_bfoot.2 (by simp [hk]))) hs
  refine ⟨⟨q1, h.set.same (hf mb (mem_bfoot.2 (by simp))), (hf pb (mem_bfoot.2 (by simp))).trans h.pblk, owns_same h.prow fun j hj => hf j (mem_bfoot.2 (by simp [hj])), ⟨h.lts.1, h.lts.2.1, h.lts.2.2.1, Nat.le_trans h.lts.2.2.2 hs⟩, h.low, h.ne, fun j hj => h.ap j (by rw [← q2]; exact hj)⟩, ?_⟩
  unfold bfoot; rw [q2]

theorem BfsAt.below (h : BfsAt w ids A B tb mb pb N fv ft q O L pa) (hb : Below w.heap.size w w') : BfsAt w' ids A B tb mb pb N fv ft q O L pa ∧ bfoot w' tb mb pb pa = bfoot w tb mb pb pa :=
  h.same (fun j hj => hb.block j (h.footlt j hj)) hb.size

/-- The set of what was visited has grown. -/
theorem BfsAt.put (h : BfsAt w ids A B tb mb pb N fv ft q O L pa) {O' : List Int} (hg : w.grownBy w' (some mb)) (hi : ISetAt w' ids mb O') : BfsAt w' ids A B tb mb pb N fv ft q O' L pa ∧ bfoot w' tb mb pb pa = bfoot w tb mb pb pa := by
  have l := h.lts
  have hk : ∀ j, j < w.heap.size → j ≠ mb → w'.heap[j]? = w.heap[j]? := fun j hj hn => hg.block j hj (fun e => by injection e with e; exact hn e)
  obtain ⟨q1, q2⟩ := h.que.same (hk tb (by omega) h.ne.1) (fun k e => by have := h.que.qge k e; exact hk k this.2 (by omega)) hg.size
  refine ⟨⟨q1, hi, (hk pb (by omega) (fun e => h.ne.2.2 e.symm)).trans h.pblk, owns_same h.prow fun j hj => ?_, ⟨l.1, l.2.1, l.2.2.1, Nat.le_trans l.2.2.2 hg.size⟩, h.low, h.ne, fun j hj => h.ap j (by rw [← q2]; exact hj)⟩, ?_⟩
  · have := h.prow.lt j hj; exact hk j this.2 (by omega)
  · unfold bfoot; rw [q2]

/-- A call of the queue. -/
theorem BfsAt.queue (h : BfsAt w ids A B tb mb pb N fv ft q O L pa) {N' : Nat} {q' : List Int} (hq : QAt w' B tb N' ⟨fv, ft, .map (some mb)⟩ q') (ht : Touch tb w w') :
    BfsAt w' ids A B tb mb pb N' fv ft q' O L pa ∧ Moves (bfoot w tb mb pb pa) w (bfoot w' tb mb pb pa) w' := by
  have l := h.lts
  have hk : ∀ j, j < w.heap.size → j ≠ tb → qblk w tb ≠ some j → w'.heap[j]? = w.heap[j]? := fun j hj h1 h2 => ht.block j hj h1 fun e => h2 e.symm
  have hlow : ∀ j, j < B → qblk w tb ≠ some j := fun j hj e => by have := (h.que.qge j e).1; omega
  have hsz := ht.size
  refine ⟨⟨hq, h.set.same (hk mb (by omega) (fun e => h.ne.1 e.symm) (hlow mb l.2.1)), (hk pb (by omega) (fun e => h.ne.2.1 e.symm) (hlow pb l.2.2.1)).trans h.pblk, owns_same h.prow fun j hj => ?_, ⟨l.1, l.2.1, l.2.2.1, by omega⟩, h.low, h.ne, fun j hj e => ?_⟩, ht.os, ht.tape, ht.output, hsz, fun j hj hn => ?_, fun j hj => ?_⟩
  · have := h.prow.lt j hj; exact hk j this.2 (by omega) (fun e => h.ap j e hj)
  · rcases ht.row j hj with e' | e'
    · exact h.ap j e' e
    · have := (h.prow.lt j e).2; omega
  · exact hk j hj (fun e => hn (mem_bfoot.2 (.inl e))) (fun e => hn (mem_bfoot.2 (by simp [e])))
  · rcases mem_bfoot.1 hj with e | e | e | e | e
    · exact .inl (mem_bfoot.2 (by simp [e]))
    · exact .inl (mem_bfoot.2 (by simp [e]))
    · exact .inl (mem_bfoot.2 (by simp [e]))
    · rcases ht.row j e with e' | e'
      · exact .inl (mem_bfoot.2 (by simp [e']))
      · exact .inr e'
    · exact .inl (mem_bfoot.2 (by simp [e]))

/-- A visit noted: behind the append, and the store of its result. -/
theorem BfsAt.note {a : Option Addr} {k c : Nat} (h : BfsAt w ids A B tb mb pb N fv ft q O L (.slice a k c)) (x y : Int) {o : Obj} {w1 : World} {b1 : Option Addr} {c1 : Nat} (hk : k = L.length) (hg : (w.alloc o).grownBy w1 (Value.slice a k c).ownBlock)
    (ho : w1.ownsRow B 37 2 (.slice b1 (k + 1) c1) (k + 1) (visCells L ++ [.int .i64 x, .int .i64 y])) (hat : ∀ j, (Value.slice b1 (k + 1) c1).ownBlock = some j → (Value.slice a k c).ownBlock = some j ∨ w.heap.size ≤ j) :
    VBlk w1 pb 30 (.slice a k c) ∧ Hid (BfsAt (w1.setCell ⟨pb, 0, none⟩ (.slice b1 (k + 1) c1)) ids A B tb mb pb N fv ft q O (L ++ [(x, y)]) (.slice b1 (k + 1) c1) ∧
      Moves (bfoot w tb mb pb (.slice a k c)) w (bfoot (w1.setCell ⟨pb, 0, none⟩ (.slice b1 (k + 1) c1)) tb mb pb (.slice b1 (k + 1) c1)) (w1.setCell ⟨pb, 0, none⟩ (.slice b1 (k + 1) c1))) := by
  subst hk
  have l := h.lts
  have n := h.ne
  have hp := h.prow.lt
  have hz : (w.alloc o).heap.size = w.heap.size + 1 := by simp
  have hkk : ∀ j, j < w.heap.size → (Value.slice a L.length c).ownBlock ≠ some j → w1.heap[j]? = w.heap[j]? := fun j hj hn => by
    rw [hg.block j (by omega) (fun e => hn e.symm), Below.heap_alloc _ _ _ hj]
  have hsz : w.heap.size ≤ w1.heap.size := by have := hg.size; omega
  have hlow : ∀ j, j < B → (Value.slice a L.length c).ownBlock ≠ some j := fun j hj e => by have := (hp j e).1; omega
  have b1' : VBlk w1 pb 30 (.slice a L.length c) := (hkk pb (by omega) (hlow pb (by omega))).trans h.pblk
  have hh : ∀ j, j ≠ pb → (w1.setCell ⟨pb, 0, none⟩ (.slice b1 (L.length + 1) c1)).heap[j]? = w1.heap[j]? := fun j hj => Below.heap_setCell _ _ _ _ hj
  have hzz : w.heap.size ≤ (w1.setCell ⟨pb, 0, none⟩ (.slice b1 (L.length + 1) c1)).heap.size := by simp [World.setCell]; omega
  obtain ⟨q1, q2⟩ := h.que.same (w' := w1.setCell ⟨pb, 0, none⟩ (.slice b1 (L.length + 1) c1)) ((hh tb n.2.1).trans (hkk tb (by omega) (hlow tb l.1))) (fun j hj => by have := h.que.qge j hj; exact (hh j (by omega)).trans (hkk j this.2 (h.ap j hj))) hzz
  refine ⟨b1', ⟨q1, ?_, b1'.set _, ?_, ⟨l.1, l.2.1, l.2.2.1, by omega⟩, h.low, h.ne, fun j hj e => ?_⟩, hg.os, hg.tape, hg.output, hzz, fun j hj hn => ?_, fun j hj => ?_⟩
  · exact h.set.same ((hh mb (by omega)).trans (hkk mb (by omega) (hlow mb (by omega))))
  · have e1 : (L ++ [(x, y)]).length = L.length + 1 := by simp
    have e2 : visCells (L ++ [(x, y)]) = visCells L ++ [.int .i64 x, .int .i64 y] := by rw [visCells_append, visCells_one]
    rw [e1, e2]
    exact owns_same ho fun j hj => by have := ho.lt j hj; exact hh j (by omega)
  · rw [q2] at hj
    rcases hat j e with e' | e'
    · exact h.ap j hj e'
    · have := (h.que.qge j hj).2; omega
  · have hjt : j ≠ pb := fun e => hn (mem_bfoot.2 (.inr (.inr (.inl e))))
    rw [hh j hjt]
    exact hkk j hj (fun e => hn (mem_bfoot.2 (by simp [e])))
  · rcases mem_bfoot.1 hj with e | e | e | e | e
    · exact .inl (mem_bfoot.2 (by simp [e]))
    · exact .inl (mem_bfoot.2 (by simp [e]))
    · exact .inl (mem_bfoot.2 (by simp [e]))
    · rw [q2] at e; exact .inl (mem_bfoot.2 (by simp [e]))
    · rcases hat j e with e' | e'
      · exact .inl (mem_bfoot.2 (by simp [e']))
      · exact .inr e'

/-- A visit's depth set: a store into the row of the visits. -/
theorem BfsAt.deep {g k c : Nat} (h : BfsAt w ids A B tb mb pb N fv ft q O L (.slice (some ⟨g, 0, none⟩) k c)) (hk : k = L.length) {j : Nat} (hj : j < L.length) (d : Int) :
    BfsAt (w.setCell ⟨g, j * 2 + 1, none⟩ (.int .i64 d)) ids A B tb mb pb N fv ft q O (L.set j (L[j].1, d)) (.slice (some ⟨g, 0, none⟩) k c) ∧
      bfoot (w.setCell ⟨g, j * 2 + 1, none⟩ (.int .i64 d)) tb mb pb (.slice (some ⟨g, 0, none⟩) k c) = bfoot w tb mb pb (.slice (some ⟨g, 0, none⟩) k c) ∧
      Moves (bfoot w tb mb pb (.slice (some ⟨g, 0, none⟩) k c)) w (bfoot w tb mb pb (.slice (some ⟨g, 0, none⟩) k c)) (w.setCell ⟨g, j * 2 + 1, none⟩ (.int .i64 d)) := by
  subst hk
  have l := h.lts
  have hp := h.prow.lt g rfl
  have hh : ∀ i, i ≠ g → (w.setCell ⟨g, j * 2 + 1, none⟩ (.int .i64 d)).heap[i]? = w.heap[i]? := fun i hi => Below.heap_setCell _ _ _ _ hi
  have hz : w.heap.size ≤ (w.setCell ⟨g, j * 2 + 1, none⟩ (.int .i64 d)).heap.size := by simp [World.setCell]
  obtain ⟨q1, q2⟩ := h.que.same (w' := w.setCell ⟨g, j * 2 + 1, none⟩ (.int .i64 d)) (hh tb (by omega)) (fun i hi => hh i (fun e => h.ap i hi (by rw [e]; rfl))) hz
  have hst := (h.prow.stored (j * 2 + 1) (.int .i64 d)).1
  rw [visCells_set L j hj d] at hst
  refine ⟨⟨q1, h.set.same (hh mb (by omega)), (hh pb (by omega)).trans h.pblk, by rw [List.length_set]; exact hst, ⟨l.1, l.2.1, l.2.2.1, by omega⟩, h.low, h.ne, fun i hi => h.ap i (by rw [← q2]; exact hi)⟩, ?_, Moves.of_setCell _ _ (mem_bfoot.2 (by simp [Value.ownBlock]))⟩
  unfold bfoot; rw [q2]
end
end Go.Proofs.YtpmphefmmcbpaaaGreat
