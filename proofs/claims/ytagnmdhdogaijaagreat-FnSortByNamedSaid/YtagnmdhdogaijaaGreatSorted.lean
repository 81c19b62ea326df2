/- topo.sortedFrom: rows of nodes, one of which is sorted where it stands; what Sort tells.
   topo.sortedFrom: what stands in memory while the lists are made. -/
import Derived.Test.YtagnmdhdogaijaaGreatOrderLaw
import Derived.Test.YtagnmdhdogaijaaGreatTarjan0
namespace Go.Proofs.YtagnmdhdogaijaaGreat
open Go.RowKit

theorem blks_apart {vs : List Value} (h : (blks vs).Nodup) : ∀ {i j : Nat} {u v : Value} {a : Nat}, vs[i]? = some u → vs[j]? = some v → u.ownBlock = some a → v.ownBlock = some a → i = j := by
  induction vs with
  | nil => intro i j u v a hi; simp at hi
  | cons x vs ih =>
    intro i j u v a hi hj hu hv
    have hnd : (blks vs).Nodup := by
      unfold blks at h ⊢
      rw [List.filterMap_cons] at h
      split at h
      · exact h
      · exact (List.nodup_cons.1 h).2
    have hx : ∀ {k : Nat} {y : Value}, x.ownBlock = some a → vs[k]? = some y → y.ownBlock = some a → False := fun {k y} hxa hk hy => by
      unfold blks at h
      rw [List.filterMap_cons, hxa] at h
      exact (List.nodup_cons.1 h).1 (blks_mem hk hy)
    rcases i with _ | i <;> rcases j with _ | j
    · rfl
    · rw [List.getElem?_cons_zero] at hi
      rw [List.getElem?_cons_succ] at hj
      injection hi with hi
      subst hi
      exact (hx hu hj hv).elim
    · rw [List.getElem?_cons_zero] at hj
      rw [List.getElem?_cons_succ] at hi
      injection hj with hj
      subst hj
      exact (hx hv hi hu).elim
    · rw [List.getElem?_cons_succ] at hi hj
      rw [ih hnd hi hj hu hv]

/-- One row is written where it stands; the others stay. -/
theorem NRows.turn {w w' : World} {B k : Nat} {vs : List Value} {l : List (List Int)} {v : Value} {c : List Int} (h : NRows w B vs l) (hnd : (blks vs).Nodup) (hv : vs[k]? = some v)
    (hnew : w'.ownsRow B 81 1 v c.length (nodes c)) (hg : w.grownBy w' v.ownBlock) : NRows w' B vs (l.set k c) := by
  refine ⟨by rw [List.length_set]; exact h.1, fun j u d hu hd => ?_⟩
  by_cases hjk : k = j
  · subst hjk
    rw [hv] at hu
    injection hu with hu
    subst hu
    have hk : k < l.length := by rw [← h.1]; exact (List.getElem?_eq_some_iff.1 hv).1
    rw [List.getElem?_set_self hk] at hd
    injection hd with hd
    subst hd
    exact hnew
  · rw [List.getElem?_set_ne hjk] at hd
    refine (h.2 j u d hu hd).kept hg ?_
    rcases hub : u.ownBlock with _ | a
    · exact .inl rfl
    · exact .inr fun e => hjk (blks_apart hnd hv hu e.symm hub)

theorem asc_one {c : List Int} (h : c.length = 1) : asc c = c := by
  match c, h with
  | [a], _ => exact List.perm_singleton.1 (asc_perm [a])

/-- The components, the first k of them sorted. -/
def rowsUp (M : List (List Int)) (k : Nat) : List (List Int) := (M.take k).map asc ++ M.drop k
theorem rowsUp_zero (M : List (List Int)) : rowsUp M 0 = M := by simp [rowsUp]
theorem rowsUp_end (M : List (List Int)) : rowsUp M M.length = M.map asc := by simp [rowsUp]
theorem rowsUp_get {M : List (List Int)} {k : Nat} (hk : k < M.length) : (rowsUp M k)[k]? = some M[k] := by
  unfold rowsUp
  have hl : ((M.take k).map asc).length = k := by rw [List.length_map, List.length_take]; omega
  rw [List.getElem?_append_right (by omega), hl, Nat.sub_self, List.drop_eq_getElem_cons hk, List.getElem?_cons_zero]
theorem rowsUp_succ {M : List (List Int)} {k : Nat} (hk : k < M.length) : rowsUp M (k + 1) = (rowsUp M k).set k (asc M[k]) := by
  unfold rowsUp
  have hl : ((M.take k).map asc).length = k := by rw [List.length_map, List.length_take]; omega
  rw [List.set_append_right _ _ (by omega), hl, Nat.sub_self, List.drop_eq_getElem_cons hk, List.set_cons_zero, List.take_succ_eq_append_getElem hk, List.map_append, List.append_assoc]
  rfl

/-- What Sort tells of a component: its node, or none. -/
def topV (c : List Int) : Value := if c.length = 1 then nodev (c.headD 0) else .nilIface
/-- The components of more than one node among the first k: their slices, and what stands in them. -/
def cycV (vs : List Value) (M : List (List Int)) : Nat → List Value
  | 0 => []
  | k + 1 => if (M.getD k []).length = 1 then cycV vs M k else cycV vs M k ++ [vs.getD k .nilIface]
def cycL (M : List (List Int)) : Nat → List (List Int)
  | 0 => []
  | k + 1 => if (M.getD k []).length = 1 then cycL M k else cycL M k ++ [asc (M.getD k [])]

theorem NRows.cyc {w : World} {B : Nat} {vs : List Value} {M : List (List Int)} (h : NRows w B vs (M.map asc)) : ∀ k, k ≤ M.length → NRows w B (cycV vs M k) (cycL M k)
  | 0, _ => ⟨rfl, fun j v c hv => by simp [cycV] at hv⟩
  | k + 1, hk => by
    have ih := h.cyc k (by omega)
    unfold cycV cycL
    by_cases h1 : (M.getD k []).length = 1
    · rw [if_pos h1, if_pos h1]; exact ih
    · rw [if_neg h1, if_neg h1]
      have hvl : vs.length = M.length := by rw [h.1, List.length_map]
      have hv : vs[k]? = some (vs.getD k .nilIface) := by
        have : k < vs.length := by omega
        simp [this]
      have hm : (M.map asc)[k]? = some (asc (M.getD k [])) := by
        have : k < M.length := by omega
        simp [this]
      exact ih.more (h.2 k _ _ hv hm)

theorem cycL_none {M : List (List Int)} (h : ∀ c ∈ M, c.length = 1) : ∀ k, k ≤ M.length → cycL M k = []
  | 0, _ => rfl
  | k + 1, hk => by
    have hk' : k < M.length := by omega
    unfold cycL
    rw [if_pos (by have := h M[k] (List.getElem_mem hk'); simpa [hk'] using this)]
    exact cycL_none h k (by omega)
end Go.Proofs.YtagnmdhdogaijaaGreat

namespace Go.Proofs.YtagnmdhdogaijaaGreat
open Go.RowKit

theorem NRows.rev {w : World} {B : Nat} {vs : List Value} {l : List (List Int)} (h : NRows w B vs l) : NRows w B vs.reverse l.reverse := by
  refine ⟨by rw [List.length_reverse, List.length_reverse]; exact h.1, fun k v c hv hc => ?_⟩
  have hk : k < vs.length := by
    have := (List.getElem?_eq_some_iff.1 hv).1
    rwa [List.length_reverse] at this
  rw [List.getElem?_reverse hk] at hv
  rw [List.getElem?_reverse (by rw [← h.1]; exact hk), ← h.1] at hc
  exact h.2 _ v c hv hc

theorem cyc_len (vs : List Value) (M : List (List Int)) : ∀ k, (cycV vs M k).length = (cycL M k).length
  | 0 => rfl
  | k + 1 => by
    unfold cycV cycL
    split
    · exact cyc_len vs M k
    · rw [List.length_append, List.length_append, cyc_len vs M k]; rfl

/-- The lists in the making: the order in sa, the cyclic components in sb; the rows of the components at and above B, of which some were sorted. -/
structure SF (w0 w : World) (B : Nat) (vs xs ys : List Value) (l : List (List Int)) (sa sb : Value) : Prop where
  own : w.ownsRow w0.heap.size 81 1 sa xs.length xs
  sco : w.ownsRow w0.heap.size 58 1 sb ys.length ys
  ap : ∀ j, sa.ownBlock = some j → sb.ownBlock ≠ some j
  nil : ys = [] → sb = .slice none 0 0
  rows : NRows w B vs l
  keep : ∀ j, j < w0.heap.size → j ∉ blks vs → w.heap[j]? = w0.heap[j]?
  os : w.os = w0.os
  tape : w.tape = w0.tape
  output : w.output = w0.output
  size : w0.heap.size ≤ w.heap.size
  low : ∀ j ∈ blks vs, j < w0.heap.size

theorem SF.below {w0 w : World} {B : Nat} {vs xs ys : List Value} {l : List (List Int)} {sa sb : Value} (h : SF w0 w B vs xs ys l sa sb) (hB : B ≤ w0.heap.size) : Below B w0 w :=
  ⟨h.os, h.tape, h.output, h.size, fun j hj => h.keep j (by omega) fun hm => by have := (h.rows.lt j hm).1; omega⟩

theorem SF.order {w0 w w' : World} {B k : Nat} {vs xs ys : List Value} {l : List (List Int)} {sa sb v : Value} {c : List Int} (h : SF w0 w B vs xs ys l sa sb) (hnd : (blks vs).Nodup) (hv : vs[k]? = some v)
    (hnew : w'.ownsRow B 81 1 v c.length (nodes c)) (hg : w.grownBy w' v.ownBlock) : SF w0 w' B vs xs ys (l.set k c) sa sb := by
  have hlow : ∀ j, v.ownBlock = some j → j < w0.heap.size := fun j hj => h.low j (blks_mem hv hj)
  refine ⟨owns_same h.own fun j hj => hg.block j (h.own.lt j hj).2 fun e => ?_, owns_same h.sco fun j hj => hg.block j (h.sco.lt j hj).2 fun e => ?_, h.ap, h.nil, h.rows.turn hnd hv hnew hg, fun j hj hn => ?_,
    hg.os.trans h.os, hg.tape.trans h.tape, hg.output.trans h.output, by have := hg.size; have := h.size; omega, h.low⟩
  · have h1 := hlow j e.symm
    have h2 := (h.own.lt j hj).1
    omega
  · have h1 := hlow j e.symm
    have h2 := (h.sco.lt j hj).1
    omega
  · exact (hg.block j (by have := h.size; omega) (fun e => hn (blks_mem hv e.symm))).trans (h.keep j hj hn)

theorem fresh_block {b b1 : Option Addr} {n m c c1 s j : Nat} (hat : b1 = b ∨ b1 = some ⟨s, 0, none⟩) (hj : (Value.slice b1 m c1).ownBlock = some j) : (Value.slice b n c).ownBlock = some j ∨ j = s := by
  rcases hat with rfl | rfl
  · left; cases b1 <;> exact hj
  · right
    simp only [Value.ownBlock] at hj
    injection hj with hj
    exact hj.symm

theorem SF.push {w0 w w1 : World} {B n c c1 : Nat} {vs xs ys : List Value} {l : List (List Int)} {b b1 : Option Addr} {sb x : Value} {o : Obj} (h : SF w0 w B vs xs ys l (.slice b n c) sb)
    (hg : (w.alloc o).grownBy w1 (Value.slice b n c).ownBlock) (ho : w1.ownsRow w0.heap.size 81 1 (.slice b1 (n + 1) c1) (n + 1) (xs ++ [x])) (hat : b1 = b ∨ b1 = some ⟨(w.alloc o).heap.size, 0, none⟩) (hn : n = xs.length) :
    SF w0 w1 B vs (xs ++ [x]) ys l (.slice b1 (n + 1) c1) sb := by
  subst hn
  have hz : (w.alloc o).heap.size = w.heap.size + 1 := by simp
  have hk : ∀ j, j < w.heap.size → (Value.slice b xs.length c).ownBlock ≠ some j → w1.heap[j]? = w.heap[j]? := fun j hj hn => by
    rw [hg.block j (by omega) (fun e => hn e.symm), Below.heap_alloc _ _ _ hj]
  have hsz := hg.size
  have hs0 := h.size
  have hr : ∀ j ∈ blks vs, (Value.slice b xs.length c).ownBlock ≠ some j := fun j hj e => by
    have h1 := h.low j hj
    have h2 := (h.own.lt j e).1
    omega
  refine ⟨by simpa using ho, owns_same h.sco fun j hj => hk j (h.sco.lt j hj).2 fun e => h.ap j e hj, fun j hj e => ?_, h.nil, h.rows.same fun j hj => hk j (h.rows.lt j hj).2 (hr j hj), fun j hj hn => ?_,
    (hg.os.trans rfl).trans h.os, (hg.tape.trans rfl).trans h.tape, (hg.output.trans rfl).trans h.output, by omega, h.low⟩
  · rcases fresh_block (n := xs.length) (c := c) hat hj with e' | e'
    · exact h.ap j e' e
    · have := (h.sco.lt j e).2; omega
  · rw [hk j (by omega) (fun e => by have := (h.own.lt j e).1; omega)]
    exact h.keep j hj hn

theorem SF.pushC {w0 w w1 : World} {B n c c1 : Nat} {vs xs ys : List Value} {l : List (List Int)} {b b1 : Option Addr} {sa x : Value} {o : Obj} (h : SF w0 w B vs xs ys l sa (.slice b n c))
    (hg : (w.alloc o).grownBy w1 (Value.slice b n c).ownBlock) (ho : w1.ownsRow w0.heap.size 58 1 (.slice b1 (n + 1) c1) (n + 1) (ys ++ [x])) (hat : b1 = b ∨ b1 = some ⟨(w.alloc o).heap.size, 0, none⟩) (hn : n = ys.length) :
    SF w0 w1 B vs xs (ys ++ [x]) l sa (.slice b1 (n + 1) c1) := by
  subst hn
  have hz : (w.alloc o).heap.size = w.heap.size + 1 := by simp
  have hk : ∀ j, j < w.heap.size → (Value.slice b ys.length c).ownBlock ≠ some j → w1.heap[j]? = w.heap[j]? := fun j hj hn => by
    rw [hg.block j (by omega) (fun e => hn e.symm), Below.heap_alloc _ _ _ hj]
  have hsz := hg.size
  have hs0 := h.size
  have hr : ∀ j ∈ blks vs, (Value.slice b ys.length c).ownBlock ≠ some j := fun j hj e => by
    have h1 := h.low j hj
    have h2 := (h.sco.lt j e).1
    omega
  refine ⟨owns_same h.own fun j hj => hk j (h.own.lt j hj).2 fun e => h.ap j hj e, by simpa using ho, fun j hj e => ?_, fun e => by simp at e, h.rows.same fun j hj => hk j (h.rows.lt j hj).2 (hr j hj), fun j hj hn => ?_,
    (hg.os.trans rfl).trans h.os, (hg.tape.trans rfl).trans h.tape, (hg.output.trans rfl).trans h.output, by omega, h.low⟩
  · rcases fresh_block (n := ys.length) (c := c) hat e with e' | e'
    · exact h.ap j hj e'
    · have := (h.own.lt j hj).2; omega
  · rw [hk j (by omega) (fun e => by have := (h.sco.lt j e).1; omega)]
    exact h.keep j hj hn

theorem SF.turnS {w0 w w1 : World} {B : Nat} {vs xs xs' ys : List Value} {l : List (List Int)} {sa sb : Value} (h : SF w0 w B vs xs ys l sa sb) (hg : w.grownBy w1 sa.ownBlock) (hl : xs'.length = xs.length)
    (ho : w1.ownsRow w0.heap.size 81 1 sa xs.length xs') : SF w0 w1 B vs xs' ys l sa sb := by
  have hs0 := h.size
  have hr : ∀ j ∈ blks vs, sa.ownBlock ≠ some j := fun j hj e => by
    have h1 := h.low j hj
    have h2 := (h.own.lt j e).1
    omega
  refine ⟨by rw [hl]; exact ho, owns_same h.sco fun j hj => hg.block j (h.sco.lt j hj).2 fun e => h.ap j e.symm hj, h.ap, h.nil, h.rows.same fun j hj => hg.block j (h.rows.lt j hj).2 fun e => hr j hj e.symm, fun j hj hn => ?_,
    hg.os.trans h.os, hg.tape.trans h.tape, hg.output.trans h.output, by have := hg.size; omega, h.low⟩
  rw [hg.block j (by omega) (fun e => by have := (h.own.lt j e.symm).1; omega)]
  exact h.keep j hj hn

theorem SF.turnC {w0 w w1 : World} {B : Nat} {vs xs ys ys' : List Value} {l : List (List Int)} {sa sb : Value} (h : SF w0 w B vs xs ys l sa sb) (hg : w.grownBy w1 sb.ownBlock) (hl : ys'.length = ys.length)
    (ho : w1.ownsRow w0.heap.size 58 1 sb ys.length ys') : SF w0 w1 B vs xs ys' l sa sb := by
  have hs0 := h.size
  have hr : ∀ j ∈ blks vs, sb.ownBlock ≠ some j := fun j hj e => by
    have h1 := h.low j hj
    have h2 := (h.sco.lt j e).1
    omega
  refine ⟨owns_same h.own fun j hj => hg.block j (h.own.lt j hj).2 fun e => h.ap j hj e.symm, by rw [hl]; exact ho, h.ap, fun e => h.nil (by subst e; exact List.eq_nil_of_length_eq_zero hl.symm), h.rows.same fun j hj => hg.block j (h.rows.lt j hj).2 fun e => hr j hj e.symm, fun j hj hn => ?_,
    hg.os.trans h.os, hg.tape.trans h.tape, hg.output.trans h.output, by have := hg.size; omega, h.low⟩
  rw [hg.block j (by omega) (fun e => by have := (h.sco.lt j e.symm).1; omega)]
  exact h.keep j hj hn

theorem rowsUp_one {M : List (List Int)} {k : Nat} (hk : k < M.length) (h1 : M[k].length = 1) : rowsUp M (k + 1) = rowsUp M k := by
  rw [rowsUp_succ hk, asc_one h1]
  refine List.ext_getElem? fun j => ?_
  by_cases hj : k = j
  · subst hj
    have := rowsUp_get hk
    have hlt := (List.getElem?_eq_some_iff.1 this).1
    rw [List.getElem?_set_self hlt, this]
  · rw [List.getElem?_set_ne hj]

/-- What Sort's error tells. -/
def ErrIs (w : World) (S B : Nat) (l : List (List Int)) (er : Value) : Prop :=
  (l = [] ∧ er = .nilIface) ∨ l ≠ [] ∧ ∃ (b : Option Addr) (c : Nat) (vs : List Value), er = .iface 96 (.slice b l.length c) ∧ w.ownsRow S 58 1 (.slice b l.length c) l.length vs ∧ NRows w B vs l

/-- What sortedFrom gives. -/
def SortedPost (w : World) (B : Nat) (M : List (List Int)) (e : Ending) (w' : World) : Prop :=
  ∃ (a : Option Addr) (c : Nat) (er : Value), e = .returned (.tuple #[.slice a M.length c, er]) ∧ w'.ownsRow w.heap.size 81 1 (.slice a M.length c) M.length (M.map topV).reverse ∧ ErrIs w' w.heap.size B (cycL M M.length).reverse er ∧ Below B w w'

theorem SF.post {w0 w : World} {B : Nat} {vs : List Value} {M : List (List Int)} {a b : Option Addr} {n c m d : Nat} (h : SF w0 w B vs (M.map topV).reverse (cycV vs M M.length).reverse (rowsUp M M.length) (.slice a n c) (.slice b m d))
    (hB : B ≤ w0.heap.size) (hn : n = M.length) (hm : m = (cycL M M.length).length) (he : cycL M M.length ≠ []) :
    SortedPost w0 B M (.returned (.tuple #[.slice a n c, .iface 96 (.slice b m d)])) w := by
  subst hn
  have hl : (cycL M M.length).reverse.length = m := by rw [List.length_reverse]; exact hm.symm
  have ho := h.own
  have hs := h.sco
  rw [List.length_reverse, List.length_map] at ho
  rw [List.length_reverse, cyc_len, ← hm] at hs
  have hr := h.rows
  rw [rowsUp_end] at hr
  refine ⟨a, c, _, rfl, ho, .inr ⟨by simpa using he, b, d, (cycV vs M M.length).reverse, by rw [hl], by rw [hl]; exact hs, (hr.cyc M.length (Nat.le_refl _)).rev⟩, h.below hB⟩

theorem SF.postN {w0 w : World} {B : Nat} {vs ys : List Value} {M : List (List Int)} {a : Option Addr} {n c : Nat} {l : List (List Int)} {sb : Value} (h : SF w0 w B vs (M.map topV).reverse ys l (.slice a n c) sb)
    (hB : B ≤ w0.heap.size) (hn : n = M.length) (he : cycL M M.length = []) : SortedPost w0 B M (.returned (.tuple #[.slice a n c, .nilIface])) w := by
  subst hn
  have ho := h.own
  rw [List.length_reverse, List.length_map] at ho
  exact ⟨a, c, _, rfl, ho, .inl ⟨by rw [he]; rfl, rfl⟩, h.below hB⟩
end Go.Proofs.YtagnmdhdogaijaaGreat
