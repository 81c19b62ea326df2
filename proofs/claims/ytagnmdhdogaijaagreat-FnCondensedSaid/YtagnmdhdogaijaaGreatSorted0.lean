/- topo.sortedFrom: rows of nodes, one of which is sorted where it stands; what Sort tells. -/
import Derived.Test.YtagnmdhdogaijaaGreatOrderLaw
import Derived.Test.YtagnmdhdogaijaaGreatTarjan0
namespace Go.Proofs.YtagnmdhdogaijaaGreat
open Go.RowKit

theorem blks_apart {vs : List Value} (h : (blks vs).Nodup) : ∀ {i j : Nat} {u v : Value} {a : Nat}, vs[i]? = some u → vs[j]? = some v → u.ownBlock = some a → v.ownBlock = some a → i = j := by
  induction vs with
  | nil => intro i j u v a hi; simp at hi
  | cons x vs ih =>
    intro i j u v a hi hj hu hv
    have hnd : (blks vs).Nodup := by
      unfold blks at h ⊢
      rw [List.filterMap_cons] at h
      split at h
      · exact h
      · exact (List.nodup_cons.1 h).2
    have hx : ∀ {k : Nat} {y : Value}, x.ownBlock = some a → vs[k]? = some y → y.ownBlock = some a → False := fun {k y} hxa hk hy => by
      unfold blks at h
      rw [List.filterMap_cons, hxa] at h
      exact (List.nodup_cons.1 h).1 (blks_mem hk hy)
    rcases i with _ | i <;> rcases j with _ | j
    · rfl
    · rw [List.getElem?_cons_zero] at hi
      rw [List.getElem?_cons_succ] at hj
      injection hi with hi
      subst hi
      exact (hx hu hj hv).elim
    · rw [List.getElem?_cons_zero] at hj
      rw [List.getElem?_cons_succ] at hi
      injection hj with hj
      subst hj
      exact (hx hv hi hu).elim
    · rw [List.getElem?_cons_succ] at hi hj
      rw [ih hnd hi hj hu hv]

/-- One row is written where it stands; the others stay. -/
theorem NRows.turn {w w' : World} {B k : Nat} {vs : List Value} {l : List (List Int)} {v : Value} {c : List Int} (h : NRows w B vs l) (hnd : (blks vs).Nodup) (hv : vs[k]? = some v)
    (hnew : w'.ownsRow B 81 1 v c.length (nodes c)) (hg : w.grownBy w' v.ownBlock) : NRows w' B vs (l.set k c) := by
  refine ⟨by rw [List.length_set]; exact h.1, fun j u d hu hd => ?_⟩
  by_cases hjk : k = j
  · subst hjk
    rw [hv] at hu
    injection hu with hu
    subst hu
    have hk : k < l.length := by rw [← h.1]; exact (List.getElem?_eq_some_iff.1 hv).1
    rw [List.getElem?_set_self hk] at hd
    injection hd with hd
    subst hd
    exact hnew
  · rw [List.getElem?_set_ne hjk] at hd
    refine (h.2 j u d hu hd).kept hg ?_
    rcases hub : u.ownBlock with _ | a
    · exact .inl rfl
    · exact .inr fun e => hjk (blks_apart hnd hv hu e.symm hub)

theorem asc_one {c : List Int} (h : c.length = 1) : asc c = c := by
  match c, h with
  | [a], _ => exact List.perm_singleton.1 (asc_perm [a])

/-- The components, the first k of them sorted. -/
def rowsUp (M : List (List Int)) (k : Nat) : List (List Int) := (M.take k).map asc ++ M.drop k
theorem rowsUp_zero (M : List (List Int)) : rowsUp M 0 = M := by simp [rowsUp]
theorem rowsUp_end (M : List (List Int)) : rowsUp M M.length = M.map asc := by simp [rowsUp]
theorem rowsUp_get {M : List (List Int)} {k : Nat} (hk : k < M.length) : (rowsUp M k)[k]? = some M[k] := by
  unfold rowsUp
  have hl : ((M.take k).map asc).length = k := by rw [List.length_map, List.length_take]; omega
  rw [List.getElem?_append_right (by omega), hl, Nat.sub_self, List.drop_eq_getElem_cons hk, List.getElem?_cons_zero]
theorem rowsUp_succ {M : List (List Int)} {k : Nat} (hk : k < M.length) : rowsUp M (k + 1) = (rowsUp M k).set k (asc M[k]) := by
  unfold rowsUp
  have hl : ((M.take k).map asc).length = k := by rw [List.length_map, List.length_take]; omega
  rw [List.set_append_right _ _ (by omega), hl, Nat.sub_self, List.drop_eq_getElem_cons hk, List.set_cons_zero, List.take_succ_eq_append_getElem hk, List.map_append, List.append_assoc]
  rfl

/-- What Sort tells of a component: its node, or none. -/
def topV (c : List Int) : Value := if c.length = 1 then nodev (c.headD 0) else .nilIface
/-- The components of more than one node among the first k: their slices, and what stands in them. -/
def cycV (vs : List Value) (M : List (List Int)) : Nat → List Value
  | 0 => []
  | k + 1 => if (M.getD k []).length = 1 then cycV vs M k else cycV vs M k ++ [vs.getD k .nilIface]
def cycL (M : List (List Int)) : Nat → List (List Int)
  | 0 => []
  | k + 1 => if (M.getD k []).length = 1 then cycL M k else cycL M k ++ [asc (M.getD k [])]

theorem NRows.cyc {w : World} {B : Nat} {vs : List Value} {M : List (List Int)} (h : NRows w B vs (M.map asc)) : ∀ k, k ≤ M.length → NRows w B (cycV vs M k) (cycL M k)
  | 0, _ => ⟨rfl, fun j v c hv => by simp [cycV] at hv⟩
  | k + 1, hk => by
    have ih := h.cyc k (by omega)
    unfold cycV cycL
    by_cases h1 : (M.getD k []).length = 1
    · rw [if_pos h1, if_pos h1]; exact ih
    · rw [if_neg h1, if_neg h1]
      have hvl : vs.length = M.length := by rw [h.1, List.length_map]
      have hv : vs[k]? = some (vs.getD k .nilIface) := by
        have : k < vs.length := by omega
        simp [this]
      have hm : (M.map asc)[k]? = some (asc (M.getD k [])) := by
        have : k < M.length := by omega
        simp [this]
      exact ih.more (h.2 k _ _ hv hm)

theorem cycL_none {M : List (List Int)} (h : ∀ c ∈ M, c.length = 1) : ∀ k, k ≤ M.length → cycL M k = []
  | 0, _ => rfl
  | k + 1, hk => by
    have hk' : k < M.length := by omega
    unfold cycL
    rw [if_pos (by have := h M[k] (List.getElem_mem hk'); simpa [hk'] using this)]
    exact cycL_none h k (by omega)
end Go.Proofs.YtagnmdhdogaijaaGreat
