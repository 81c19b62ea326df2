/- Lists of numbers, each in a row of its own. -/
import Derived.Test.YtfihclhceakmdaaRead0
namespace Go.Proofs.Ytfihclhceakmdaa
open Go.RowKit

def blks (vs : List Value) : List Nat := vs.filterMap Value.ownBlock
theorem blks_mem {vs : List Value} {k : Nat} {v : Value} {j : Nat} (h : vs[k]? = some v) (hj : v.ownBlock = some j) : j ∈ blks vs := List.mem_filterMap.2 ⟨v, List.mem_of_getElem? h, hj⟩
theorem blks_apart {vs : List Value} (h : (blks vs).Nodup) : ∀ {i j : Nat} {u v : Value} {a : Nat}, vs[i]? = some u → vs[j]? = some v → u.ownBlock = some a → v.ownBlock = some a → i = j := by
  induction vs with
  | nil => intro i j u v a hi; simp at hi
  | cons x vs ih =>
    intro i j u v a hi hj hu hv
    have hnd : (blks vs).Nodup := by
      unfold blks at h ⊢
      rw [List.filterMap_cons] at h
      split at h
      · exact h
      · exact (List.nodup_cons.1 h).2
    have hx : ∀ {k : Nat} {y : Value}, x.ownBlock = some a → vs[k]? = some y → y.ownBlock = some a → False := fun {k y} hxa hk hy => by
      unfold blks at h
      rw [List.filterMap_cons, hxa] at h
      exact (List.nodup_cons.1 h).1 (blks_mem hk hy)
    rcases i with _ | i <;> rcases j with _ | j
    · rfl
    · rw [List.getElem?_cons_zero] at hi
      rw [List.getElem?_cons_succ] at hj
      injection hi with hi
      subst hi
      exact (hx hu hj hv).elim
    · rw [List.getElem?_cons_zero] at hj
      rw [List.getElem?_cons_succ] at hi
      injection hj with hj
      subst hj
      exact (hx hv hi hu).elim
    · rw [List.getElem?_cons_succ] at hi hj
      rw [ih hnd hi hj hu hv]


/-- Lists of numbers, each in a row of its own. -/
def IRows (w : World) (B : Nat) (vs : List Value) (l : List (List Int)) : Prop :=
  vs.length = l.length ∧ ∀ (k : Nat) (v : Value) (c : List Int), vs[k]? = some v → l[k]? = some c → w.ownsRow B 3 1 v c.length (ints c)
theorem IRows.lt {w : World} {B : Nat} {vs : List Value} {l : List (List Int)} (h : IRows w B vs l) : ∀ j ∈ blks vs, B ≤ j ∧ j < w.heap.size := by
  intro j hj
  obtain ⟨v, hv, hvj⟩ := List.mem_filterMap.1 hj
  obtain ⟨k, hk, rfl⟩ := List.mem_iff_getElem.1 hv
  have hl : k < l.length := by rw [← h.1]; exact hk
  exact (h.2 k _ _ (List.getElem?_eq_getElem hk) (List.getElem?_eq_getElem hl)).lt j hvj
theorem IRows.same {w w' : World} {B : Nat} {vs : List Value} {l : List (List Int)} (h : IRows w B vs l) (hs : ∀ j ∈ blks vs, w'.heap[j]? = w.heap[j]?) : IRows w' B vs l :=
  ⟨h.1, fun k v c hv hc => owns_same (h.2 k v c hv hc) fun j hj => hs j (blks_mem hv hj)⟩
theorem IRows.more {w : World} {B : Nat} {vs : List Value} {l : List (List Int)} {v : Value} {c : List Int} (h : IRows w B vs l) (hv : w.ownsRow B 3 1 v c.length (ints c)) : IRows w B (vs ++ [v]) (l ++ [c]) := by
  refine ⟨by simp [h.1], fun k v' c' hv' hc' => ?_⟩
  rcases Nat.lt_or_ge k vs.length with hk | hk
  · rw [List.getElem?_append_left hk] at hv'
    rw [List.getElem?_append_left (by rw [← h.1]; exact hk)] at hc'
    exact h.2 k v' c' hv' hc'
  · rw [List.getElem?_append_right hk] at hv'
    rw [List.getElem?_append_right (by rw [← h.1]; exact hk), ← h.1] at hc'
    rcases hj : k - vs.length with _ | m
    · rw [hj] at hv' hc'
      simp at hv' hc'
      subst hv'; subst hc'
      exact hv
    · rw [hj] at hv'; simp at hv'

theorem info_irow : (Try.prog.info? 22).map (fun i => (i.zero, i.size, i.bytes)) = some (some (.slice none 0 0), 1, 24) := by kernel_rfl
end Go.Proofs.Ytfihclhceakmdaa
