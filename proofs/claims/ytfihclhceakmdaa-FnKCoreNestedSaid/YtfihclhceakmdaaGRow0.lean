/- Rows of any type of one cell, each in a block of its own, told by their slices. -/
import Derived.Test.YtfihclhceakmdaaIRows
namespace Go.Proofs.Ytfihclhceakmdaa
open Go.RowKit

def GRows {α : Type} (w : World) (e : TypeId) (enc : α → Value) (B : Nat) (vs : List Value) (l : List (List α)) : Prop :=
  vs.length = l.length ∧ ∀ (k : Nat) (v : Value) (c : List α), vs[k]? = some v → l[k]? = some c → w.ownsRow B e 1 v c.length (c.map enc)

section
variable {α : Type} {w w' : World} {e : TypeId} {enc : α → Value} {B : Nat} {vs : List Value} {l : List (List α)}

theorem GRows.nil (w : World) (e : TypeId) (enc : α → Value) (B : Nat) : GRows w e enc B [] [] := ⟨rfl, fun k v c hv => by simp at hv⟩
theorem GRows.lt (h : GRows w e enc B vs l) : ∀ j ∈ blks vs, B ≤ j ∧ j < w.heap.size := by
  intro j hj
  obtain ⟨v, hv, hvj⟩ := List.mem_filterMap.1 hj
  obtain ⟨k, hk, rfl⟩ := List.mem_iff_getElem.1 hv
  have hl : k < l.length := by rw [← h.1]; exact hk
  exact (h.2 k _ _ (List.getElem?_eq_getElem hk) (List.getElem?_eq_getElem hl)).lt j hvj
theorem GRows.same (h : GRows w e enc B vs l) (hs : ∀ j ∈ blks vs, w'.heap[j]? = w.heap[j]?) : GRows w' e enc B vs l :=
  ⟨h.1, fun k v c hv hc => owns_same (h.2 k v c hv hc) fun j hj => hs j (blks_mem hv hj)⟩
theorem GRows.below (h : GRows w e enc B vs l) (hb : Below w.heap.size w w') : GRows w' e enc B vs l := h.same fun j hj => hb.block j (h.lt j hj).2
theorem GRows.more {v : Value} {c : List α} (h : GRows w e enc B vs l) (hv : w.ownsRow B e 1 v c.length (c.map enc)) : GRows w e enc B (vs ++ [v]) (l ++ [c]) := by
  refine ⟨by simp [h.1], fun k v' c' hv' hc' => ?_⟩
  rcases Nat.lt_or_ge k vs.length with hk | hk
  · rw [List.getElem?_append_left hk] at hv'
    rw [List.getElem?_append_left (by rw [← h.1]; exact hk)] at hc'
    exact h.2 k v' c' hv' hc'
  · rw [List.getElem?_append_right hk] at hv'
    rw [List.getElem?_append_right (by rw [← h.1]; exact hk), ← h.1] at hc'
    rcases hj : k - vs.length with _ | m
    · rw [hj] at hv' hc'
      simp at hv' hc'
      subst hv'; subst hc'
      exact hv
    · rw [hj] at hv'; simp at hv'

/-- A cell of one row set. -/
theorem GRows.put {k j g n cap : Nat} (h : GRows w e enc B vs l) (hnd : (blks vs).Nodup) (hv : vs[k]? = some (.slice (some ⟨g, 0, none⟩) n cap)) (x : α) : GRows (w.setCell ⟨g, j, none⟩ (enc x)) e enc B vs (l.modify k fun c => c.set j x) := by
  refine ⟨by rw [List.length_modify]; exact h.1, fun i u d hu hd => ?_⟩
  rw [List.getElem?_modify] at hd
  by_cases hik : k = i
  · subst hik
    rw [hv] at hu
    injection hu with hu
    subst hu
    cases hl0 : l[k]? with
    | none => rw [hl0] at hd; simp at hd
    | some c =>
      rw [hl0] at hd
      simp at hd
      subst hd
      have h0 := h.2 k _ _ hv hl0
      have hn : n = c.length := by
        obtain ⟨_, _, e, _⟩ := owns_cells h0
        injection e
      subst hn
      rw [List.length_set, List.map_set]
      exact owns_set h0 (enc x)
  · have hd2 : l[i]? = some d := by
      cases hl0 : l[i]? with
      | none => rw [hl0] at hd; simp at hd
      | some l0 => rw [hl0] at hd; simp [hik] at hd; rw [hd]
    refine owns_same (h.2 i u d hu hd2) fun q hq => ?_
    refine Below.heap_setCell _ _ _ _ fun e' => ?_
    subst e'
    exact hik (blks_apart hnd hv hu rfl hq)

theorem GRows.at_ (h : GRows w e enc B vs l) {i : Nat} (hi : i < l.length) (hn : 0 < l[i].length) :
    ∃ g c, vs[i]? = some (.slice (some ⟨g, 0, none⟩) l[i].length c) ∧ B ≤ g ∧ g < w.heap.size ∧ ∀ j (hj : j < l[i].length), w.cell? ⟨g, j, none⟩ = some (enc l[i][j]) ∧ w.frozen? ⟨g, j, none⟩ = false := by
  have hv : vs[i]? = some (vs[i]'(by rw [h.1]; exact hi)) := List.getElem?_eq_getElem _
  have h0 := h.2 i _ _ hv (List.getElem?_eq_getElem hi)
  obtain ⟨a, c, e', _⟩ := owns_cells h0
  rw [e'] at hv h0
  obtain ⟨g, rfl, h1, h2, _⟩ := owns_at h0 hn
  exact ⟨g, c, hv, h1, h2, fun j hj => ⟨owns_cell h0 (by rw [List.getElem?_map, List.getElem?_eq_getElem hj]; rfl), owns_free h0 j⟩⟩
end

theorem blks_snoc (vs : List Value) (v : Value) : blks (vs ++ [v]) = blks vs ++ v.ownBlock.toList := by
  unfold blks; rw [List.filterMap_append]; congr 1
end Go.Proofs.Ytfihclhceakmdaa
