/- Rows of any type of one cell, each in a block of its own, told by their slices. -/
import Derived.Test.YtagnmdhdogaijaaGreatSorted
import Derived.Test.YtagnmdhdogaijaaGreatReachLaw
namespace Go.Proofs.YtagnmdhdogaijaaGreat
open Go.RowKit

def GRows {α : Type} (w : World) (e : TypeId) (enc : α → Value) (B : Nat) (vs : List Value) (l : List (List α)) : Prop :=
  vs.length = l.length ∧ ∀ (k : Nat) (v : Value) (c : List α), vs[k]? = some v → l[k]? = some c → w.ownsRow B e 1 v c.length (c.map enc)

section
variable {α : Type} {w w' : World} {e : TypeId} {enc : α → Value} {B : Nat} {vs : List Value} {l : List (List α)}

theorem GRows.nil (w : World) (e : TypeId) (enc : α → Value) (B : Nat) : GRows w e enc B [] [] := ⟨rfl, fun k v c hv => by simp at hv⟩
theorem GRows.lt (h : GRows w e enc B vs l) : ∀ j ∈ blks vs, B ≤ j ∧ j < w.heap.size := by
  intro j hj
  obtain ⟨v, hv, hvj⟩ := List.mem_filterMap.1 hj
  obtain ⟨k, hk, rfl⟩ := List.mem_iff_getElem.1 hv
  have hl : k < l.length := by rw [← h.1]; exact hk
  exact (h.2 k _ _ (List.getElem?_eq_getElem hk) (List.getElem?_eq_getElem hl)).lt j hvj
theorem GRows.same (h : GRows w e enc B vs l) (hs : ∀ j ∈ blks vs, w'.heap[j]? = w.heap[j]?) : GRows w' e enc B vs l :=
  ⟨h.1, fun k v c hv hc => owns_same (h.2 k v c hv hc) fun j hj => hs j (blks_mem hv hj)⟩
theorem GRows.below (h : GRows w e enc B vs l) (hb : Below w.heap.size w w') : GRows w' e enc B vs l := h.same fun j hj => hb.block j (h.lt j hj).2
theorem GRows.more {v : Value} {c : List α} (h : GRows w e enc B vs l) (hv : w.ownsRow B e 1 v c.length (c.map enc)) : GRows w e enc B (vs ++ [v]) (l ++ [c]) := by
  refine ⟨by simp [h.1], fun k v' c' hv' hc' => ?_⟩
  rcases Nat.lt_or_ge k vs.length with hk | hk
  · rw [List.getElem?_append_left hk] at hv'
    rw [List.getElem?_append_left (by rw [← h.1]; exact hk)] at hc'
    exact h.2 k v' c' hv' hc'
  · rw [List.getElem?_append_right hk] at hv'
    rw [List.getElem?_append_right (by rw [← h.1]; exact hk), ← h.1] at hc'
    rcases hj : k - vs.length with _ | m
    · rw [hj] at hv' hc'
      simp at hv' hc'
      subst hv'; subst hc'
      exact hv
    · rw [hj] at hv'; simp at hv'

/-- A cell of one row set. -/
theorem GRows.put {k j g n cap : Nat} (h : GRows w e enc B vs l) (hnd : (blks vs).Nodup) (hv : vs[k]? = some (.slice (some ⟨g, 0, none⟩) n cap)) (x : α) : GRows (w.setCell ⟨g, j, none⟩ (enc x)) e enc B vs (l.modify k fun c => c.set j x) := by
  refine ⟨by rw [List.length_modify]; exact h.1, fun i u d hu hd => ?_⟩
  rw [List.getElem?_modify] at hd
  by_cases hik : k = i
  · subst hik
    rw [hv] at hu
    injection hu with hu
    subst hu
    cases hl0 : l[k]? with
    | none => rw [hl0] at hd; simp at hd
    | some c =>
      rw [hl0] at hd
      simp at hd
      subst hd
      have h0 := h.2 k _ _ hv hl0
      have hn : n = c.length := by
        obtain ⟨_, _, e, _⟩ := owns_cells h0
        injection e
      subst hn
      rw [List.length_set, List.map_set]
      exact owns_set h0 (enc x)
  · have hd2 : l[i]? = some d := by
      cases hl0 : l[i]? with
      | none => rw [hl0] at hd; simp at hd
      | some l0 => rw [hl0] at hd; simp [hik] at hd; rw [hd]
    refine owns_same (h.2 i u d hu hd2) fun q hq => ?_
    refine Below.heap_setCell _ _ _ _ fun e' => ?_
    subst e'
    exact hik (blks_apart hnd hv hu rfl hq)

theorem GRows.at_ (h : GRows w e enc B vs l) {i : Nat} (hi : i < l.length) (hn : 0 < l[i].length) :
    ∃ g c, vs[i]? = some (.slice (some ⟨g, 0, none⟩) l[i].length c) ∧ B ≤ g ∧ g < w.heap.size ∧ ∀ j (hj : j < l[i].length), w.cell? ⟨g, j, none⟩ = some (enc l[i][j]) ∧ w.frozen? ⟨g, j, none⟩ = false := by
  have hv : vs[i]? = some (vs[i]'(by rw [h.1]; exact hi)) := List.getElem?_eq_getElem _
  have h0 := h.2 i _ _ hv (List.getElem?_eq_getElem hi)
  obtain ⟨a, c, e', _⟩ := owns_cells h0
  rw [e'] at hv h0
  obtain ⟨g, rfl, h1, h2, _⟩ := owns_at h0 hn
  exact ⟨g, c, hv, h1, h2, fun j hj => ⟨owns_cell h0 (by rw [List.getElem?_map, List.getElem?_eq_getElem hj]; rfl), owns_free h0 j⟩⟩
end

theorem blks_snoc (vs : List Value) (v : Value) : blks (vs ++ [v]) = blks vs ++ v.ownBlock.toList := by
  unfold blks; rw [List.filterMap_append]; congr 1

/-- One row more: a row in a new block, appended to the rows' list. -/
theorem grow_step {α : Type} {e eo : TypeId} {enc : α → Value} {wr w6 : World} {D k n : Nat} {b ax : Option Addr} {cb cx : Nat} {vs2 : List Value} {l : List (List α)} {c : List α} {o : Obj} (hn : n = c.length) (hown : wr.ownsRow D eo 1 (.slice b k cb) k vs2) (hrows : GRows wr e enc D vs2 l)
    (hdis : ∀ j ∈ blks vs2, (Value.slice b k cb).ownBlock ≠ some j) (hnd : (blks vs2).Nodup) (hb6 : Below wr.heap.size wr w6) (own6 : w6.ownsRow wr.heap.size e 1 (.slice ax n cx) n (c.map enc)) (hD : D ≤ wr.heap.size) :
    w6.ownsRow D eo 1 (.slice b k cb) k vs2 ∧ D ≤ w6.heap.size ∧ Hid (∀ w7 b2 c2, (w6.alloc o).grownBy w7 (Value.slice b k cb).ownBlock → w7.ownsRow D eo 1 (.slice b2 (k + 1) c2) (k + 1) (vs2 ++ [.slice ax n cx]) → (b2 = b ∨ b2 = some ⟨(w6.alloc o).heap.size, 0, none⟩) →
      GRows w7 e enc D (vs2 ++ [.slice ax n cx]) (l ++ [c]) ∧ (∀ j ∈ blks (vs2 ++ [.slice ax n cx]), (Value.slice b2 (k + 1) c2).ownBlock ≠ some j) ∧ (blks (vs2 ++ [.slice ax n cx])).Nodup ∧ Below D wr w7) := by
  subst hn
  have hz6 := hb6.size
  have hold : ∀ j, j < wr.heap.size → w6.heap[j]? = wr.heap[j]? := fun j hj => hb6.block j hj
  have hown6 : w6.ownsRow D eo 1 (.slice b k cb) k vs2 := owns_same hown fun j hj => hold j (hown.lt j hj).2
  refine ⟨hown6, by omega, fun w7 b2 c2 hg7 ho7 hat => ?_⟩
  have hsz : (w6.alloc o).heap.size = w6.heap.size + 1 := by simp
  have h7 : ∀ j, j < w6.heap.size → (Value.slice b k cb).ownBlock ≠ some j → w7.heap[j]? = w6.heap[j]? := fun j hj hne => by
    rw [hg7.block j (by omega) (fun e => hne e.symm), Below.heap_alloc _ _ _ hj]
  have hr7 : GRows w7 e enc D vs2 l := hrows.same fun j hj => by
    have := hrows.lt j hj
    rw [h7 j (by omega) (hdis j hj), hold j this.2]
  have hx7 : w7.ownsRow D e 1 (.slice ax c.length cx) c.length (c.map enc) := by
    have h1 : w7.ownsRow wr.heap.size e 1 (.slice ax c.length cx) c.length (c.map enc) := owns_same own6 fun j hj => h7 j (own6.lt j hj).2 (fun e => by
      have h1 := (own6.lt j hj).1
      have h2 := (hown.lt j e).2
      omega)
    exact owns_base h1 hD
  have hnew : ∀ j, (Value.slice b2 (k + 1) c2).ownBlock = some j → (Value.slice b k cb).ownBlock = some j ∨ w6.heap.size ≤ j := by
    intro j hj
    rcases hat with rfl | rfl
    · left; cases b2 <;> exact hj
    · right
      simp only [Value.ownBlock] at hj
      injection hj with hj
      omega
  refine ⟨hr7.more hx7, fun j hj e => ?_, ?_, ⟨(hg7.os.trans rfl).trans hb6.os, (hg7.tape.trans rfl).trans hb6.tape, (hg7.output.trans rfl).trans hb6.output, by have := hg7.size; omega, fun j hj => ?_⟩⟩
  · rw [blks_snoc] at hj
    rcases List.mem_append.1 hj with hj | hj
    · have h1 := hrows.lt j hj
      rcases hnew j e with e' | e'
      · exact hdis j hj e'
      · omega
    · rw [Option.mem_toList] at hj
      have h1 := own6.lt j hj
      rcases hnew j e with e' | e'
      · have := (hown.lt j e').2; omega
      · omega
  · rw [blks_snoc]
    refine List.nodup_append.2 ⟨hnd, ?_, fun x hx y hy => ?_⟩
    · cases (Value.slice ax c.length cx).ownBlock <;> simp
    · rw [Option.mem_toList] at hy
      have h1 := (hrows.lt x hx).2
      have h2 := (own6.lt y hy).1
      omega
  · rw [h7 j (by omega) (fun e => by have := (hown.lt j e).1; omega), hold j (by omega)]

/-- A cell of a square table of Booleans. -/
theorem table_cell {w : World} {e : TypeId} {B n : Nat} {vs : List Value} {T : List (List Bool)} (h : GRows w e Value.bool B vs T) (hsq : Square n T) {i : Nat} (hi : i < n) :
    ∃ g c, vs[i]? = some (.slice (some ⟨g, 0, none⟩) n c) ∧ B ≤ g ∧ g < w.heap.size ∧ ∀ j, j < n → w.cell? ⟨g, j, none⟩ = some (.bool (atB T i j)) ∧ w.frozen? ⟨g, j, none⟩ = false := by
  have hiT : i < T.length := by rw [hsq.1]; exact hi
  have hl : T[i].length = n := hsq.2 _ (List.getElem_mem hiT)
  obtain ⟨g, c, h1, h2, h3, h4⟩ := h.at_ hiT (by omega)
  rw [hl] at h1
  refine ⟨g, c, h1, h2, h3, fun j hj => ?_⟩
  obtain ⟨x1, x2⟩ := h4 j (by omega)
  refine ⟨?_, x2⟩
  rw [x1]
  unfold atB
  simp [hiT, hl, hj]
end Go.Proofs.YtagnmdhdogaijaaGreat
