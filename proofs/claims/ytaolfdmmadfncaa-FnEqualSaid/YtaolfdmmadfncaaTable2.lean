/- laws.tableOf: how the table lies in memory while it is built. No program in sight but for types' numbers. -/
import Derived.Test.YtaolfdmmadfncaaTable0
import Derived.Test.YtaolfdmmadfncaaPlain
namespace Go.Proofs.Ytaolfdmmadfncaa
open Go.RowKit

theorem size_setCell' (w : World) (p : Addr) (u : Value) : (w.setCell p u).heap.size = w.heap.size := by simp [World.setCell]

/-- Rows of n cells each, in blocks of their own from B on. -/
def TRows {α : Type} (w : World) (e : TypeId) (enc : α → Value) (B n : Nat) (gs : List Nat) (t : List (List α)) : Prop :=
  gs.length = t.length ∧ gs.Nodup ∧ ∀ (j g : Nat) (l : List α), gs[j]? = some g → t[j]? = some l → B ≤ g ∧ g < w.heap.size ∧ l.length = n ∧ w.heap[g]? = some (.cells (l.map enc).toArray e (0, 0))

/-- The values of the rows. -/
def rowVs (n : Nat) (gs : List Nat) : List Value := gs.map fun g => .slice (some ⟨g, 0, none⟩) n n

theorem TRows.lt {α : Type} {w : World} {e : TypeId} {enc : α → Value} {B n : Nat} {gs : List Nat} {t : List (List α)} (h : TRows w e enc B n gs t) : ∀ g ∈ gs, B ≤ g ∧ g < w.heap.size := by
  intro g hg
  obtain ⟨j, hj, rfl⟩ := List.mem_iff_getElem.1 hg
  have ht : j < t.length := by rw [← h.1]; exact hj
  obtain ⟨h1, h2, _⟩ := h.2.2 j _ _ (List.getElem?_eq_getElem hj) (List.getElem?_eq_getElem ht)
  exact ⟨h1, h2⟩

theorem TRows.same {α : Type} {w w' : World} {e : TypeId} {enc : α → Value} {B n : Nat} {gs : List Nat} {t : List (List α)} (h : TRows w e enc B n gs t) (hs : w.heap.size ≤ w'.heap.size) (hb : ∀ g ∈ gs, w'.heap[g]? = w.heap[g]?) : TRows w' e enc B n gs t :=
  ⟨h.1, h.2.1, fun j g l hg hl => by
    obtain ⟨h1, h2, h3, h4⟩ := h.2.2 j g l hg hl
    exact ⟨h1, Nat.lt_of_lt_of_le h2 hs, h3, (hb g (List.mem_of_getElem? hg)).trans h4⟩⟩

/-- One row more, in a new block. -/
theorem TRows.more {α : Type} {w : World} {e : TypeId} {enc : α → Value} {B n g : Nat} {gs : List Nat} {t : List (List α)} {l : List α} (h : TRows w e enc B n gs t) (hB : B ≤ g) (hg : g < w.heap.size) (hl : l.length = n) (hc : w.heap[g]? = some (.cells (l.map enc).toArray e (0, 0))) (hn : g ∉ gs) :
    TRows w e enc B n (gs ++ [g]) (t ++ [l]) := by
  refine ⟨by simp [h.1], List.nodup_append.2 ⟨h.2.1, by simp, fun a ha b hb => by rw [List.mem_singleton] at hb; rw [hb]; exact fun e => hn (e ▸ ha)⟩, fun j g' l' hg' hl' => ?_⟩
  rcases Nat.lt_or_ge j gs.length with hj | hj
  · rw [List.getElem?_append_left hj] at hg'
    rw [List.getElem?_append_left (by rw [← h.1]; exact hj)] at hl'
    exact h.2.2 j g' l' hg' hl'
  · rw [List.getElem?_append_right hj] at hg'
    rw [List.getElem?_append_right (by rw [← h.1]; exact hj), ← h.1] at hl'
    rcases hjj : j - gs.length with _ | m
    · rw [hjj] at hg' hl'
      simp at hg' hl'
      subst hg'; subst hl'
      exact ⟨hB, hg, hl, hc⟩
    · rw [hjj] at hg'; simp at hg'

/-- A cell of one row set. -/
theorem TRows.set {α : Type} {w : World} {e : TypeId} {enc : α → Value} {B n g i k : Nat} {gs : List Nat} {t : List (List α)} (h : TRows w e enc B n gs t) (hg : gs[i]? = some g) (x : α) :
    TRows (w.setCell ⟨g, k, none⟩ (enc x)) e enc B n gs (t.modify i fun l => l.set k x) := by
  refine ⟨by rw [List.length_modify]; exact h.1, h.2.1, fun j g' l' hg' hl' => ?_⟩
  rw [List.getElem?_modify] at hl'
  by_cases hij : i = j
  · subst hij
    rw [hg] at hg'
    injection hg' with hg'
    subst hg'
    cases hl0 : t[i]? with
    | none => rw [hl0] at hl'; simp at hl'
    | some l0 =>
      rw [hl0] at hl'
      simp at hl'
      subst hl'
      obtain ⟨h1, h2, h3, h4⟩ := h.2.2 i g l0 hg hl0
      refine ⟨h1, by rw [size_setCell']; exact h2, by rw [List.length_set]; exact h3, ?_⟩
      have hs : (w.setCell ⟨g, k, none⟩ (enc x)).heap[g]? = some (.cells ((l0.map enc).toArray.setIfInBounds k (enc x)) e (0, 0)) := by
        simp [World.setCell, Array.getElem?_modify, h4]
      rw [hs, List.map_set]
      simp
  · have hne : g' ≠ g := fun e' => by
      have hi := (List.getElem?_eq_some_iff.1 hg)
      have hj := (List.getElem?_eq_some_iff.1 hg')
      obtain ⟨hi1, hi2⟩ := hi
      obtain ⟨hj1, hj2⟩ := hj
      exact hij ((List.getElem_inj h.2.1).1 (by rw [hi2, hj2, e']))
    have hl2 : t[j]? = some l' := by
      cases hl0 : t[j]? with
      | none => rw [hl0] at hl'; simp at hl'
      | some l0 => rw [hl0] at hl'; simp [hij] at hl'; rw [hl']
    obtain ⟨h1, h2, h3, h4⟩ := h.2.2 j g' l' hg' hl2
    exact ⟨h1, by rw [size_setCell']; exact h2, h3, (Below.heap_setCell _ _ _ _ hne).trans h4⟩

/-- The block of the table's three fields. -/
def SBlock (w : World) (sb : Nat) (x y z : Value) : Prop := w.heap[sb]? = some (.cells #[x, y, z] 33 (0, 0))

/-- The table while its rows are being made. -/
structure Making (w : World) (B sb n ka kw : Nat) (nv sa sw : Value) (gs hs : List Nat) : Prop where
  blk : SBlock w sb nv sa sw
  sbB : sb < B
  hB : B ≤ w.heap.size
  oa : w.ownsRow B 37 1 sa ka (rowVs n gs)
  ow : w.ownsRow B 22 1 sw kw (rowVs n hs)
  ra : TRows w 4 Value.bool B n gs (List.replicate ka (List.replicate n false))
  rw_ : TRows w 3 (Value.int .i64) B n hs (List.replicate kw (List.replicate n 0))
  ga : ∀ g ∈ gs ++ hs, sa.ownBlock ≠ some g
  gw : ∀ g ∈ gs ++ hs, sw.ownBlock ≠ some g
  aw : ∀ j, sa.ownBlock = some j → sw.ownBlock ≠ some j
  gh : ∀ g ∈ gs, g ∉ hs

theorem SBlock.c1 {w : World} {sb : Nat} {x y z : Value} (h : SBlock w sb x y z) : w.cell? ⟨sb, 1, none⟩ = some y := by
  unfold SBlock at h; simp [World.cell?, h]
theorem SBlock.c2 {w : World} {sb : Nat} {x y z : Value} (h : SBlock w sb x y z) : w.cell? ⟨sb, 2, none⟩ = some z := by
  unfold SBlock at h; simp [World.cell?, h]
theorem SBlock.free {w : World} {sb : Nat} {x y z : Value} (h : SBlock w sb x y z) (j : Nat) : w.frozen? ⟨sb, j, none⟩ = false := by
  unfold SBlock at h; simp [World.frozen?, h]
theorem SBlock.set1 {w : World} {sb : Nat} {x y z : Value} (h : SBlock w sb x y z) (u : Value) : SBlock (w.setCell ⟨sb, 1, none⟩ u) sb x u z := by
  unfold SBlock at h ⊢; simp [World.setCell, Array.getElem?_modify, h]
theorem SBlock.set2 {w : World} {sb : Nat} {x y z : Value} (h : SBlock w sb x y z) (u : Value) : SBlock (w.setCell ⟨sb, 2, none⟩ u) sb x y u := by
  unfold SBlock at h ⊢; simp [World.setCell, Array.getElem?_modify, h]

/-- A row of Booleans more: what stands behind the append and the store into the table's block. -/
theorem Making.moreA {w w5 : World} {B sb n ka kw g2 c2 : Nat} {nv sa sw : Value} {gs hs : List Nat} (M : Making w B sb n ka kw nv sa sw gs hs) {W : World} (hz : W.heap.size = w.heap.size + 2) (hW : ∀ j, j < w.heap.size → W.heap[j]? = w.heap[j]?) (hnw : W.heap[w.heap.size]? = some (.cells (List.replicate n (Value.bool false)).toArray 4 (0, 0)))
    (hg : W.grownBy w5 sa.ownBlock)
    (own : w5.ownsRow B 37 1 (.slice (some ⟨g2, 0, none⟩) (ka + 1) c2) (ka + 1) (rowVs n gs ++ [.slice (some ⟨w.heap.size, 0, none⟩) n n]))
    (hat : sa.ownBlock = some g2 ∨ g2 = w.heap.size + 2) :
    w5.cell? ⟨sb, 1, none⟩ = some sa ∧ w5.frozen? ⟨sb, 1, none⟩ = false ∧ Hid (Making (w5.setCell ⟨sb, 1, none⟩ (.slice (some ⟨g2, 0, none⟩) (ka + 1) c2)) B sb n (ka + 1) kw nv (.slice (some ⟨g2, 0, none⟩) (ka + 1) c2) sw (gs ++ [w.heap.size]) hs) := by
  have hB := M.hB
  have hsb := M.sbB
  have lta := M.oa.lt
  have ltw := M.ow.lt
  have hold : ∀ j, j < w.heap.size → some j ≠ sa.ownBlock → w5.heap[j]? = w.heap[j]? := fun j hj hne => by
    rw [hg.block j (by omega) hne, hW j hj]
  have hnew : w5.heap[w.heap.size]? = some (.cells (List.replicate n (Value.bool false)).toArray 4 (0, 0)) := by
    rw [hg.block _ (by omega) (fun e => by have := (lta _ e.symm).2; omega), hnw]
  have hs5 : w.heap.size + 2 ≤ w5.heap.size := by have := hg.size; omega
  have hb5 : SBlock w5 sb nv sa sw := (hold sb (by omega) (fun e => by have := (lta _ e.symm).1; omega)).trans M.blk
  have hset : ∀ j, j ≠ sb → (w5.setCell ⟨sb, 1, none⟩ (.slice (some ⟨g2, 0, none⟩) (ka + 1) c2)).heap[j]? = w5.heap[j]? := fun j hj => Below.heap_setCell _ _ _ _ hj
  have hg2 : g2 ∉ gs ++ [w.heap.size] ∧ g2 ∉ hs := by
    rcases hat with h | h
    · have h1 := lta _ h
      refine ⟨fun hm => ?_, fun hm => M.ga g2 (List.mem_append.2 (.inr hm)) h⟩
      rcases List.mem_append.1 hm with hm | hm
      · exact M.ga g2 (List.mem_append.2 (.inl hm)) h
      · rw [List.mem_singleton] at hm; omega
    · refine ⟨fun hm => ?_, fun hm => by have := (M.rw_.lt g2 hm).2; omega⟩
      rcases List.mem_append.1 hm with hm | hm
      · have := (M.ra.lt g2 hm).2; omega
      · rw [List.mem_singleton] at hm; omega
  refine ⟨hb5.c1, hb5.free 1, ⟨hb5.set1 _, hsb, by rw [size_setCell']; omega, ?_, ?_, ?_, ?_, ?_, ?_, ?_, ?_⟩⟩
  · rw [show rowVs n (gs ++ [w.heap.size]) = rowVs n gs ++ [.slice (some ⟨w.heap.size, 0, none⟩) n n] by simp [rowVs]]
    exact set_old own hsb
  · refine set_old (owns_same M.ow (fun j hj => hold j (ltw j hj).2 (fun e => M.aw j e.symm hj))) hsb
  · have h1 : TRows w5 4 Value.bool B n gs (List.replicate ka (List.replicate n false)) := M.ra.same (by omega) (fun g hgm => hold g (M.ra.lt g hgm).2 (fun e => M.ga g (List.mem_append.2 (.inl hgm)) e.symm))
    have h2 : TRows (w5.setCell ⟨sb, 1, none⟩ (.slice (some ⟨g2, 0, none⟩) (ka + 1) c2)) 4 Value.bool B n gs (List.replicate ka (List.replicate n false)) := h1.same (by rw [size_setCell']; exact Nat.le_refl _) (fun g hgm => hset g (by have := (M.ra.lt g hgm).1; omega))
    have h3 := h2.more (g := w.heap.size) (l := List.replicate n false) hB (by rw [size_setCell']; omega) (by simp) (by rw [hset _ (by omega), hnew]; simp) (fun hm => by have := (M.ra.lt _ hm).2; omega)
    rwa [← List.replicate_succ'] at h3
  · have h1 : TRows w5 3 (Value.int .i64) B n hs (List.replicate kw (List.replicate n 0)) := M.rw_.same (by omega) (fun g hgm => hold g (M.rw_.lt g hgm).2 (fun e => M.ga g (List.mem_append.2 (.inr hgm)) e.symm))
    exact h1.same (by rw [size_setCell']; exact Nat.le_refl _) (fun g hgm => hset g (by have := (M.rw_.lt g hgm).1; omega))
  · intro g hgm e
    simp only [Value.ownBlock] at e
    injection e with e
    rcases List.mem_append.1 hgm with h | h
    · exact hg2.1 (e ▸ h)
    · exact hg2.2 (e ▸ h)
  · intro g hgm
    rcases List.mem_append.1 hgm with h | h
    · rcases List.mem_append.1 h with h | h
      · exact M.gw g (List.mem_append.2 (.inl h))
      · rw [List.mem_singleton] at h
        intro e; have := (ltw g e).2; omega
    · exact M.gw g (List.mem_append.2 (.inr h))
  · intro j hj
    simp only [Value.ownBlock] at hj
    injection hj with hj
    intro e
    rcases hat with h | h
    · exact M.aw g2 h (hj ▸ e)
    · have := (ltw j e).2; omega
  · intro g hgm
    rcases List.mem_append.1 hgm with h | h
    · exact M.gh g h
    · rw [List.mem_singleton] at h
      intro hm; have := (M.rw_.lt g hm).2; omega

/-- A row of numbers more: what stands behind the append and the store into the table's block. -/
theorem Making.moreW {w w5 : World} {B sb n ka kw g2 c2 : Nat} {nv sa sw : Value} {gs hs : List Nat} (M : Making w B sb n ka kw nv sa sw gs hs) {W : World} (hz : W.heap.size = w.heap.size + 2) (hW : ∀ j, j < w.heap.size → W.heap[j]? = w.heap[j]?) (hnw : W.heap[w.heap.size]? = some (.cells (List.replicate n (Value.int .i64 0)).toArray 3 (0, 0)))
    (hg : W.grownBy w5 sw.ownBlock)
    (own : w5.ownsRow B 22 1 (.slice (some ⟨g2, 0, none⟩) (kw + 1) c2) (kw + 1) (rowVs n hs ++ [.slice (some ⟨w.heap.size, 0, none⟩) n n]))
    (hat : sw.ownBlock = some g2 ∨ g2 = w.heap.size + 2) :
    w5.cell? ⟨sb, 2, none⟩ = some sw ∧ w5.frozen? ⟨sb, 2, none⟩ = false ∧ Hid (Making (w5.setCell ⟨sb, 2, none⟩ (.slice (some ⟨g2, 0, none⟩) (kw + 1) c2)) B sb n ka (kw + 1) nv sa (.slice (some ⟨g2, 0, none⟩) (kw + 1) c2) gs (hs ++ [w.heap.size])) := by
  have hB := M.hB
  have hsb := M.sbB
  have lta := M.oa.lt
  have ltw := M.ow.lt
  have hold : ∀ j, j < w.heap.size → some j ≠ sw.ownBlock → w5.heap[j]? = w.heap[j]? := fun j hj hne => by
    rw [hg.block j (by omega) hne, hW j hj]
  have hnew : w5.heap[w.heap.size]? = some (.cells (List.replicate n (Value.int .i64 0)).toArray 3 (0, 0)) := by
    rw [hg.block _ (by omega) (fun e => by have := (ltw _ e.symm).2; omega), hnw]
  have hs5 : w.heap.size + 2 ≤ w5.heap.size := by have := hg.size; omega
  have hb5 : SBlock w5 sb nv sa sw := (hold sb (by omega) (fun e => by have := (ltw _ e.symm).1; omega)).trans M.blk
  have hset : ∀ j, j ≠ sb → (w5.setCell ⟨sb, 2, none⟩ (.slice (some ⟨g2, 0, none⟩) (kw + 1) c2)).heap[j]? = w5.heap[j]? := fun j hj => Below.heap_setCell _ _ _ _ hj
  have hg2 : g2 ∉ gs ∧ g2 ∉ hs ++ [w.heap.size] := by
    rcases hat with h | h
    · have h1 := ltw _ h
      refine ⟨fun hm => M.gw g2 (List.mem_append.2 (.inl hm)) h, fun hm => ?_⟩
      rcases List.mem_append.1 hm with hm | hm
      · exact M.gw g2 (List.mem_append.2 (.inr hm)) h
      · rw [List.mem_singleton] at hm; omega
    · refine ⟨fun hm => by have := (M.ra.lt g2 hm).2; omega, fun hm => ?_⟩
      rcases List.mem_append.1 hm with hm | hm
      · have := (M.rw_.lt g2 hm).2; omega
      · rw [List.mem_singleton] at hm; omega
  refine ⟨hb5.c2, hb5.free 2, ⟨hb5.set2 _, hsb, by rw [size_setCell']; omega, ?_, ?_, ?_, ?_, ?_, ?_, ?_, ?_⟩⟩
  · refine set_old (owns_same M.oa (fun j hj => hold j (lta j hj).2 (fun e => M.aw j hj e.symm))) hsb
  · rw [show rowVs n (hs ++ [w.heap.size]) = rowVs n hs ++ [.slice (some ⟨w.heap.size, 0, none⟩) n n] by simp [rowVs]]
    exact set_old own hsb
  · have h1 : TRows w5 4 Value.bool B n gs (List.replicate ka (List.replicate n false)) := M.ra.same (by omega) (fun g hgm => hold g (M.ra.lt g hgm).2 (fun e => M.gw g (List.mem_append.2 (.inl hgm)) e.symm))
    exact h1.same (by rw [size_setCell']; exact Nat.le_refl _) (fun g hgm => hset g (by have := (M.ra.lt g hgm).1; omega))
  · have h1 : TRows w5 3 (Value.int .i64) B n hs (List.replicate kw (List.replicate n 0)) := M.rw_.same (by omega) (fun g hgm => hold g (M.rw_.lt g hgm).2 (fun e => M.gw g (List.mem_append.2 (.inr hgm)) e.symm))
    have h2 : TRows (w5.setCell ⟨sb, 2, none⟩ (.slice (some ⟨g2, 0, none⟩) (kw + 1) c2)) 3 (Value.int .i64) B n hs (List.replicate kw (List.replicate n 0)) := h1.same (by rw [size_setCell']; exact Nat.le_refl _) (fun g hgm => hset g (by have := (M.rw_.lt g hgm).1; omega))
    have h3 := h2.more (g := w.heap.size) (l := List.replicate n 0) hB (by rw [size_setCell']; omega) (by simp) (by rw [hset _ (by omega), hnew]; simp) (fun hm => by have := (M.rw_.lt _ hm).2; omega)
    rwa [← List.replicate_succ'] at h3
  · intro g hgm
    rcases List.mem_append.1 hgm with h | h
    · exact M.ga g (List.mem_append.2 (.inl h))
    · rcases List.mem_append.1 h with h | h
      · exact M.ga g (List.mem_append.2 (.inr h))
      · rw [List.mem_singleton] at h
        intro e; have := (lta g e).2; omega
  · intro g hgm e
    simp only [Value.ownBlock] at e
    injection e with e
    rcases List.mem_append.1 hgm with h | h
    · exact hg2.1 (e ▸ h)
    · exact hg2.2 (e ▸ h)
  · intro j hj e
    simp only [Value.ownBlock] at e
    injection e with e
    rcases hat with h | h
    · exact M.aw j hj (by rw [h, e])
    · have := (lta j hj).2; omega
  · intro g hgm hm
    rcases List.mem_append.1 hm with h | h
    · exact M.gh g hgm h
    · rw [List.mem_singleton] at h
      have := (M.ra.lt g hgm).2; omega
end Go.Proofs.Ytaolfdmmadfncaa
