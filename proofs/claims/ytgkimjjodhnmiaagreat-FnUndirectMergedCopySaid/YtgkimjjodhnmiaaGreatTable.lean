/- laws.tableOf: the table of a graph, pure, and how its rows lie in memory.
   laws.tableOf: how the table lies in memory while it is built. No program in sight but for types' numbers.
   The table in memory once its rows are made: cells set, what is read of it. -/
import Derived.Test.YtgkimjjodhnmiaaGreatSucc
import Derived.Test.YtgkimjjodhnmiaaGreatLaws1
import Derived.Test.YtgkimjjodhnmiaaGreatPlain
namespace Go.Proofs.YtgkimjjodhnmiaaGreat
open Go.RowKit

/-- A cell of a table of Booleans set. -/
def setB (t : List (List Bool)) (i k : Nat) : List (List Bool) := t.modify i fun l => l.set k true
/-- A cell of a table of numbers set. -/
def setI (t : List (List Int)) (i k : Nat) (x : Int) : List (List Int) := t.modify i fun l => l.set k x

/-- An edge laid into the tables. -/
def layT (ids : List Int) (dir : Bool) (t : List (List Bool) × List (List Int)) (e : Int × Int × Int) : List (List Bool) × List (List Int) :=
  let i := posOf ids e.1
  let k := posOf ids e.2.1
  if dir then (setB t.1 i k, setI t.2 i k e.2.2) else (setB (setB t.1 i k) k i, setI (setI t.2 i k e.2.2) k i e.2.2)

def tableP (ids : List Int) (dir : Bool) (es : List (Int × Int × Int)) : List (List Bool) × List (List Int) :=
  es.foldl (layT ids dir) (List.replicate ids.length (List.replicate ids.length false), List.replicate ids.length (List.replicate ids.length 0))

theorem tableP_step (ids : List Int) (dir : Bool) (es : List (Int × Int × Int)) (k : Nat) (hk : k < es.length) : tableP ids dir (es.take (k + 1)) = layT ids dir (tableP ids dir (es.take k)) es[k] := by
  unfold tableP
  rw [List.take_succ_eq_append_getElem hk, List.foldl_append]; rfl

/-- A square table. -/
def Square {α : Type} (n : Nat) (t : List (List α)) : Prop := t.length = n ∧ ∀ l ∈ t, l.length = n

theorem square_modify {α : Type} {n : Nat} {t : List (List α)} (h : Square n t) (i k : Nat) (x : α) : Square n (t.modify i fun l => l.set k x) := by
  refine ⟨by rw [List.length_modify]; exact h.1, fun l hl => ?_⟩
  obtain ⟨j, hj, rfl⟩ := List.mem_iff_getElem.1 hl
  rw [List.length_modify] at hj
  rw [List.getElem_modify]
  split
  · rw [List.length_set]; exact h.2 _ (List.getElem_mem _)
  · exact h.2 _ (List.getElem_mem _)

/-- What a table says of two places. -/
def atB (t : List (List Bool)) (i k : Nat) : Bool := (t.getD i []).getD k false

theorem atB_set {n : Nat} {t : List (List Bool)} (h : Square n t) (i k a b : Nat) (ha : a < n) (hb : b < n) : atB (setB t i k) a b = (atB t a b || decide (i = a ∧ k = b)) := by
  have hat : a < t.length := by rw [h.1]; exact ha
  have hl : t[a].length = n := h.2 _ (List.getElem_mem hat)
  unfold atB setB
  rw [List.getD_eq_getElem?_getD (l := t.modify i _), List.getElem?_modify, List.getElem?_eq_getElem hat, List.getD_eq_getElem?_getD (l := t), List.getElem?_eq_getElem hat]
  by_cases hi : i = a
  · by_cases hk : k = b
    · subst hi; subst hk
      simp [hl, hb]
    · simp [hi, hk]
  · simp [hi]

structure TabOk (ids : List Int) (dir : Bool) (es : List (Int × Int × Int)) (t : List (List Bool) × List (List Int)) : Prop where
  s1 : Square ids.length t.1
  s2 : Square ids.length t.2
  at_ : ∀ (i k : Nat) (hi : i < ids.length) (hk : k < ids.length), atB t.1 i k = es.any fun e => decide (hits dir ids[i] ids[k] e)

theorem square_replicate {α : Type} (n : Nat) (x : α) : Square n (List.replicate n (List.replicate n x)) := by
  refine ⟨by simp, fun l hl => ?_⟩
  rw [List.mem_replicate] at hl
  rw [hl.2]; simp

theorem layT_at {ids : List Int} {dir : Bool} {t : List (List Bool) × List (List Int)} {e : Int × Int × Int} (hs : ids.Pairwise (· < ·)) (h1 : Square ids.length t.1) (hu : e.1 ∈ ids) (hv : e.2.1 ∈ ids) (i k : Nat) (hi : i < ids.length) (hk : k < ids.length) :
    atB (layT ids dir t e).1 i k = (atB t.1 i k || decide (hits dir ids[i] ids[k] e)) := by
  have a1 := posOf_iff hs hu hi
  have a2 := posOf_iff hs hv hk
  have a3 := posOf_iff hs hv hi
  have a4 := posOf_iff hs hu hk
  unfold layT hits
  cases dir
  · simp only [Bool.false_eq_true, if_false, true_and]
    rw [atB_set (t := setB t.1 (posOf ids e.1) (posOf ids e.2.1)) (square_modify h1 _ _ _) _ _ _ _ hi hk, atB_set h1 _ _ _ _ hi hk, Bool.or_assoc, ← Bool.decide_or]
    congr 1
    apply decide_eq_decide.2
    rw [a1, a2, a3, a4]
    constructor
    · rintro (⟨h, k⟩ | ⟨h, k⟩)
      · exact .inl ⟨h, k⟩
      · exact .inr ⟨k, h⟩
    · rintro (⟨h, k⟩ | ⟨h, k⟩)
      · exact .inl ⟨h, k⟩
      · exact .inr ⟨k, h⟩
  · simp only [if_true, Bool.true_eq_false, false_and, or_false]
    rw [atB_set h1 _ _ _ _ hi hk]
    congr 1
    apply decide_eq_decide.2
    rw [a1, a2]

theorem layT_square {n : Nat} {ids : List Int} {dir : Bool} {t : List (List Bool) × List (List Int)} {e : Int × Int × Int} (h1 : Square n t.1) (h2 : Square n t.2) : Square n (layT ids dir t e).1 ∧ Square n (layT ids dir t e).2 := by
  unfold layT
  cases dir
  · exact ⟨square_modify (square_modify h1 _ _ _) _ _ _, square_modify (square_modify h2 _ _ _) _ _ _⟩
  · exact ⟨square_modify h1 _ _ _, square_modify h2 _ _ _⟩

theorem tableP_ok (ids : List Int) (dir : Bool) (es : List (Int × Int × Int)) (hs : ids.Pairwise (· < ·)) (he : ∀ e ∈ es, e.1 ∈ ids ∧ e.2.1 ∈ ids) : ∀ k, k ≤ es.length → TabOk ids dir (es.take k) (tableP ids dir (es.take k)) := by
  intro k
  induction k with
  | zero =>
    intro _
    refine ⟨square_replicate _ _, square_replicate _ _, fun i k hi hk => ?_⟩
    simp [tableP, atB, hi, hk]
  | succ k ih =>
    intro hk
    have h := ih (by omega)
    have hlt : k < es.length := by omega
    obtain ⟨hu, hv⟩ := he es[k] (List.getElem_mem hlt)
    rw [tableP_step ids dir es k hlt]
    have hsq := layT_square (ids := ids) (dir := dir) (e := es[k]) h.s1 h.s2
    refine ⟨hsq.1, hsq.2, fun i j hi hj => ?_⟩
    rw [layT_at hs h.s1 hu hv i j hi hj, h.at_ i j hi hj, List.take_succ_eq_append_getElem hlt, List.any_append]
    simp

/-- The table of a graph that is not bad. -/
theorem graph_table {g : Gr} (h : okGraph g = true) : TabOk (asc g.nodes) g.dir g.edges (tableP (asc g.nodes) g.dir g.edges) := by
  unfold okGraph at h
  rw [Bool.and_eq_true, List.all_eq_true] at h
  have := tableP_ok (asc g.nodes) g.dir g.edges (asc_incr (of_decide_eq_true h.1)) (fun e he => by
    have := of_decide_eq_true (h.2 e he)
    exact ⟨asc_mem.2 this.2.1, asc_mem.2 this.2.2.1⟩) g.edges.length (Nat.le_refl _)
  rwa [List.take_length] at this

/-- In an ascending list the first place of a number is the count of lesser ones. -/
theorem idx_pos {ids : List Int} (hs : ids.Pairwise (· < ·)) {x : Int} (hx : x ∈ ids) : idxI ids x = (posOf ids x : Nat) ∧ posOf ids x < ids.length := by
  obtain ⟨h, e⟩ := posOf_mem hs hx
  refine ⟨idxI_at h (fun j hj hlt he => ?_) e, h⟩
  have h1 := List.pairwise_iff_getElem.1 hs j _ hj h hlt
  rw [he, e] at h1
  exact absurd h1 (Int.lt_irrefl _)
end Go.Proofs.YtgkimjjodhnmiaaGreat

namespace Go.Proofs.YtgkimjjodhnmiaaGreat
open Go.RowKit

theorem size_setCell' (w : World) (p : Addr) (u : Value) : (w.setCell p u).heap.size = w.heap.size := by simp [World.setCell]

/-- Rows of n cells each, in blocks of their own from B on. -/
def TRows {α : Type} (w : World) (e : TypeId) (enc : α → Value) (B n : Nat) (gs : List Nat) (t : List (List α)) : Prop :=
  gs.length = t.length ∧ gs.Nodup ∧ ∀ (j g : Nat) (l : List α), gs[j]? = some g → t[j]? = some l → B ≤ g ∧ g < w.heap.size ∧ l.length = n ∧ w.heap[g]? = some (.cells (l.map enc).toArray e (0, 0))

/-- The values of the rows. -/
def rowVs (n : Nat) (gs : List Nat) : List Value := gs.map fun g => .slice (some ⟨g, 0, none⟩) n n

theorem TRows.lt {α : Type} {w : World} {e : TypeId} {enc : α → Value} {B n : Nat} {gs : List Nat} {t : List (List α)} (h : TRows w e enc B n gs t) : ∀ g ∈ gs, B ≤ g ∧ g < w.heap.size := by
  intro g hg
  obtain ⟨j, hj, rfl⟩ := List.mem_iff_getElem.1 hg
  have ht : j < t.length := by rw [← h.1]; exact hj
  obtain ⟨h1, h2, _⟩ := h.2.2 j _ _ (List.getElem?_eq_getElem hj) (List.getElem?_eq_getElem ht)
  exact ⟨h1, h2⟩

theorem TRows.same {α : Type} {w w' : World} {e : TypeId} {enc : α → Value} {B n : Nat} {gs : List Nat} {t : List (List α)} (h : TRows w e enc B n gs t) (hs : w.heap.size ≤ w'.heap.size) (hb : ∀ g ∈ gs, w'.heap[g]? = w.heap[g]?) : TRows w' e enc B n gs t :=
  ⟨h.1, h.2.1, fun j g l hg hl => by
    obtain ⟨h1, h2, h3, h4⟩ := h.2.2 j g l hg hl
    exact ⟨h1, Nat.lt_of_lt_of_le h2 hs, h3, (hb g (List.mem_of_getElem? hg)).trans h4⟩⟩

/-- One row more, in a new block. -/
theorem TRows.more {α : Type} {w : World} {e : TypeId} {enc : α → Value} {B n g : Nat} {gs : List Nat} {t : List (List α)} {l : List α} (h : TRows w e enc B n gs t) (hB : B ≤ g) (hg : g < w.heap.size) (hl : l.length = n) (hc : w.heap[g]? = some (.cells (l.map enc).toArray e (0, 0))) (hn : g ∉ gs) :
    TRows w e enc B n (gs ++ [g]) (t ++ [l]) := by
  refine ⟨by simp [h.1], List.nodup_append.2 ⟨h.2.1, by simp, fun a ha b hb => by rw [List.mem_singleton] at hb; rw [hb]; exact fun e => hn (e ▸ ha)⟩, fun j g' l' hg' hl' => ?_⟩
  rcases Nat.lt_or_ge j gs.length with hj | hj
  · rw [List.getElem?_append_left hj] at hg'
    rw [List.getElem?_append_left (by rw [← h.1]; exact hj)] at hl'
    exact h.2.2 j g' l' hg' hl'
  · rw [List.getElem?_append_right hj] at hg'
    rw [List.getElem?_append_right (by rw [← h.1]; exact hj), ← h.1] at hl'
    rcases hjj : j - gs.length with _ | m
    · rw [hjj] at hg' hl'
      simp at hg' hl'
      subst hg'; subst hl'
      exact ⟨hB, hg, hl, hc⟩
    · rw [hjj] at hg'; simp at hg'

/-- A cell of one row set. -/
theorem TRows.set {α : Type} {w : World} {e : TypeId} {enc : α → Value} {B n g i k : Nat} {gs : List Nat} {t : List (List α)} (h : TRows w e enc B n gs t) (hg : gs[i]? = some g) (x : α) :
    TRows (w.setCell ⟨g, k, none⟩ (enc x)) e enc B n gs (t.modify i fun l => l.set k x) := by
  refine ⟨by rw [List.length_modify]; exact h.1, h.2.1, fun j g' l' hg' hl' => ?_⟩
  rw [List.getElem?_modify] at hl'
  by_cases hij : i = j
  · subst hij
    rw [hg] at hg'
    injection hg' with hg'
    subst hg'
    cases hl0 : t[i]? with
    | none => rw [hl0] at hl'; simp at hl'
    | some l0 =>
      rw [hl0] at hl'
      simp at hl'
      subst hl'
      obtain ⟨h1, h2, h3, h4⟩ := h.2.2 i g l0 hg hl0
      refine ⟨h1, by rw [size_setCell']; exact h2, by rw [List.length_set]; exact h3, ?_⟩
      have hs : (w.setCell ⟨g, k, none⟩ (enc x)).heap[g]? = some (.cells ((l0.map enc).toArray.setIfInBounds k (enc x)) e (0, 0)) := by
        simp [World.setCell, Array.getElem?_modify, h4]
      rw [hs, List.map_set]
      simp
  · have hne : g' ≠ g := fun e' => by
      have hi := (List.getElem?_eq_some_iff.1 hg)
      have hj := (List.getElem?_eq_some_iff.1 hg')
      obtain ⟨hi1, hi2⟩ := hi
      obtain ⟨hj1, hj2⟩ := hj
      exact hij ((List.getElem_inj h.2.1).1 (by rw [hi2, hj2, e']))
    have hl2 : t[j]? = some l' := by
      cases hl0 : t[j]? with
      | none => rw [hl0] at hl'; simp at hl'
      | some l0 => rw [hl0] at hl'; simp [hij] at hl'; rw [hl']
    obtain ⟨h1, h2, h3, h4⟩ := h.2.2 j g' l' hg' hl2
    exact ⟨h1, by rw [size_setCell']; exact h2, h3, (Below.heap_setCell _ _ _ _ hne).trans h4⟩

/-- The block of the table's three fields. -/
def SBlock (w : World) (sb : Nat) (x y z : Value) : Prop := w.heap[sb]? = some (.cells #[x, y, z] 66 (0, 0))

/-- The table while its rows are being made. -/
structure Making (w : World) (B sb n ka kw : Nat) (nv sa sw : Value) (gs hs : List Nat) : Prop where
  blk : SBlock w sb nv sa sw
  sbB : sb < B
  hB : B ≤ w.heap.size
  oa : w.ownsRow B 68 1 sa ka (rowVs n gs)
  ow : w.ownsRow B 22 1 sw kw (rowVs n hs)
  ra : TRows w 4 Value.bool B n gs (List.replicate ka (List.replicate n false))
  rw_ : TRows w 3 (Value.int .i64) B n hs (List.replicate kw (List.replicate n 0))
  ga : ∀ g ∈ gs ++ hs, sa.ownBlock ≠ some g
  gw : ∀ g ∈ gs ++ hs, sw.ownBlock ≠ some g
  aw : ∀ j, sa.ownBlock = some j → sw.ownBlock ≠ some j
  gh : ∀ g ∈ gs, g ∉ hs

theorem SBlock.c1 {w : World} {sb : Nat} {x y z : Value} (h : SBlock w sb x y z) : w.cell? ⟨sb, 1, none⟩ = some y := by
  unfold SBlock at h; simp [World.cell?, h]
theorem SBlock.c2 {w : World} {sb : Nat} {x y z : Value} (h : SBlock w sb x y z) : w.cell? ⟨sb, 2, none⟩ = some z := by
  unfold SBlock at h; simp [World.cell?, h]
theorem SBlock.free {w : World} {sb : Nat} {x y z : Value} (h : SBlock w sb x y z) (j : Nat) : w.frozen? ⟨sb, j, none⟩ = false := by
  unfold SBlock at h; simp [World.frozen?, h]
theorem SBlock.set1 {w : World} {sb : Nat} {x y z : Value} (h : SBlock w sb x y z) (u : Value) : SBlock (w.setCell ⟨sb, 1, none⟩ u) sb x u z := by
  unfold SBlock at h ⊢; simp [World.setCell, Array.getElem?_modify, h]
theorem SBlock.set2 {w : World} {sb : Nat} {x y z : Value} (h : SBlock w sb x y z) (u : Value) : SBlock (w.setCell ⟨sb, 2, none⟩ u) sb x y u := by
  unfold SBlock at h ⊢; simp [World.setCell, Array.getElem?_modify, h]

/-- A row of Booleans more: what stands behind the append and the store into the table's block. -/
theorem Making.moreA {w w5 : World} {B sb n ka kw g2 c2 : Nat} {nv sa sw : Value} {gs hs : List Nat} (M : Making w B sb n ka kw nv sa sw gs hs) {W : World} (hz : W.heap.size = w.heap.size + 2) (hW : ∀ j, j < w.heap.size → W.heap[j]? = w.heap[j]?) (hnw : W.heap[w.heap.size]? = some (.cells (List.replicate n (Value.bool false)).toArray 4 (0, 0)))
    (hg : W.grownBy w5 sa.ownBlock)
    (own : w5.ownsRow B 68 1 (.slice (some ⟨g2, 0, none⟩) (ka + 1) c2) (ka + 1) (rowVs n gs ++ [.slice (some ⟨w.heap.size, 0, none⟩) n n]))
    (hat : sa.ownBlock = some g2 ∨ g2 = w.heap.size + 2) :
    w5.cell? ⟨sb, 1, none⟩ = some sa ∧ w5.frozen? ⟨sb, 1, none⟩ = false ∧ Hid (Making (w5.setCell ⟨sb, 1, none⟩ (.slice (some ⟨g2, 0, none⟩) (ka + 1) c2)) B sb n (ka + 1) kw nv (.slice (some ⟨g2, 0, none⟩) (ka + 1) c2) sw (gs ++ [w.heap.size]) hs) := by
  have hB := M.hB
  have hsb := M.sbB
  have lta := M.oa.lt
  have ltw := M.ow.lt
  have hold : ∀ j, j < w.heap.size → some j ≠ sa.ownBlock → w5.heap[j]? = w.heap[j]? := fun j hj hne => by
    rw [hg.block j (by omega) hne, hW j hj]
  have hnew : w5.heap[w.heap.size]? = some (.cells (List.replicate n (Value.bool false)).toArray 4 (0, 0)) := by
    rw [hg.block _ (by omega) (fun e => by have := (lta _ e.symm).2; omega), hnw]
  have hs5 : w.heap.size + 2 ≤ w5.heap.size := by have := hg.size; omega
  have hb5 : SBlock w5 sb nv sa sw := (hold sb (by omega) (fun e => by have := (lta _ e.symm).1; omega)).trans M.blk
  have hset : ∀ j, j ≠ sb → (w5.setCell ⟨sb, 1, none⟩ (.slice (some ⟨g2, 0, none⟩) (ka + 1) c2)).heap[j]? = w5.heap[j]? := fun j hj => Below.heap_setCell _ _ _ _ hj
  have hg2 : g2 ∉ gs ++ [w.heap.size] ∧ g2 ∉ hs := by
    rcases hat with h | h
    · have h1 := lta _ h
      refine ⟨fun hm => ?_, fun hm => M.ga g2 (List.mem_append.2 (.inr hm)) h⟩
      rcases List.mem_append.1 hm with hm | hm
      · exact M.ga g2 (List.mem_append.2 (.inl hm)) h
      · rw [List.mem_singleton] at hm; omega
    · refine ⟨fun hm => ?_, fun hm => by have := (M.rw_.lt g2 hm).2; omega⟩
      rcases List.mem_append.1 hm with hm | hm
      · have := (M.ra.lt g2 hm).2; omega
      · rw [List.mem_singleton] at hm; omega
  refine ⟨hb5.c1, hb5.free 1, ⟨hb5.set1 _, hsb, by rw [size_setCell']; omega, ?_, ?_, ?_, ?_, ?_, ?_, ?_, ?_⟩⟩
  · rw [show rowVs n (gs ++ [w.heap.size]) = rowVs n gs ++ [.slice (some ⟨w.heap.size, 0, none⟩) n n] by simp [rowVs]]
    exact set_old own hsb
  · refine set_old (owns_same M.ow (fun j hj => hold j (ltw j hj).2 (fun e => M.aw j e.symm hj))) hsb
  · have h1 : TRows w5 4 Value.bool B n gs (List.replicate ka (List.replicate n false)) := M.ra.same (by omega) (fun g hgm => hold g (M.ra.lt g hgm).2 (fun e => M.ga g (List.mem_append.2 (.inl hgm)) e.symm))
    have h2 : TRows (w5.setCell ⟨sb, 1, none⟩ (.slice (some ⟨g2, 0, none⟩) (ka + 1) c2)) 4 Value.bool B n gs (List.replicate ka (List.replicate n false)) := h1.same (by rw [size_setCell']; exact Nat.le_refl _) (fun g hgm => hset g (by have := (M.ra.lt g hgm).1; omega))
    have h3 := h2.more (g := w.heap.size) (l := List.replicate n false) hB (by rw [size_setCell']; omega) (by simp) (by rw [hset _ (by omega), hnew]; simp) (fun hm => by have := (M.ra.lt _ hm).2; omega)
    rwa [← List.replicate_succ'] at h3
  · have h1 : TRows w5 3 (Value.int .i64) B n hs (List.replicate kw (List.replicate n 0)) := M.rw_.same (by omega) (fun g hgm => hold g (M.rw_.lt g hgm).2 (fun e => M.ga g (List.mem_append.2 (.inr hgm)) e.symm))
    exact h1.same (by rw [size_setCell']; exact Nat.le_refl _) (fun g hgm => hset g (by have := (M.rw_.lt g hgm).1; omega))
  · intro g hgm e
    simp only [Value.ownBlock] at e
    injection e with e
    rcases List.mem_append.1 hgm with h | h
    · exact hg2.1 (e ▸ h)
    · exact hg2.2 (e ▸ h)
  · intro g hgm
    rcases List.mem_append.1 hgm with h | h
    · rcases List.mem_append.1 h with h | h
      · exact M.gw g (List.mem_append.2 (.inl h))
      · rw [List.mem_singleton] at h
        intro e; have := (ltw g e).2; omega
    · exact M.gw g (List.mem_append.2 (.inr h))
  · intro j hj
    simp only [Value.ownBlock] at hj
    injection hj with hj
    intro e
    rcases hat with h | h
    · exact M.aw g2 h (hj ▸ e)
    · have := (ltw j e).2; omega
  · intro g hgm
    rcases List.mem_append.1 hgm with h | h
    · exact M.gh g h
    · rw [List.mem_singleton] at h
      intro hm; have := (M.rw_.lt g hm).2; omega

/-- A row of numbers more: what stands behind the append and the store into the table's block. -/
theorem Making.moreW {w w5 : World} {B sb n ka kw g2 c2 : Nat} {nv sa sw : Value} {gs hs : List Nat} (M : Making w B sb n ka kw nv sa sw gs hs) {W : World} (hz : W.heap.size = w.heap.size + 2) (hW : ∀ j, j < w.heap.size → W.heap[j]? = w.heap[j]?) (hnw : W.heap[w.heap.size]? = some (.cells (List.replicate n (Value.int .i64 0)).toArray 3 (0, 0)))
    (hg : W.grownBy w5 sw.ownBlock)
    (own : w5.ownsRow B 22 1 (.slice (some ⟨g2, 0, none⟩) (kw + 1) c2) (kw + 1) (rowVs n hs ++ [.slice (some ⟨w.heap.size, 0, none⟩) n n]))
    (hat : sw.ownBlock = some g2 ∨ g2 = w.heap.size + 2) :
    w5.cell? ⟨sb, 2, none⟩ = some sw ∧ w5.frozen? ⟨sb, 2, none⟩ = false ∧ Hid (Making (w5.setCell ⟨sb, 2, none⟩ (.slice (some ⟨g2, 0, none⟩) (kw + 1) c2)) B sb n ka (kw + 1) nv sa (.slice (some ⟨g2, 0, none⟩) (kw + 1) c2) gs (hs ++ [w.heap.size])) := by
  have hB := M.hB
  have hsb := M.sbB
  have lta := M.oa.lt
  have ltw := M.ow.lt
  have hold : ∀ j, j < w.heap.size → some j ≠ sw.ownBlock → w5.heap[j]? = w.heap[j]? := fun j hj hne => by
    rw [hg.block j (by omega) hne, hW j hj]
  have hnew : w5.heap[w.heap.size]? = some (.cells (List.replicate n (Value.int .i64 0)).toArray 3 (0, 0)) := by
    rw [hg.block _ (by omega) (fun e => by have := (ltw _ e.symm).2; omega), hnw]
  have hs5 : w.heap.size + 2 ≤ w5.heap.size := by have := hg.size; omega
  have hb5 : SBlock w5 sb nv sa sw := (hold sb (by omega) (fun e => by have := (ltw _ e.symm).1; omega)).trans M.blk
  have hset : ∀ j, j ≠ sb → (w5.setCell ⟨sb, 2, none⟩ (.slice (some ⟨g2, 0, none⟩) (kw + 1) c2)).heap[j]? = w5.heap[j]? := fun j hj => Below.heap_setCell _ _ _ _ hj
  have hg2 : g2 ∉ gs ∧ g2 ∉ hs ++ [w.heap.size] := by
    rcases hat with h | h
    · have h1 := ltw _ h
      refine ⟨fun hm => M.gw g2 (List.mem_append.2 (.inl hm)) h, fun hm => ?_⟩
      rcases List.mem_append.1 hm with hm | hm
      · exact M.gw g2 (List.mem_append.2 (.inr hm)) h
      · rw [List.mem_singleton] at hm; omega
    · refine ⟨fun hm => by have := (M.ra.lt g2 hm).2; omega, fun hm => ?_⟩
      rcases List.mem_append.1 hm with hm | hm
      · have := (M.rw_.lt g2 hm).2; omega
      · rw [List.mem_singleton] at hm; omega
  refine ⟨hb5.c2, hb5.free 2, ⟨hb5.set2 _, hsb, by rw [size_setCell']; omega, ?_, ?_, ?_, ?_, ?_, ?_, ?_, ?_⟩⟩
  · refine set_old (owns_same M.oa (fun j hj => hold j (lta j hj).2 (fun e => M.aw j hj e.symm))) hsb
  · rw [show rowVs n (hs ++ [w.heap.size]) = rowVs n hs ++ [.slice (some ⟨w.heap.size, 0, none⟩) n n] by simp [rowVs]]
    exact set_old own hsb
  · have h1 : TRows w5 4 Value.bool B n gs (List.replicate ka (List.replicate n false)) := M.ra.same (by omega) (fun g hgm => hold g (M.ra.lt g hgm).2 (fun e => M.gw g (List.mem_append.2 (.inl hgm)) e.symm))
    exact h1.same (by rw [size_setCell']; exact Nat.le_refl _) (fun g hgm => hset g (by have := (M.ra.lt g hgm).1; omega))
  · have h1 : TRows w5 3 (Value.int .i64) B n hs (List.replicate kw (List.replicate n 0)) := M.rw_.same (by omega) (fun g hgm => hold g (M.rw_.lt g hgm).2 (fun e => M.gw g (List.mem_append.2 (.inr hgm)) e.symm))
    have h2 : TRows (w5.setCell ⟨sb, 2, none⟩ (.slice (some ⟨g2, 0, none⟩) (kw + 1) c2)) 3 (Value.int .i64) B n hs (List.replicate kw (List.replicate n 0)) := h1.same (by rw [size_setCell']; exact Nat.le_refl _) (fun g hgm => hset g (by have := (M.rw_.lt g hgm).1; omega))
    have h3 := h2.more (g := w.heap.size) (l := List.replicate n 0) hB (by rw [size_setCell']; omega) (by simp) (by rw [hset _ (by omega), hnew]; simp) (fun hm => by have := (M.rw_.lt _ hm).2; omega)
    rwa [← List.replicate_succ'] at h3
  · intro g hgm
    rcases List.mem_append.1 hgm with h | h
    · exact M.ga g (List.mem_append.2 (.inl h))
    · rcases List.mem_append.1 h with h | h
      · exact M.ga g (List.mem_append.2 (.inr h))
      · rw [List.mem_singleton] at h
        intro e; have := (lta g e).2; omega
  · intro g hgm e
    simp only [Value.ownBlock] at e
    injection e with e
    rcases List.mem_append.1 hgm with h | h
    · exact hg2.1 (e ▸ h)
    · exact hg2.2 (e ▸ h)
  · intro j hj e
    simp only [Value.ownBlock] at e
    injection e with e
    rcases hat with h | h
    · exact M.aw j hj (by rw [h, e])
    · have := (lta j hj).2; omega
  · intro g hgm hm
    rcases List.mem_append.1 hm with h | h
    · exact M.gh g hgm h
    · rw [List.mem_singleton] at h
      have := (M.ra.lt g hgm).2; omega
end Go.Proofs.YtgkimjjodhnmiaaGreat

namespace Go.Proofs.YtgkimjjodhnmiaaGreat
open Go.RowKit

/-- The table in memory. -/
structure Tab (w : World) (B sb n : Nat) (nv sa sw : Value) (gs hs : List Nat) (ta : List (List Bool)) (tw : List (List Int)) : Prop where
  blk : SBlock w sb nv sa sw
  sbB : sb < B
  hB : B ≤ w.heap.size
  oa : w.ownsRow B 68 1 sa n (rowVs n gs)
  ow : w.ownsRow B 22 1 sw n (rowVs n hs)
  ra : TRows w 4 Value.bool B n gs ta
  rw_ : TRows w 3 (Value.int .i64) B n hs tw
  ga : ∀ g ∈ gs ++ hs, sa.ownBlock ≠ some g
  gw : ∀ g ∈ gs ++ hs, sw.ownBlock ≠ some g
  aw : ∀ j, sa.ownBlock = some j → sw.ownBlock ≠ some j
  gh : ∀ g ∈ gs, g ∉ hs

theorem Making.tab {w : World} {B sb n : Nat} {nv sa sw : Value} {gs hs : List Nat} (M : Making w B sb n n n nv sa sw gs hs) : Tab w B sb n nv sa sw gs hs (List.replicate n (List.replicate n false)) (List.replicate n (List.replicate n 0)) :=
  ⟨M.blk, M.sbB, M.hB, M.oa, M.ow, M.ra, M.rw_, M.ga, M.gw, M.aw, M.gh⟩

theorem Making.drew {w : World} {B sb n ka kw : Nat} {nv sa sw : Value} {gs hs : List Nat} (M : Making w B sb n ka kw nv sa sw gs hs) : Making w.drew B sb n ka kw nv sa sw gs hs :=
  ⟨M.blk, M.sbB, M.hB, M.oa, M.ow, M.ra, M.rw_, M.ga, M.gw, M.aw, M.gh⟩

theorem Tab.drew {w : World} {B sb n : Nat} {nv sa sw : Value} {gs hs : List Nat} {ta : List (List Bool)} {tw : List (List Int)} (T : Tab w B sb n nv sa sw gs hs ta tw) : Tab w.drew B sb n nv sa sw gs hs ta tw :=
  ⟨T.blk, T.sbB, T.hB, T.oa, T.ow, T.ra, T.rw_, T.ga, T.gw, T.aw, T.gh⟩

theorem owns_far {w : World} {B e size n : Nat} {v : Value} {xs : List Value} (h : w.ownsRow B e size v n xs) {g : Nat} (hg : v.ownBlock ≠ some g) (k : Nat) (u : Value) : (w.setCell ⟨g, k, none⟩ u).ownsRow B e size v n xs :=
  owns_same h fun j hj => Below.heap_setCell _ _ _ _ (fun e' => hg (by rw [hj, e']))

theorem Tab.setA {w : World} {B sb n i k g : Nat} {nv sa sw : Value} {gs hs : List Nat} {ta : List (List Bool)} {tw : List (List Int)} (T : Tab w B sb n nv sa sw gs hs ta tw) (hg : gs[i]? = some g) :
    Tab (w.setCell ⟨g, k, none⟩ (.bool true)) B sb n nv sa sw gs hs (setB ta i k) tw := by
  have hm := List.mem_of_getElem? hg
  have hB := (T.ra.lt g hm).1
  have hsb := T.sbB
  have hset : ∀ j, j ≠ g → (w.setCell ⟨g, k, none⟩ (.bool true)).heap[j]? = w.heap[j]? := fun j hj => Below.heap_setCell _ _ _ _ hj
  refine ⟨(hset sb (by omega)).trans T.blk, hsb, by rw [size_setCell']; exact T.hB, owns_far T.oa (T.ga g (List.mem_append.2 (.inl hm))) _ _, owns_far T.ow (T.gw g (List.mem_append.2 (.inl hm))) _ _, T.ra.set hg true, ?_, T.ga, T.gw, T.aw, T.gh⟩
  exact T.rw_.same (by rw [size_setCell']; exact Nat.le_refl _) (fun g' hg' => hset g' (fun e => T.gh g hm (e ▸ hg')))

theorem Tab.setW {w : World} {B sb n i k g : Nat} {nv sa sw : Value} {gs hs : List Nat} {ta : List (List Bool)} {tw : List (List Int)} (T : Tab w B sb n nv sa sw gs hs ta tw) (hg : hs[i]? = some g) (x : Int) :
    Tab (w.setCell ⟨g, k, none⟩ (.int .i64 x)) B sb n nv sa sw gs hs ta (setI tw i k x) := by
  have hm := List.mem_of_getElem? hg
  have hB := (T.rw_.lt g hm).1
  have hsb := T.sbB
  have hset : ∀ j, j ≠ g → (w.setCell ⟨g, k, none⟩ (.int .i64 x)).heap[j]? = w.heap[j]? := fun j hj => Below.heap_setCell _ _ _ _ hj
  refine ⟨(hset sb (by omega)).trans T.blk, hsb, by rw [size_setCell']; exact T.hB, owns_far T.oa (T.ga g (List.mem_append.2 (.inr hm))) _ _, owns_far T.ow (T.gw g (List.mem_append.2 (.inr hm))) _ _, ?_, T.rw_.set hg x, T.ga, T.gw, T.aw, T.gh⟩
  exact T.ra.same (by rw [size_setCell']; exact Nat.le_refl _) (fun g' hg' => hset g' (fun e => T.gh g' hg' (e ▸ hm)))

theorem Tab.below {w w' : World} {B sb n : Nat} {nv sa sw : Value} {gs hs : List Nat} {ta : List (List Bool)} {tw : List (List Int)} (T : Tab w B sb n nv sa sw gs hs ta tw) (hb : Below w.heap.size w w') : Tab w' B sb n nv sa sw gs hs ta tw := by
  have hB := T.hB
  have hsb := T.sbB
  exact ⟨(hb.block sb (by omega)).trans T.blk, hsb, Nat.le_trans hB hb.size, owns_same T.oa (fun j hj => hb.block j (T.oa.lt j hj).2), owns_same T.ow (fun j hj => hb.block j (T.ow.lt j hj).2),
    T.ra.same hb.size (fun g hg => hb.block g (T.ra.lt g hg).2), T.rw_.same hb.size (fun g hg => hb.block g (T.rw_.lt g hg).2), T.ga, T.gw, T.aw, T.gh⟩

theorem rowVs_get {n i g : Nat} {gs : List Nat} (h : gs[i]? = some g) : (rowVs n gs)[i]? = some (.slice (some ⟨g, 0, none⟩) n n) := by
  simp [rowVs, h]

theorem TRows.at_ {α : Type} {w : World} {e : TypeId} {enc : α → Value} {B n : Nat} {gs : List Nat} {t : List (List α)} (h : TRows w e enc B n gs t) {i : Nat} (hi : i < t.length) :
    ∃ g, gs[i]? = some g ∧ B ≤ g ∧ g < w.heap.size ∧ t[i].length = n ∧ w.heap[g]? = some (.cells (t[i].map enc).toArray e (0, 0)) := by
  have hg : i < gs.length := by rw [h.1]; exact hi
  obtain ⟨h1, h2, h3, h4⟩ := h.2.2 i gs[i] t[i] (List.getElem?_eq_getElem hg) (List.getElem?_eq_getElem hi)
  exact ⟨gs[i], List.getElem?_eq_getElem hg, h1, h2, h3, h4⟩

theorem row_cell {w : World} {α : Type} {e : TypeId} {enc : α → Value} {g : Nat} {l : List α} (h : w.heap[g]? = some (.cells (l.map enc).toArray e (0, 0))) {k : Nat} (hk : k < l.length) : w.cell? ⟨g, k, none⟩ = some (enc l[k]) ∧ w.frozen? ⟨g, k, none⟩ = false := by
  simp [World.cell?, World.frozen?, h, hk]

/-- What two stores into the two rows of one place need. -/
theorem Tab.at_ {w : World} {B sb n i k : Nat} {nv sa sw : Value} {gs hs : List Nat} {ta : List (List Bool)} {tw : List (List Int)} (T : Tab w B sb n nv sa sw gs hs ta tw) (ha : ta.length = n) (hw : tw.length = n) (hi : i < n) (hk : k < n) :
    ∃ a0 ca w0 cw g h vb vi, sa = .slice (some ⟨a0, 0, none⟩) n ca ∧ sw = .slice (some ⟨w0, 0, none⟩) n cw ∧ gs[i]? = some g ∧ hs[i]? = some h ∧
      w.cell? ⟨a0, i, none⟩ = some (.slice (some ⟨g, 0, none⟩) n n) ∧ w.cell? ⟨w0, i, none⟩ = some (.slice (some ⟨h, 0, none⟩) n n) ∧
      w.cell? ⟨g, k, none⟩ = some vb ∧ w.frozen? ⟨g, k, none⟩ = false ∧ w.cell? ⟨h, k, none⟩ = some vi ∧ w.frozen? ⟨h, k, none⟩ = false ∧
      sb ≠ g ∧ sb ≠ h ∧ a0 ≠ g ∧ a0 ≠ h ∧ w0 ≠ g ∧ w0 ≠ h ∧ g ≠ h := by
  obtain ⟨g, hg, g1, g2, g3, g4⟩ := T.ra.at_ (i := i) (by omega)
  obtain ⟨h, hh, h1, h2, h3, h4⟩ := T.rw_.at_ (i := i) (by omega)
  obtain ⟨aa, ca, rfl, _⟩ := owns_cells T.oa
  obtain ⟨aw, cw, rfl, _⟩ := owns_cells T.ow
  obtain ⟨a0, rfl, _⟩ := owns_at T.oa (by omega)
  obtain ⟨w0, rfl, _⟩ := owns_at T.ow (by omega)
  have hmg := List.mem_of_getElem? hg
  have hmh := List.mem_of_getElem? hh
  have c1 := row_cell g4 (k := k) (by omega)
  have c2 := row_cell h4 (k := k) (by omega)
  have hsb := T.sbB
  refine ⟨a0, ca, w0, cw, g, h, _, _, rfl, rfl, hg, hh, owns_cell T.oa (rowVs_get hg), owns_cell T.ow (rowVs_get hh), c1.1, c1.2, c2.1, c2.2, by omega, by omega, fun e => ?_, fun e => ?_, fun e => ?_, fun e => ?_, fun e => T.gh g hmg (e ▸ hmh)⟩
  · exact T.ga g (List.mem_append.2 (.inl hmg)) (by rw [e]; rfl)
  · exact T.ga h (List.mem_append.2 (.inr hmh)) (by rw [e]; rfl)
  · exact T.gw g (List.mem_append.2 (.inl hmg)) (by rw [e]; rfl)
  · exact T.gw h (List.mem_append.2 (.inr hmh)) (by rw [e]; rfl)

/-- A row of Booleans as it is read. -/
theorem Tab.rowA {w : World} {B sb n i : Nat} {nv sa sw : Value} {gs hs : List Nat} {ta : List (List Bool)} {tw : List (List Int)} (T : Tab w B sb n nv sa sw gs hs ta tw) (hi : i < ta.length) :
    ∃ a0 ca g, sa = .slice (some ⟨a0, 0, none⟩) n ca ∧ w.cell? ⟨a0, i, none⟩ = some (.slice (some ⟨g, 0, none⟩) n n) ∧ w.heap[g]? = some (.cells (ta[i].map Value.bool).toArray 4 (0, 0)) ∧ ta[i].length = n := by
  obtain ⟨g, hg, g1, g2, g3, g4⟩ := T.ra.at_ hi
  have hn : 0 < n := by
    have h1 := T.oa.1
    have h2 := T.ra.1
    simp [rowVs] at h1; omega
  obtain ⟨aa, ca, rfl, _⟩ := owns_cells T.oa
  obtain ⟨a0, rfl, _⟩ := owns_at T.oa hn
  exact ⟨a0, ca, g, rfl, owns_cell T.oa (rowVs_get hg), g4, g3⟩

/-- Two new blocks and a draw. -/
theorem two_new (w : World) (o o2 : Obj) : ((w.alloc o).alloc o2).drew.heap.size = w.heap.size + 2 ∧ (∀ j, j < w.heap.size → ((w.alloc o).alloc o2).drew.heap[j]? = w.heap[j]?) ∧ ((w.alloc o).alloc o2).drew.heap[w.heap.size]? = some o ∧ ((w.alloc o).alloc o2).drew.heap[w.heap.size + 1]? = some o2 := by
  refine ⟨by simp [World.drew], fun j hj => ?_, ?_, ?_⟩
  · show ((w.alloc o).alloc o2).heap[j]? = _
    rw [Below.heap_alloc _ _ _ (by simp; omega), Below.heap_alloc _ _ _ hj]
  · show ((w.alloc o).alloc o2).heap[w.heap.size]? = _
    rw [Below.heap_alloc _ _ _ (by simp), heap_alloc_new]
  · show ((w.alloc o).alloc o2).heap[w.heap.size + 1]? = _
    have := heap_alloc_new (w.alloc o) o2
    rwa [show (w.alloc o).heap.size = w.heap.size + 1 by simp] at this

theorem made_repl (z : Value) (n : Nat) : madeCells #[z] n = (List.replicate n z).toArray := by
  rw [← toList_madeCells_one z n]

theorem size_two (w : World) (o o2 : Obj) : ((w.alloc o).alloc o2).heap.size = w.heap.size + 2 := by simp
theorem one_slice (a : Option Addr) (n c : Nat) : ∀ u ∈ [Value.slice a n c], u.oneCell' = true := by
  intro u hu
  rw [List.mem_singleton] at hu
  subst hu; rfl

/-- The table in memory, between two block numbers. -/
def TabAt (w : World) (lo hi : Nat) (ids : List Int) (nv sa sw : Value) (ta : List (List Bool)) (tw : List (List Int)) : Prop :=
  ∃ (a1 : Option Addr) (c1 B sb : Nat) (gs hs : List Nat), nv = .slice a1 ids.length c1 ∧ w.ownsRow lo 3 1 (.slice a1 ids.length c1) ids.length (ints ids) ∧ Tab w B sb ids.length nv sa sw gs hs ta tw ∧ lo ≤ sb ∧ sb < hi ∧
    (∀ j, nv.ownBlock = some j → j < hi) ∧ (∀ j, sa.ownBlock = some j → j < hi) ∧ (∀ j, sw.ownBlock = some j → j < hi) ∧ (∀ g ∈ gs ++ hs, g < hi) ∧ B ≤ hi

theorem TabAt.same {w w' : World} {lo hi : Nat} {ids : List Int} {nv sa sw : Value} {ta : List (List Bool)} {tw : List (List Int)} (h : TabAt w lo hi ids nv sa sw ta tw) (hb : ∀ j, lo ≤ j → j < hi → w'.heap[j]? = w.heap[j]?) (hs : w.heap.size ≤ w'.heap.size) :
    TabAt w' lo hi ids nv sa sw ta tw := by
  obtain ⟨a1, c1, B, sb, gs, hs', rfl, hn, T, h1, h2, h3, h4, h5, h6, h7⟩ := h
  have hsb := T.sbB
  refine ⟨a1, c1, B, sb, gs, hs', rfl, owns_same hn (fun j hj => hb j (hn.lt j hj).1 (h3 j hj)), ?_, h1, h2, h3, h4, h5, h6, h7⟩
  exact ⟨(hb sb h1 h2).trans T.blk, hsb, Nat.le_trans T.hB hs, owns_same T.oa (fun j hj => hb j (by have := (T.oa.lt j hj).1; omega) (h4 j hj)), owns_same T.ow (fun j hj => hb j (by have := (T.ow.lt j hj).1; omega) (h5 j hj)),
    T.ra.same hs (fun g hg => hb g (by have := (T.ra.lt g hg).1; omega) (h6 g (List.mem_append.2 (.inl hg)))), T.rw_.same hs (fun g hg => hb g (by have := (T.rw_.lt g hg).1; omega) (h6 g (List.mem_append.2 (.inr hg)))), T.ga, T.gw, T.aw, T.gh⟩

theorem TabAt.below {w w' : World} {lo hi : Nat} {ids : List Int} {nv sa sw : Value} {ta : List (List Bool)} {tw : List (List Int)} (h : TabAt w lo hi ids nv sa sw ta tw) (hh : hi ≤ w.heap.size) (hb : Below w.heap.size w w') : TabAt w' lo hi ids nv sa sw ta tw :=
  h.same (fun j _ hj => hb.block j (by omega)) hb.size

theorem TabAt.of {w : World} {lo B sb : Nat} {ids : List Int} {a1 : Option Addr} {c1 : Nat} {sa sw : Value} {gs hs : List Nat} {ta : List (List Bool)} {tw : List (List Int)} (hn : w.ownsRow lo 3 1 (.slice a1 ids.length c1) ids.length (ints ids))
    (T : Tab w B sb ids.length (.slice a1 ids.length c1) sa sw gs hs ta tw) (h1 : lo ≤ sb) : TabAt w lo w.heap.size ids (.slice a1 ids.length c1) sa sw ta tw :=
  ⟨a1, c1, B, sb, gs, hs, rfl, hn, T, h1, by have := T.sbB; have := T.hB; omega, fun j hj => (hn.lt j hj).2, fun j hj => (T.oa.lt j hj).2, fun j hj => (T.ow.lt j hj).2, fun g hg => by
    rcases List.mem_append.1 hg with h | h
    · exact (T.ra.lt g h).2
    · exact (T.rw_.lt g h).2, T.hB⟩
end Go.Proofs.YtgkimjjodhnmiaaGreat
