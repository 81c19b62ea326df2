/- laws.tableOf: the table of a graph, pure, and how its rows lie in memory. -/
import Derived.Test.YtaolfdmmadfncaaStepLaw
import Derived.Test.YtaolfdmmadfncaaLaws1
namespace Go.Proofs.Ytaolfdmmadfncaa
open Go.RowKit

/-- A cell of a table of Booleans set. -/
def setB (t : List (List Bool)) (i k : Nat) : List (List Bool) := t.modify i fun l => l.set k true
/-- A cell of a table of numbers set. -/
def setI (t : List (List Int)) (i k : Nat) (x : Int) : List (List Int) := t.modify i fun l => l.set k x

/-- An edge laid into the tables. -/
def layT (ids : List Int) (dir : Bool) (t : List (List Bool) × List (List Int)) (e : Int × Int × Int) : List (List Bool) × List (List Int) :=
  let i := posOf ids e.1
  let k := posOf ids e.2.1
  if dir then (setB t.1 i k, setI t.2 i k e.2.2) else (setB (setB t.1 i k) k i, setI (setI t.2 i k e.2.2) k i e.2.2)

def tableP (ids : List Int) (dir : Bool) (es : List (Int × Int × Int)) : List (List Bool) × List (List Int) :=
  es.foldl (layT ids dir) (List.replicate ids.length (List.replicate ids.length false), List.replicate ids.length (List.replicate ids.length 0))

theorem tableP_step (ids : List Int) (dir : Bool) (es : List (Int × Int × Int)) (k : Nat) (hk : k < es.length) : tableP ids dir (es.take (k + 1)) = layT ids dir (tableP ids dir (es.take k)) es[k] := by
  unfold tableP
  rw [List.take_succ_eq_append_getElem hk, List.foldl_append]; rfl

/-- A square table. -/
def Square {α : Type} (n : Nat) (t : List (List α)) : Prop := t.length = n ∧ ∀ l ∈ t, l.length = n

theorem square_modify {α : Type} {n : Nat} {t : List (List α)} (h : Square n t) (i k : Nat) (x : α) : Square n (t.modify i fun l => l.set k x) := by
  refine ⟨by rw [List.length_modify]; exact h.1, fun l hl => ?_⟩
  obtain ⟨j, hj, rfl⟩ := List.mem_iff_getElem.1 hl
  rw [List.length_modify] at hj
  rw [List.getElem_modify]
  split
  · rw [List.length_set]; exact h.2 _ (List.getElem_mem _)
  · exact h.2 _ (List.getElem_mem _)

/-- What a table says of two places. -/
def atB (t : List (List Bool)) (i k : Nat) : Bool := (t.getD i []).getD k false

theorem atB_set {n : Nat} {t : List (List Bool)} (h : Square n t) (i k a b : Nat) (ha : a < n) (hb : b < n) : atB (setB t i k) a b = (atB t a b || decide (i = a ∧ k = b)) := by
  have hat : a < t.length := by rw [h.1]; exact ha
  have hl : t[a].length = n := h.2 _ (List.getElem_mem hat)
  unfold atB setB
  rw [List.getD_eq_getElem?_getD (l := t.modify i _), List.getElem?_modify, List.getElem?_eq_getElem hat, List.getD_eq_getElem?_getD (l := t), List.getElem?_eq_getElem hat]
  by_cases hi : i = a
  · by_cases hk : k = b
    · subst hi; subst hk
      simp [hl, hb]
    · simp [hi, hk]
  · simp [hi]

structure TabOk (ids : List Int) (dir : Bool) (es : List (Int × Int × Int)) (t : List (List Bool) × List (List Int)) : Prop where
  s1 : Square ids.length t.1
  s2 : Square ids.length t.2
  at_ : ∀ (i k : Nat) (hi : i < ids.length) (hk : k < ids.length), atB t.1 i k = es.any fun e => decide (hits dir ids[i] ids[k] e)

theorem square_replicate {α : Type} (n : Nat) (x : α) : Square n (List.replicate n (List.replicate n x)) := by
  refine ⟨by simp, fun l hl => ?_⟩
  rw [List.mem_replicate] at hl
  rw [hl.2]; simp

theorem layT_at {ids : List Int} {dir : Bool} {t : List (List Bool) × List (List Int)} {e : Int × Int × Int} (hs : ids.Pairwise (· < ·)) (h1 : Square ids.length t.1) (hu : e.1 ∈ ids) (hv : e.2.1 ∈ ids) (i k : Nat) (hi : i < ids.length) (hk : k < ids.length) :
    atB (layT ids dir t e).1 i k = (atB t.1 i k || decide (hits dir ids[i] ids[k] e)) := by
  have a1 := posOf_iff hs hu hi
  have a2 := posOf_iff hs hv hk
  have a3 := posOf_iff hs hv hi
  have a4 := posOf_iff hs hu hk
  unfold layT hits
  cases dir
  · simp only [Bool.false_eq_true, if_false, true_and]
    rw [atB_set (t := setB t.1 (posOf ids e.1) (posOf ids e.2.1)) (square_modify h1 _ _ _) _ _ _ _ hi hk, atB_set h1 _ _ _ _ hi hk, Bool.or_assoc, ← Bool.decide_or]
    congr 1
    apply decide_eq_decide.2
    rw [a1, a2, a3, a4]
    constructor
    · rintro (⟨h, k⟩ | ⟨h, k⟩)
      · exact .inl ⟨h, k⟩
      · exact .inr ⟨k, h⟩
    · rintro (⟨h, k⟩ | ⟨h, k⟩)
      · exact .inl ⟨h, k⟩
      · exact .inr ⟨k, h⟩
  · simp only [if_true, Bool.true_eq_false, false_and, or_false]
    rw [atB_set h1 _ _ _ _ hi hk]
    congr 1
    apply decide_eq_decide.2
    rw [a1, a2]

theorem layT_square {n : Nat} {ids : List Int} {dir : Bool} {t : List (List Bool) × List (List Int)} {e : Int × Int × Int} (h1 : Square n t.1) (h2 : Square n t.2) : Square n (layT ids dir t e).1 ∧ Square n (layT ids dir t e).2 := by
  unfold layT
  cases dir
  · exact ⟨square_modify (square_modify h1 _ _ _) _ _ _, square_modify (square_modify h2 _ _ _) _ _ _⟩
  · exact ⟨square_modify h1 _ _ _, square_modify h2 _ _ _⟩

theorem tableP_ok (ids : List Int) (dir : Bool) (es : List (Int × Int × Int)) (hs : ids.Pairwise (· < ·)) (he : ∀ e ∈ es, e.1 ∈ ids ∧ e.2.1 ∈ ids) : ∀ k, k ≤ es.length → TabOk ids dir (es.take k) (tableP ids dir (es.take k)) := by
  intro k
  induction k with
  | zero =>
    intro _
    refine ⟨square_replicate _ _, square_replicate _ _, fun i k hi hk => ?_⟩
    simp [tableP, atB, hi, hk]
  | succ k ih =>
    intro hk
    have h := ih (by omega)
    have hlt : k < es.length := by omega
    obtain ⟨hu, hv⟩ := he es[k] (List.getElem_mem hlt)
    rw [tableP_step ids dir es k hlt]
    have hsq := layT_square (ids := ids) (dir := dir) (e := es[k]) h.s1 h.s2
    refine ⟨hsq.1, hsq.2, fun i j hi hj => ?_⟩
    rw [layT_at hs h.s1 hu hv i j hi hj, h.at_ i j hi hj, List.take_succ_eq_append_getElem hlt, List.any_append]
    simp

/-- The table of a graph that is not bad. -/
theorem graph_table {g : Gr} (h : okGraph g = true) : TabOk (asc g.nodes) g.dir g.edges (tableP (asc g.nodes) g.dir g.edges) := by
  unfold okGraph at h
  rw [Bool.and_eq_true, List.all_eq_true] at h
  have := tableP_ok (asc g.nodes) g.dir g.edges (asc_incr (of_decide_eq_true h.1)) (fun e he => by
    have := of_decide_eq_true (h.2 e he)
    exact ⟨asc_mem.2 this.2.1, asc_mem.2 this.2.2.1⟩) g.edges.length (Nat.le_refl _)
  rwa [List.take_length] at this

/-- In an ascending list the first place of a number is the count of lesser ones. -/
theorem idx_pos {ids : List Int} (hs : ids.Pairwise (· < ·)) {x : Int} (hx : x ∈ ids) : idxI ids x = (posOf ids x : Nat) ∧ posOf ids x < ids.length := by
  obtain ⟨h, e⟩ := posOf_mem hs hx
  refine ⟨idxI_at h (fun j hj hlt he => ?_) e, h⟩
  have h1 := List.pairwise_iff_getElem.1 hs j _ hj h hlt
  rw [he, e] at h1
  exact absurd h1 (Int.lt_irrefl _)
end Go.Proofs.Ytaolfdmmadfncaa
