/- What stands in the tables behind all edges: no program in sight.
   A plain graph stays where a cell is written that holds a pointer. -/
import Derived.Test.YtgkimjjodhnmiaaGreatRead0
namespace Go.Proofs.YtgkimjjodhnmiaaGreat

theorem turnRow_length (ls : List (List Arc)) (i k wt : Nat) : (turnRow ls i k wt).length = ls.length := by simp [turnRow]

theorem turnRow_has {n : Nat} {ls : List (List Arc)} (h : ∀ l ∈ ls, RowOk n l) (i k wt j y : Nat) (hj : j < ls.length) :
    arcHas ((turnRow ls i k wt).getD j []) y = (arcHas (ls.getD j []) y || decide (i = j ∧ k = y)) := by
  have e : (turnRow ls i k wt).getD j [] = if i = j then setArc ls[j] k wt else ls[j] := by
    unfold turnRow
    rw [List.getD_eq_getElem?_getD, List.getElem?_modify, List.getElem?_eq_getElem hj]
    by_cases h : i = j <;> simp [h]
  have e2 : ls.getD j [] = ls[j] := by simp [hj]
  rw [e, e2]
  by_cases hij : i = j
  · rw [if_pos hij, setArc_has (h _ (List.getElem_mem hj))]
    simp [hij]
  · rw [if_neg hij]
    simp [hij]

/-- The place of a number: where it stands. -/
theorem posOf_iff {zs : List Int} (hs : zs.Pairwise (· < ·)) {x : Int} (hx : x ∈ zs) {j : Nat} (hj : j < zs.length) : posOf zs x = j ↔ x = zs[j] := by
  obtain ⟨h1, h2⟩ := posOf_mem hs hx
  constructor
  · rintro rfl; exact h2.symm
  · rintro rfl; exact posOf_at hs hj

theorem layE_has {n : Nat} {bits : Int → Nat} {ids : List Int} {dir : Bool} {t : List (List Arc) × List (List Arc)} {e : Int × Int × Int} (hs : ids.Pairwise (· < ·)) (hn : ids.length = n) (h1 : ∀ l ∈ t.1, RowOk n l) (h2 : ∀ l ∈ t.2, RowOk n l)
    (l1 : t.1.length = n) (l2 : t.2.length = n) (hu : e.1 ∈ ids) (hv : e.2.1 ∈ ids) (i k : Nat) (hi : i < ids.length) (hk : k < ids.length) :
    arcHas ((layE bits ids dir t e).1.getD i []) k = (arcHas (t.1.getD i []) k || decide (hits dir ids[i] ids[k] e)) ∧
    arcHas ((layE bits ids dir t e).2.getD k []) i = (arcHas (t.2.getD k []) i || decide (hits dir ids[i] ids[k] e)) := by
  have hpu := (posOf_mem hs hu).1
  have hpv := (posOf_mem hs hv).1
  have a1 := posOf_iff hs hu hi
  have a2 := posOf_iff hs hv hk
  have a3 := posOf_iff hs hv hi
  have a4 := posOf_iff hs hu hk
  unfold layE hits
  cases dir
  · simp only [Bool.false_eq_true, if_false, true_and]
    constructor
    · rw [turnRow_has (turnRow_ok h1 (by omega)) _ _ _ _ _ (by rw [turnRow_length]; omega), turnRow_has h1 _ _ _ _ _ (by omega), Bool.or_assoc, ← Bool.decide_or]
      congr 1
      apply decide_eq_decide.2
      rw [a1, a2, a3, a4]
      constructor
      · rintro (⟨h, k⟩ | ⟨h, k⟩)
        · exact .inl ⟨h, k⟩
        · exact .inr ⟨k, h⟩
      · rintro (⟨h, k⟩ | ⟨h, k⟩)
        · exact .inl ⟨h, k⟩
        · exact .inr ⟨k, h⟩
    · rw [turnRow_has (turnRow_ok h2 (by omega)) _ _ _ _ _ (by rw [turnRow_length]; omega), turnRow_has h2 _ _ _ _ _ (by omega), Bool.or_assoc, ← Bool.decide_or]
      congr 1
      apply decide_eq_decide.2
      rw [a1, a2, a3, a4]
      constructor
      · rintro (⟨h, k⟩ | ⟨h, k⟩)
        · exact .inl ⟨k, h⟩
        · exact .inr ⟨h, k⟩
      · rintro (⟨h, k⟩ | ⟨h, k⟩)
        · exact .inl ⟨k, h⟩
        · exact .inr ⟨h, k⟩
  · simp only [if_true, Bool.true_eq_false, false_and, or_false]
    constructor
    · rw [turnRow_has h1 _ _ _ _ _ (by omega)]
      congr 1
      apply decide_eq_decide.2
      rw [a1, a2]
    · rw [turnRow_has h2 _ _ _ _ _ (by omega)]
      congr 1
      apply decide_eq_decide.2
      rw [a1, a2]
      exact ⟨fun ⟨h, k⟩ => ⟨k, h⟩, fun ⟨h, k⟩ => ⟨k, h⟩⟩

structure TabsOk (ids : List Int) (dir : Bool) (es : List (Int × Int × Int)) (t : List (List Arc) × List (List Arc)) : Prop where
  l1 : t.1.length = ids.length
  l2 : t.2.length = ids.length
  r1 : ∀ l ∈ t.1, RowOk ids.length l
  r2 : ∀ l ∈ t.2, RowOk ids.length l
  out : ∀ (i k : Nat) (hi : i < ids.length) (hk : k < ids.length), arcHas (t.1.getD i []) k = es.any fun e => decide (hits dir ids[i] ids[k] e)
  inn : ∀ (i k : Nat) (hi : i < ids.length) (hk : k < ids.length), arcHas (t.2.getD k []) i = es.any fun e => decide (hits dir ids[i] ids[k] e)

theorem tabs_ok (bits : Int → Nat) (ids : List Int) (dir : Bool) (es : List (Int × Int × Int)) (hs : ids.Pairwise (· < ·)) (he : ∀ e ∈ es, e.1 ∈ ids ∧ e.2.1 ∈ ids) : ∀ k, k ≤ es.length → TabsOk ids dir (es.take k) (tabs bits ids dir (es.take k)) := by
  intro k
  induction k with
  | zero =>
    intro _
    refine ⟨by simp [tabs], by simp [tabs], ?_, ?_, ?_, ?_⟩
    · intro l hl; simp [tabs] at hl; rw [hl.2]; exact RowOk.nil _
    · intro l hl; simp [tabs] at hl; rw [hl.2]; exact RowOk.nil _
    · intro i k hi hk; simp [tabs, hi, arcHas]
    · intro i k hi hk; simp [tabs, hk, arcHas]
  | succ k ih =>
    intro hk
    have h := ih (by omega)
    have hlt : k < es.length := by omega
    obtain ⟨hu, hv⟩ := he es[k] (List.getElem_mem hlt)
    have hpu := (posOf_mem hs hu).1
    have hpv := (posOf_mem hs hv).1
    have hr := layE_ok (bits := bits) (ids := ids) (dir := dir) (e := es[k]) h.r1 h.r2 hpu hpv
    rw [tabs_step bits ids dir es k hlt]
    refine ⟨?_, ?_, hr.1, hr.2, ?_, ?_⟩
    · unfold layE; split <;> simp [turnRow_length, h.l1]
    · unfold layE; split <;> simp [turnRow_length, h.l2]
    · intro i j hi hj
      rw [(layE_has hs rfl h.r1 h.r2 h.l1 h.l2 hu hv i j hi hj).1, h.out i j hi hj, List.take_succ_eq_append_getElem hlt, List.any_append]
      simp
    · intro i j hi hj
      rw [(layE_has hs rfl h.r1 h.r2 h.l1 h.l2 hu hv i j hi hj).2, h.inn i j hi hj, List.take_succ_eq_append_getElem hlt, List.any_append]
      simp

/-- The tables of a graph that is not bad. -/
theorem graph_tabs {g : Gr} (h : okGraph g = true) : TabsOk (asc g.nodes) g.dir g.edges (tabs bitsOf (asc g.nodes) g.dir g.edges) := by
  unfold okGraph at h
  rw [Bool.and_eq_true, List.all_eq_true] at h
  have := tabs_ok bitsOf (asc g.nodes) g.dir g.edges (asc_incr (of_decide_eq_true h.1)) (fun e he => by
    have := of_decide_eq_true (h.2 e he)
    exact ⟨asc_mem.2 this.2.1, asc_mem.2 this.2.2.1⟩) g.edges.length (Nat.le_refl _)
  rwa [List.take_length] at this
end Go.Proofs.YtgkimjjodhnmiaaGreat

namespace Go.Proofs.YtgkimjjodhnmiaaGreat
open Go.RowKit

theorem cell_keep {w : World} {p q : Addr} {v u0 : Value} (hp : w.cell? p = some v) (hq : w.cell? q = some u0) (hn : v ≠ u0) (u : Value) : (w.setCell q u).cell? p = some v := by
  have hne : q ≠ p := fun e => by
    subst e
    rw [hq] at hp
    injection hp with hp
    exact hn hp.symm
  rw [World.cell?_setCell_other _ _ _ _ hne]; exact hp

theorem Cells.keep {w : World} {a : Option Addr} {cs : List Value} {q : Addr} {u0 : Value} (h : Cells w a cs) (hq : w.cell? q = some u0) (hn : ∀ v ∈ cs, v ≠ u0) (u : Value) : Cells (w.setCell q u) a cs := by
  rcases h with h | ⟨b, o, ha, hlt, hr⟩
  · exact .inl h
  · exact .inr ⟨b, o, ha, by simp [World.setCell]; exact hlt, fun j v hj => cell_keep (hr j v hj) hq (hn v (List.mem_of_getElem? hj)) u⟩

theorem ints_nptr (zs : List Int) (p : Option Addr) : ∀ v ∈ ints zs, v ≠ .pointer p := fun v hv e => by
  obtain ⟨x, _, rfl⟩ := List.mem_map.1 hv
  cases e

theorem arcs_nptr (l : List Arc) (p : Option Addr) : ∀ v ∈ arcCells l, v ≠ .pointer p := fun v hv e => by
  unfold arcCells at hv
  obtain ⟨x, _, hx⟩ := List.mem_flatMap.1 hv
  subst e
  simp at hx

theorem TableAt.keep {w : World} {pb f n : Nat} {ls : List (List Arc)} {q : Addr} {p : Option Addr} (h : TableAt w pb f n ls) (hq : w.cell? q = some (.pointer p)) (u : Value) : TableAt (w.setCell q u) pb f n ls := by
  obtain ⟨g, h1, h2, h3⟩ := h
  refine ⟨g, cell_keep h1 hq (fun e => by cases e) u, h2, fun j l hl => ?_⟩
  obtain ⟨a, c, h4, h5⟩ := h3 j l hl
  exact ⟨a, c, cell_keep h4 hq (fun e => by cases e) u, h5.keep hq (arcs_nptr l p) u⟩

theorem PlainAt.keep {w : World} {pb : Nat} {ids : List Int} {outs ins : List (List Arc)} {q : Addr} {p : Option Addr} (h : PlainAt w pb ids outs ins) (hq : w.cell? q = some (.pointer p)) (u : Value) : PlainAt (w.setCell q u) pb ids outs ins := by
  obtain ⟨a, c, h1, h2⟩ := h.row
  exact ⟨⟨a, c, cell_keep h1 hq (fun e => by cases e) u, h2.keep hq (ints_nptr ids p) u⟩, h.up, h.out.keep hq u, h.inn.keep hq u, h.okOut, h.okIn⟩
end Go.Proofs.YtgkimjjodhnmiaaGreat
