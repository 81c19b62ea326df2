/- FnComplementTwice, pure: the complement of the complement is the graph; one of both is connected. -/
import Derived.Test.YtgkimjjodhnmiaaGreatCompLawA
import Derived.Test.YtgkimjjodhnmiaaGreatSucc
import Derived.Test.YtgkimjjodhnmiaaGreatTable
namespace Go.Proofs.YtgkimjjodhnmiaaGreat

/-- Where edges lead from u in the complement. -/
def cOuts (g : Gr) (u : Int) : List Int := (asc g.nodes).filter fun v => !decide (v = u ∨ v ∈ gSucc g u)
/-- A row of edges. -/
def rowE (dir : Bool) (u : Int) (l : List Int) : List (Int × Int × Int) := (l.filter fun v => dir || decide (u ≤ v)).map fun v => (u, v, 0)
/-- The edges that impl.seen tells, of the first k nodes. -/
def seenE (dir : Bool) (A : List Int) (S : Int → List Int) : List (Int × Int × Int) := A.flatMap fun u => rowE dir u (S u)
/-- The complement. -/
def compG (g : Gr) : Gr := ⟨g.dir, asc g.nodes, seenE g.dir (asc g.nodes) (cOuts g)⟩

theorem seenE_succ (dir : Bool) (A : List Int) (S : Int → List Int) {k : Nat} (hk : k < A.length) : seenE dir (A.take (k + 1)) S = seenE dir (A.take k) S ++ rowE dir A[k] (S A[k]) := by
  unfold seenE
  rw [List.take_succ_eq_append_getElem hk, List.flatMap_append]
  simp
theorem rowE_succ (dir : Bool) (u : Int) (l : List Int) {k : Nat} (hk : k < l.length) : rowE dir u (l.take (k + 1)) = rowE dir u (l.take k) ++ if (dir || decide (u ≤ l[k])) = true then [(u, l[k], 0)] else [] := by
  unfold rowE
  rw [List.take_succ_eq_append_getElem hk, List.filter_append, List.map_append]
  congr 1
  by_cases h : (dir || decide (u ≤ l[k])) = true
  · rw [if_pos h, List.filter_cons_of_pos (p := fun v => dir || decide (u ≤ v)) h]; rfl
  · rw [if_neg h, List.filter_cons_of_neg (p := fun v => dir || decide (u ≤ v)) h]; rfl
theorem rowE_len (dir : Bool) (u : Int) (l : List Int) : (rowE dir u l).length ≤ l.length := by
  unfold rowE
  rw [List.length_map]
  exact List.length_filter_le _ _
theorem seenE_len (dir : Bool) (A : List Int) (S : Int → List Int) (m : Nat) (hS : ∀ u, (S u).length ≤ m) : (seenE dir A S).length ≤ A.length * m := by
  induction A with
  | nil => simp [seenE]
  | cons a A ih =>
    unfold seenE at ih ⊢
    rw [List.flatMap_cons, List.length_append, List.length_cons, Nat.succ_mul]
    have h1 := rowE_len dir a (S a)
    have h2 := hS a
    omega
theorem cOuts_len (g : Gr) (u : Int) : (cOuts g u).length ≤ g.nodes.length := by
  unfold cOuts
  have := List.length_filter_le (fun v => !decide (v = u ∨ v ∈ gSucc g u)) (asc g.nodes)
  rw [asc_length] at this
  exact this
theorem cOuts_asc (g : Gr) (u : Int) : asc (cOuts g u) = cOuts g u :=
  (asc_unique (List.Perm.refl _) ((asc_sorted g.nodes).sublist List.filter_sublist)).symm
theorem asc_asc (l : List Int) : asc (asc l) = asc l := (asc_unique (List.Perm.refl _) (asc_sorted l)).symm

theorem nodup_of_ok {g : Gr} (h : okGraph g = true) : g.nodes.Nodup := by
  unfold okGraph at h
  rw [Bool.and_eq_true] at h
  exact of_decide_eq_true h.1

theorem cOuts_mem {g : Gr} (h : okGraph g = true) {u v : Int} (hu : u ∈ g.nodes) : v ∈ cOuts g u ↔ v ∈ g.nodes ∧ v ≠ u ∧ arcB g u v = false := by
  unfold cOuts
  rw [List.mem_filter, asc_mem, Bool.not_eq_true', decide_eq_false_iff_not, gSucc_mem h hu]
  constructor
  · rintro ⟨h1, h2⟩
    refine ⟨h1, fun e => h2 (.inl e), ?_⟩
    cases hb : arcB g u v
    · rfl
    · exact absurd (.inr ⟨h1, hb⟩) h2
  · rintro ⟨h1, h2, h3⟩
    refine ⟨h1, ?_⟩
    rintro (e | ⟨_, e⟩)
    · exact h2 e
    · rw [h3] at e; cases e

theorem seenE_mem {dir : Bool} {A : List Int} {S : Int → List Int} {e : Int × Int × Int} : e ∈ seenE dir A S ↔ e.1 ∈ A ∧ e.2.1 ∈ S e.1 ∧ (dir = true ∨ e.1 ≤ e.2.1) ∧ e.2.2 = 0 := by
  unfold seenE rowE
  rw [List.mem_flatMap]
  constructor
  · rintro ⟨u, hu, h⟩
    obtain ⟨v, hv, rfl⟩ := List.mem_map.1 h
    obtain ⟨h1, h2⟩ := List.mem_filter.1 hv
    rw [Bool.or_eq_true, decide_eq_true_eq] at h2
    exact ⟨hu, h1, h2, rfl⟩
  · obtain ⟨u, v, x⟩ := e
    rintro ⟨h1, h2, h3, h4⟩
    refine ⟨u, h1, List.mem_map.2 ⟨v, List.mem_filter.2 ⟨h2, ?_⟩, ?_⟩⟩
    · rw [Bool.or_eq_true, decide_eq_true_eq]; exact h3
    · have h4' : x = 0 := h4
      rw [h4']

theorem compG_ok {g : Gr} (h : okGraph g = true) : okGraph (compG g) = true := by
  unfold okGraph
  rw [Bool.and_eq_true]
  refine ⟨decide_eq_true ((asc_perm g.nodes).nodup_iff.2 (nodup_of_ok h)), List.all_eq_true.2 fun e he => ?_⟩
  obtain ⟨h1, h2, h3, h4⟩ := seenE_mem.1 he
  have hu := asc_mem.1 h1
  obtain ⟨h5, h6, h7⟩ := (cOuts_mem h hu).1 h2
  exact decide_eq_true ⟨fun e => h6 e.symm, h1, asc_mem.2 h5, by omega, by omega⟩

theorem arcB_iff {g : Gr} {u v : Int} : arcB g u v = true ↔ ∃ e ∈ g.edges, hits g.dir u v e := by
  unfold arcB
  rw [List.any_eq_true]
  constructor
  · rintro ⟨e, h1, h2⟩; exact ⟨e, h1, of_decide_eq_true h2⟩
  · rintro ⟨e, h1, h2⟩; exact ⟨e, h1, decide_eq_true h2⟩

theorem arcB_symU {g : Gr} (hd : g.dir = false) (u v : Int) : arcB g u v = arcB g v u := by
  have : ∀ a b, arcB g a b = true → arcB g b a = true := fun a b h => by
    obtain ⟨e, h1, h2⟩ := arcB_iff.1 h
    refine arcB_iff.2 ⟨e, h1, ?_⟩
    rcases h2 with h2 | h2
    · exact .inr ⟨hd, h2⟩
    · exact .inl h2.2
  cases h1 : arcB g u v <;> cases h2 : arcB g v u
  · rfl
  · rw [this _ _ h2] at h1; cases h1
  · rw [this _ _ h1] at h2; cases h2
  · rfl

theorem arcB_nodes {g : Gr} (h : okGraph g = true) {u v : Int} (ha : arcB g u v = true) : u ∈ g.nodes ∧ v ∈ g.nodes ∧ u ≠ v := by
  obtain ⟨e, h1, h2⟩ := arcB_iff.1 ha
  unfold okGraph at h
  rw [Bool.and_eq_true] at h
  obtain ⟨k1, k2, k3, _⟩ := of_decide_eq_true (List.all_eq_true.1 h.2 e h1)
  rcases h2 with ⟨rfl, rfl⟩ | ⟨_, rfl, rfl⟩
  · exact ⟨k2, k3, k1⟩
  · exact ⟨k3, k2, fun e => k1 e.symm⟩

theorem compG_arc {g : Gr} (h : okGraph g = true) {u v : Int} (hu : u ∈ g.nodes) (hv : v ∈ g.nodes) : arcB (compG g) u v = true ↔ u ≠ v ∧ arcB g u v = false := by
  rw [arcB_iff]
  constructor
  · rintro ⟨e, h1, h2⟩
    obtain ⟨k1, k2, k3, k4⟩ := seenE_mem.1 h1
    obtain ⟨k5, k6, k7⟩ := (cOuts_mem h (asc_mem.1 k1)).1 k2
    rcases h2 with ⟨e1, e2⟩ | ⟨hd, e1, e2⟩
    · rw [e1, e2] at k7; rw [e1, e2] at k6; exact ⟨fun e => k6 e.symm, k7⟩
    · rw [e1, e2] at k7; rw [e1, e2] at k6
      exact ⟨k6, (arcB_symU (g := g) hd u v).trans k7⟩
  · rintro ⟨h1, h2⟩
    have hm : v ∈ cOuts g u := (cOuts_mem h hu).2 ⟨hv, fun e => h1 e.symm, h2⟩
    by_cases hle : g.dir = true ∨ u ≤ v
    · exact ⟨(u, v, 0), seenE_mem.2 ⟨asc_mem.2 hu, hm, hle, rfl⟩, .inl ⟨rfl, rfl⟩⟩
    · have hd : g.dir = false := by cases hg : g.dir <;> simp_all
      have hlt : v ≤ u := by
        have : ¬ u ≤ v := fun e => hle (.inr e)
        omega
      have hm2 : u ∈ cOuts g v := (cOuts_mem h hv).2 ⟨hu, h1, (arcB_symU hd v u).trans h2⟩
      exact ⟨(v, u, 0), seenE_mem.2 ⟨asc_mem.2 hv, hm2, .inr hlt, rfl⟩, .inr ⟨hd, rfl, rfl⟩⟩

/-- The edges of the graph itself, told so. -/
def flatE (g : Gr) : List (Int × Int × Int) := (asc g.nodes).flatMap fun u => ((asc g.nodes).filter fun v => arcB g u v && (g.dir || decide (u < v))).map fun v => (u, v, 0)

theorem compG_twice {g : Gr} (h : okGraph g = true) : (compG (compG g)).nodes = asc g.nodes ∧ (compG (compG g)).dir = g.dir ∧ (compG (compG g)).edges = flatE g := by
  refine ⟨asc_asc _, rfl, ?_⟩
  have hn : asc (compG g).nodes = asc g.nodes := asc_asc _
  show seenE g.dir (asc (compG g).nodes) (cOuts (compG g)) = flatE g
  rw [hn]
  unfold seenE flatE
  have hrow : ∀ u ∈ asc g.nodes, rowE g.dir u (cOuts (compG g) u) = ((asc g.nodes).filter fun v => arcB g u v && (g.dir || decide (u < v))).map fun v => (u, v, 0) := fun u hu => by
    have hu' := asc_mem.1 hu
    unfold rowE
    congr 1
    unfold cOuts
    rw [hn, List.filter_filter]
    refine List.filter_congr fun v hv => ?_
    have hv' := asc_mem.1 hv
    have h1 : v ∈ gSucc (compG g) u ↔ u ≠ v ∧ arcB g u v = false := by
      rw [gSucc_mem (compG_ok h) (show u ∈ (compG g).nodes from hu), compG_arc h hu' hv']
      exact ⟨fun h => h.2, fun h => ⟨hv, h⟩⟩
    by_cases e : v = u
    · subst e
      have : arcB g v v = false := by
        cases hb : arcB g v v
        · rfl
        · exact absurd rfl (arcB_nodes h hb).2.2
      rw [this]
      simp
    · have hlt : decide (u ≤ v) = decide (u < v) := decide_eq_decide.2 (by omega)
      rw [hlt]
      cases hb : arcB g u v
      · have : (v = u ∨ v ∈ gSucc (compG g) u) := .inr (h1.2 ⟨fun h => e h.symm, hb⟩)
        rw [decide_eq_true this]
        simp
      · have : ¬ (v = u ∨ v ∈ gSucc (compG g) u) := by
          rintro (h2 | h2)
          · exact e h2
          · rw [(h1.1 h2).2] at hb; cases hb
        rw [decide_eq_false this]
        simp
  rw [List.flatMap_eq_foldl, List.flatMap_eq_foldl]
  generalize asc g.nodes = A at hrow
  have : ∀ (A : List Int) (a : List (Int × Int × Int)) (f f' : Int → List (Int × Int × Int)), (∀ u ∈ A, f u = f' u) → A.foldl (fun acc x => acc ++ f x) a = A.foldl (fun acc x => acc ++ f' x) a := fun A => by
    induction A with
    | nil => intros; rfl
    | cons x A ih =>
      intro a f f' hf
      rw [List.foldl_cons, List.foldl_cons, hf x List.mem_cons_self]
      exact ih _ _ _ fun u hu => hf u (List.mem_cons_of_mem _ hu)
  exact this _ _ _ _ hrow

/-- One of a graph and its complement is connected. -/
theorem one_connected {g : Gr} (h : okGraph g = true) (hd : g.dir = false) : (∀ x ∈ g.nodes, ∀ y ∈ g.nodes, Reach (sFrom g) x y) ∨ (∀ x ∈ g.nodes, ∀ y ∈ g.nodes, Reach (sFrom (compG g)) x y) := by
  have hs : ∀ x ∈ g.nodes, ∀ y ∈ sFrom g x, y ∈ g.nodes ∧ x ∈ sFrom g y := fun x hx y hy => by
    obtain ⟨h1, h2⟩ := List.mem_filter.1 hy
    exact ⟨asc_mem.1 h1, List.mem_filter.2 ⟨asc_mem.2 hx, (arcB_symU hd y x).trans h2⟩⟩
  have hc : ∀ x ∈ g.nodes, ∀ y ∈ g.nodes, ¬ Reach (sFrom g) x y → y ∈ sFrom (compG g) x := fun x hx y hy hr => by
    refine List.mem_filter.2 ⟨by rw [show asc (compG g).nodes = asc g.nodes from asc_asc _]; exact asc_mem.2 hy, (compG_arc h hx hy).2 ⟨?_, ?_⟩⟩
    · rintro rfl; exact hr .refl
    · cases hb : arcB g x y
      · rfl
      · exact absurd (.step .refl (List.mem_filter.2 ⟨asc_mem.2 hy, hb⟩)) hr
  by_cases hall : ∀ x ∈ g.nodes, ∀ y ∈ g.nodes, Reach (sFrom g) x y
  · exact .inl hall
  · right
    have ⟨u, hu, v, hv, huv⟩ : ∃ u ∈ g.nodes, ∃ v ∈ g.nodes, ¬ Reach (sFrom g) u v := by
      refine Classical.byContradiction fun hn => hall fun x hx y hy => Classical.byContradiction fun hr => hn ⟨x, hx, y, hy, hr⟩
    intro x hx y hy
    by_cases hr : Reach (sFrom g) x y
    · have hz : ∃ z ∈ g.nodes, ¬ Reach (sFrom g) x z := by
        by_cases h1 : Reach (sFrom g) x u
        · exact ⟨v, hv, fun h2 => huv (reach_tr (reach_sym hs hx h1).2 h2)⟩
        · exact ⟨u, hu, h1⟩
      obtain ⟨z, hz, hxz⟩ := hz
      have hzy : ¬ Reach (sFrom g) z y := fun h2 => hxz (reach_tr hr (reach_sym hs hz h2).2)
      exact .step (.step .refl (hc x hx z hz hxz)) (hc z hz y hy hzy)
    · exact .step .refl (hc x hx y hy hr)

theorem one_class {s : Int → List Int} {ids : List Int} {M : List (List Int)} (h : Comps s ids ids.length M) (hne : ids ≠ []) (hr : ∀ x ∈ ids, ∀ y ∈ ids, Reach s x y) (hs : ∀ x ∈ M.flatten, x ∈ ids) : M.length = 1 := by
  match M, h, hs with
  | [], h, _ =>
    obtain ⟨x, hx⟩ := List.exists_mem_of_ne_nil ids hne
    have := h.all x (by rw [List.take_length]; exact hx)
    cases this
  | [c], _, _ => rfl
  | c :: d :: M, h, hs =>
    exfalso
    obtain ⟨u, hu, _, h1⟩ := h.mem (c := c) (by simp)
    obtain ⟨v, hv, _, h2⟩ := h.mem (c := d) (by simp)
    have hn := h.nd
    rw [List.flatten_cons, List.nodup_append] at hn
    refine hn.2.2 v ((h1 v).2 (hr u hu v hv)) v ?_ rfl
    exact List.mem_flatten.2 ⟨d, by simp, (h2 v).2 .refl⟩
end Go.Proofs.YtgkimjjodhnmiaaGreat
