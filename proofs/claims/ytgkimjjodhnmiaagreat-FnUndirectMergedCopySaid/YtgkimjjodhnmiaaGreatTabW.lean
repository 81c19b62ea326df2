/- The weights that stand in the tables of a plain graph: of each edge the one that was laid last. -/
import Derived.Test.YtgkimjjodhnmiaaGreatTabs
import Derived.Test.YtgkimjjodhnmiaaGreatEdge0
import Derived.Test.YtgkimjjodhnmiaaGreatSucc
import Derived.Test.YtgkimjjodhnmiaaGreatFl
namespace Go.Proofs.YtgkimjjodhnmiaaGreat

/-- The weight of the last edge from x to y. -/
def wLast (dir : Bool) (es : List (Int × Int × Int)) (x y : Int) : Int := ((es.reverse.find? fun e => decide (hits dir x y e)).map fun e => e.2.2).getD 0

theorem wLast_snoc (dir : Bool) (es : List (Int × Int × Int)) (e : Int × Int × Int) (x y : Int) : wLast dir (es ++ [e]) x y = if hits dir x y e then e.2.2 else wLast dir es x y := by
  unfold wLast
  rw [List.reverse_append]
  show (Option.map _ (List.find? _ (e :: es.reverse))).getD 0 = _
  by_cases h : hits dir x y e
  · rw [List.find?_cons_of_pos (by simpa using h), if_pos h]; rfl
  · rw [List.find?_cons_of_neg (by simpa using h), if_neg h]

theorem setArc_mem {n : Nat} {l : List Arc} (h : RowOk n l) (k wt : Nat) {a : Arc} (ha : a ∈ setArc l k wt) : a = (k, wt) ∨ (a.1 ≠ k ∧ a ∈ l) := by
  unfold setArc at ha
  by_cases hk : arcHas l k = true
  · rw [if_pos hk] at ha
    obtain ⟨hp, he⟩ := arcHas_at h.1 hk
    obtain ⟨j, hj, rfl⟩ := List.mem_iff_getElem.1 ha
    rw [List.length_set] at hj
    rw [List.getElem_set]
    by_cases e : arcPos l k = j
    · rw [if_pos e]; exact .inl rfl
    · rw [if_neg e]
      refine .inr ⟨fun e2 => e ?_, List.getElem_mem _⟩
      have h2 := arcPos_at h.1 hj
      rw [e2] at h2
      exact h2
  · rw [if_neg hk] at ha
    have hno : ∀ b ∈ l, b.1 ≠ k := fun b hb e => hk (List.any_eq_true.2 ⟨b, hb, by simpa using e⟩)
    rcases List.mem_append.1 ha with ha | ha
    · have := List.mem_of_mem_take ha
      exact .inr ⟨hno a this, this⟩
    · rcases List.mem_cons.1 ha with rfl | ha
      · exact .inl rfl
      · have := List.mem_of_mem_drop ha
        exact .inr ⟨hno a this, this⟩

theorem turnRow_get (ls : List (List Arc)) (i k wt j : Nat) (hj : j < ls.length) : (turnRow ls i k wt).getD j [] = if i = j then setArc ls[j] k wt else ls[j] := by
  unfold turnRow
  rw [List.getD_eq_getElem?_getD, List.getElem?_modify, List.getElem?_eq_getElem hj]
  by_cases h : i = j <;> simp [h]

/-- Each arc bears the weight of the last edge. -/
def WOk (ids : List Int) (dir : Bool) (es : List (Int × Int × Int)) (t : List (List Arc)) : Prop :=
  ∀ (i : Nat) (hi : i < ids.length) (a : Arc), a ∈ t.getD i [] → ∃ hk : a.1 < ids.length, a.2 = bitsOf (wLast dir es ids[i] ids[a.1])

theorem turn_w {ids : List Int} {e : Int × Int × Int} {t : List (List Arc)} (hs : ids.Pairwise (· < ·)) (hl : t.length = ids.length) (hr : ∀ l ∈ t, RowOk ids.length l) {u v : Int} (hu : u ∈ ids) (hv : v ∈ ids)
    (P : Int → Int → Int) (hP : P u v = e.2.2) (h : ∀ (i : Nat) (hi : i < ids.length) (a : Arc), a ∈ t.getD i [] → ∃ hk : a.1 < ids.length, ¬ (ids[i] = u ∧ ids[a.1] = v) → a.2 = bitsOf (P ids[i] ids[a.1])) :
    ∀ (i : Nat) (hi : i < ids.length) (a : Arc), a ∈ (turnRow t (posOf ids u) (posOf ids v) (bitsOf e.2.2)).getD i [] → ∃ hk : a.1 < ids.length, a.2 = bitsOf (P ids[i] ids[a.1]) := by
  intro i hi a ha
  rw [turnRow_get _ _ _ _ _ (by omega)] at ha
  have hpu := posOf_mem hs hu
  have hpv := posOf_mem hs hv
  have hti : t.getD i [] = t[i]'(by omega) := by simp [show i < t.length by omega]
  by_cases hc : posOf ids u = i
  · rw [if_pos hc] at ha
    rcases setArc_mem (hr _ (List.getElem_mem _)) _ _ ha with rfl | ⟨h1, h2⟩
    · subst hc
      refine ⟨hpv.1, ?_⟩
      have e1 : P (ids[posOf ids u]'hpu.1) (ids[posOf ids v]'hpv.1) = e.2.2 := by rw [hpu.2, hpv.2, hP]
      show bitsOf e.2.2 = _
      rw [← e1]
    · obtain ⟨hk, h3⟩ := h i hi a (by rw [hti]; exact h2)
      refine ⟨hk, h3 fun hh => h1 ?_⟩
      exact ((posOf_iff hs hv hk).2 hh.2.symm).symm
  · rw [if_neg hc] at ha
    obtain ⟨hk, h3⟩ := h i hi a (by rw [hti]; exact ha)
    refine ⟨hk, h3 fun hh => hc ?_⟩
    exact (posOf_iff hs hu hi).2 hh.1.symm

theorem tabs_w (ids : List Int) (dir : Bool) (es : List (Int × Int × Int)) (hs : ids.Pairwise (· < ·)) (he : ∀ e ∈ es, e.1 ∈ ids ∧ e.2.1 ∈ ids ∧ e.1 ≠ e.2.1) : ∀ k, k ≤ es.length → WOk ids dir (es.take k) (tabs bitsOf ids dir (es.take k)).1 := by
  intro k
  induction k with
  | zero =>
    intro _ i hi a ha
    simp [tabs, hi] at ha
  | succ k ih =>
    intro hk
    have hlt : k < es.length := by omega
    obtain ⟨hu, hv, hne⟩ := he es[k] (List.getElem_mem hlt)
    have hT := tabs_ok bitsOf ids dir es hs (fun e h => ⟨(he e h).1, (he e h).2.1⟩) k (by omega)
    have hW := ih (by omega)
    have htk : es.take (k + 1) = es.take k ++ [es[k]] := List.take_succ_eq_append_getElem hlt
    rw [tabs_step _ _ _ _ _ hlt, htk]
    obtain ⟨e, hee⟩ : ∃ e, e = es[k] := ⟨_, rfl⟩
    rw [← hee] at hu hv hne ⊢
    obtain ⟨T, hTT⟩ : ∃ T, T = tabs bitsOf ids dir (es.take k) := ⟨_, rfl⟩
    rw [← hTT] at hT hW ⊢
    have hpv := posOf_mem hs hv
    have hpu := posOf_mem hs hu
    unfold layE
    cases dir
    · simp only [Bool.false_eq_true, if_false]
      refine turn_w (u := e.2.1) (v := e.1) (e := e) hs (by rw [turnRow_length]; exact hT.l1) (turnRow_ok hT.r1 hpv.1) hv hu (wLast false (es.take k ++ [e])) (by rw [wLast_snoc, if_pos (.inr ⟨rfl, rfl, rfl⟩)]) ?_
      intro i hi a ha
      obtain ⟨hk', h3⟩ := turn_w (u := e.1) (v := e.2.1) (e := e) hs hT.l1 hT.r1 hu hv (fun x y => if hits true x y e then e.2.2 else wLast false (es.take k) x y) (if_pos (.inl ⟨rfl, rfl⟩)) (fun i hi a ha => by
        obtain ⟨hk', h3⟩ := hW i hi a ha
        refine ⟨hk', fun hh => ?_⟩
        rw [if_neg (fun h => by
          rcases h with h | h
          · exact hh ⟨h.1.symm, h.2.symm⟩
          · cases h.1)]
        exact h3) i hi a ha
      refine ⟨hk', fun hh => ?_⟩
      rw [h3, wLast_snoc]
      congr 1
      by_cases h4 : hits true ids[i] ids[a.1] e
      · rw [if_pos h4, if_pos]
        rcases h4 with h4 | h4
        · exact .inl h4
        · cases h4.1
      · rw [if_neg h4, if_neg]
        rintro (h5 | h5)
        · exact h4 (.inl h5)
        · exact hh ⟨h5.2.2.symm, h5.2.1.symm⟩
    · simp only [if_true]
      refine turn_w (u := e.1) (v := e.2.1) (e := e) hs hT.l1 hT.r1 hu hv (wLast true (es.take k ++ [e])) (by rw [wLast_snoc, if_pos (.inl ⟨rfl, rfl⟩)]) ?_
      intro i hi a ha
      obtain ⟨hk', h3⟩ := hW i hi a ha
      refine ⟨hk', fun hh => ?_⟩
      rw [h3, wLast_snoc, if_neg]
      rintro (h5 | h5)
      · exact hh ⟨h5.1.symm, h5.2.symm⟩
      · cases h5.1

/-- The weight of an edge of a good graph. -/
def wOf (g : Gr) (x y : Int) : Int := wLast g.dir g.edges x y

theorem wLast_le {dir : Bool} {es : List (Int × Int × Int)} (h : ∀ e ∈ es, e.2.2 ≤ 1099511627776 ∧ -1099511627776 ≤ e.2.2) (x y : Int) : wLast dir es x y ≤ 1099511627776 ∧ -1099511627776 ≤ wLast dir es x y := by
  unfold wLast
  cases hf : es.reverse.find? fun e => decide (hits dir x y e) with
  | none => simp
  | some e =>
    have := List.mem_of_find?_eq_some hf
    exact h e (List.mem_reverse.1 this)

theorem ok_edges {g : Gr} (h : okGraph g = true) : ∀ e ∈ g.edges, e.1 ≠ e.2.1 ∧ e.1 ∈ g.nodes ∧ e.2.1 ∈ g.nodes ∧ e.2.2 ≤ 1099511627776 ∧ -1099511627776 ≤ e.2.2 := by
  unfold okGraph at h
  rw [Bool.and_eq_true, List.all_eq_true] at h
  exact fun e he => of_decide_eq_true (h.2 e he)

theorem wOf_le {g : Gr} (h : okGraph g = true) (x y : Int) : wOf g x y ≤ 1099511627776 ∧ -1099511627776 ≤ wOf g x y :=
  wLast_le (fun e he => ⟨(ok_edges h e he).2.2.2.1, (ok_edges h e he).2.2.2.2⟩) x y

theorem wOf_fl {g : Gr} (h : okGraph g = true) (x y : Int) : (wOf g x y).natAbs < FlB := by
  have := wOf_le h x y
  unfold FlB; omega

/-- The weight that stands in the table. -/
theorem graph_w {g : Gr} (h : okGraph g = true) : WOk (asc g.nodes) g.dir g.edges (outsOf g) := by
  have hup : (asc g.nodes).Pairwise (· < ·) := asc_incr (by
    unfold okGraph at h
    rw [Bool.and_eq_true] at h
    exact of_decide_eq_true h.1)
  have := tabs_w (asc g.nodes) g.dir g.edges hup (fun e he => ⟨asc_mem.2 (ok_edges h e he).2.1, asc_mem.2 (ok_edges h e he).2.2.1, (ok_edges h e he).1⟩) g.edges.length (Nat.le_refl _)
  rw [List.take_length] at this
  exact this

/-- Where the k-th edge from x leads, and what it weighs. -/
theorem arc_w {g : Gr} (hok : okGraph g = true) {x : Int} (hx : x ∈ asc g.nodes) {k : Nat} (hk : k < (gSucc g x).length) : ∃ t, ArcAt (asc g.nodes) (outsOf g) x (gSucc g x)[k] t (fl (wOf g x (gSucc g x)[k])) := by
  have hup : (asc g.nodes).Pairwise (· < ·) := asc_incr (by
    unfold okGraph at hok
    rw [Bool.and_eq_true] at hok
    exact of_decide_eq_true hok.1)
  obtain ⟨hpl, hpe⟩ := posOf_mem hup hx
  have hk' : k < ((outsOf g).getD (posOf (asc g.nodes) x) []).length := by
    have := hk
    unfold gSucc succOf endsOf at this
    rwa [List.length_map] at this
  obtain ⟨hlt, hw⟩ := graph_w hok _ hpl _ (List.getElem_mem hk')
  have e : (gSucc g x)[k] = (asc g.nodes)[((outsOf g).getD (posOf (asc g.nodes) x) [])[k].1] := by
    have e1 : (gSucc g x)[k] = (asc g.nodes).getD ((outsOf g).getD (posOf (asc g.nodes) x) [])[k].1 0 := by
      show (List.map (fun a => (asc g.nodes).getD a.1 0) ((outsOf g).getD (posOf (asc g.nodes) x) []))[k]'(by rw [List.length_map]; exact hk') = _
      rw [List.getElem_map]
    rw [e1, List.getD_eq_getElem?_getD, List.getElem?_eq_getElem hlt]; rfl
  refine ⟨((outsOf g).getD (posOf (asc g.nodes) x) [])[k].1, hx, by rw [e]; exact List.getElem_mem _, by rw [e]; exact posOf_at hup hlt, k, hk', ?_⟩
  rw [e]
  rw [hpe] at hw
  have : bitsOf (wLast g.dir g.edges x (asc g.nodes)[((outsOf g).getD (posOf (asc g.nodes) x) [])[k].1]) = fl (wOf g x (asc g.nodes)[((outsOf g).getD (posOf (asc g.nodes) x) [])[k].1]) := rfl
  rw [← this, ← hw]
end Go.Proofs.YtgkimjjodhnmiaaGreat
