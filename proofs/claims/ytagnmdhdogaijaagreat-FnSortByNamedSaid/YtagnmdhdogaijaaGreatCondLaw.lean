/- FnCondensed: the plain law. -/
import Derived.Test.YtagnmdhdogaijaaGreatOrderLaw
namespace Go.Proofs.YtagnmdhdogaijaaGreat

/-- The place of the last of the first n components that has a node, -1 if there is none. -/
def compUp (L : List (List Int)) (x : Int) : Nat → Int
  | 0 => -1
  | n + 1 => if x ∈ L.getD n [] then (n : Int) else compUp L x n
def compAt (L : List (List Int)) (x : Int) : Int := compUp L x L.length

theorem compUp_mem {L : List (List Int)} {x : Int} : ∀ n, (∃ k, k < n ∧ x ∈ L.getD k []) → ∃ k : Nat, k < n ∧ x ∈ L.getD k [] ∧ compUp L x n = k
  | 0, ⟨k, hk, _⟩ => absurd hk (Nat.not_lt_zero k)
  | n + 1, ⟨k, hk, hx⟩ => by
    unfold compUp
    by_cases h : x ∈ L.getD n []
    · exact ⟨n, Nat.lt_succ_self n, h, by rw [if_pos h]⟩
    · rw [if_neg h]
      have hkn : k ≠ n := fun e => h (e ▸ hx)
      obtain ⟨j, h1, h2, h3⟩ := compUp_mem n ⟨k, by omega, hx⟩
      exact ⟨j, by omega, h2, h3⟩

theorem getD_flat {L : List (List Int)} {k : Nat} {x : Int} (h : x ∈ L.getD k []) : x ∈ L.flatten := by
  by_cases hk : k < L.length
  · have e : L.getD k [] = L[k] := by simp [hk]
    rw [e] at h
    exact List.mem_flatten.2 ⟨_, List.getElem_mem hk, h⟩
  · have e : L.getD k [] = [] := by simp [Nat.le_of_not_lt hk]
    rw [e] at h; cases h

theorem flat_getD {L : List (List Int)} {x : Int} (h : x ∈ L.flatten) : ∃ k, k < L.length ∧ x ∈ L.getD k [] := by
  obtain ⟨c, hc, hx⟩ := List.mem_flatten.1 h
  obtain ⟨k, hk, rfl⟩ := List.mem_iff_getElem.1 hc
  exact ⟨k, hk, by simpa [hk] using hx⟩

theorem flat_apart {L : List (List Int)} {x : Int} (hnd : L.flatten.Nodup) : ∀ {i j : Nat}, x ∈ L.getD i [] → x ∈ L.getD j [] → i = j := by
  induction L with
  | nil => intro i j hi; simp at hi
  | cons c L ih =>
    rw [List.flatten_cons, List.nodup_append] at hnd
    intro i j hi hj
    rcases i with _ | i <;> rcases j with _ | j
    · rfl
    · exact absurd rfl (hnd.2.2 x (by simpa using hi) x (getD_flat (by simpa using hj)))
    · exact absurd rfl (hnd.2.2 x (by simpa using hj) x (getD_flat (by simpa using hi)))
    · rw [ih hnd.2.1 (i := i) (j := j) (by simpa using hi) (by simpa using hj)]

/-- The graph of the components. -/
def condEdges (L : List (List Int)) (es : List (Int × Int × Int)) : List (Int × Int × Int) :=
  es.filterMap fun e => if compAt L e.1 = compAt L e.2.1 then none else some (compAt L e.1, compAt L e.2.1, 0)
def condNodes (n : Nat) : List Int := (List.range n).map fun (k : Nat) => (k : Int)
def condG (L : List (List Int)) (es : List (Int × Int × Int)) : Gr := ⟨true, condNodes L.length, condEdges L es⟩

theorem condNodes_mem {n : Nat} {x : Int} : x ∈ condNodes n ↔ ∃ k : Nat, k < n ∧ x = k := by
  unfold condNodes
  rw [List.mem_map]
  exact ⟨fun ⟨k, hk, e⟩ => ⟨k, List.mem_range.1 hk, e.symm⟩, fun ⟨k, hk, e⟩ => ⟨k, List.mem_range.2 hk, e.symm⟩⟩
theorem condNodes_length (n : Nat) : (condNodes n).length = n := by unfold condNodes; rw [List.length_map, List.length_range]
theorem condNodes_nodup (n : Nat) : (condNodes n).Nodup := by
  unfold condNodes
  exact List.pairwise_map.2 (List.nodup_range.imp fun {a b} h e => h (by omega))

theorem OrderOk.nodup {g : Gr} {L : List (List Int)} (hok : okGraph g = true) (ho : OrderOk g L) : L.flatten.Nodup := by
  unfold okGraph at hok
  rw [Bool.and_eq_true] at hok
  have hnd : g.nodes.Nodup := of_decide_eq_true hok.1
  rw [← (asc_perm L.flatten).nodup_iff, ho.perm, (asc_perm g.nodes).nodup_iff]
  exact hnd

theorem OrderOk.mem {g : Gr} {L : List (List Int)} (ho : OrderOk g L) {x : Int} : x ∈ L.flatten ↔ x ∈ g.nodes := by
  rw [← asc_mem (zs := L.flatten), ho.perm, asc_mem]

theorem cond_edge {g : Gr} {L : List (List Int)} (hok : okGraph g = true) (ho : OrderOk g L) {e : Int × Int × Int} (he : e ∈ g.edges) :
    ∃ i j : Nat, i < L.length ∧ j ≤ i ∧ compAt L e.1 = i ∧ compAt L e.2.1 = j := by
  have hnd := ho.nodup hok
  have hok' := hok
  unfold okGraph at hok'
  rw [Bool.and_eq_true, List.all_eq_true] at hok'
  have hoke := of_decide_eq_true (hok'.2 e he)
  obtain ⟨i, hi, hie, hic⟩ := compUp_mem L.length (flat_getD (ho.mem.2 hoke.2.1))
  obtain ⟨j, hj, hje, hjc⟩ := compUp_mem L.length (flat_getD (ho.mem.2 hoke.2.2.1))
  obtain ⟨q, hq, rfl⟩ := List.mem_iff_getElem.1 he
  have hl := ho.law i hi q hq (by simpa [hi] using hie)
  obtain ⟨c, hc, hcm⟩ := List.any_eq_true.1 hl
  obtain ⟨m, hm, rfl⟩ := List.mem_iff_getElem.1 hc
  rw [List.length_take] at hm
  rw [List.getElem_take] at hcm
  have hmL : m < L.length := by omega
  have hmj : j = m := flat_apart hnd hje (by have := of_decide_eq_true hcm; simpa [hmL] using this)
  exact ⟨i, j, hi, by omega, hic, hjc⟩

theorem cond_edges {g : Gr} {L : List (List Int)} (hok : okGraph g = true) (ho : OrderOk g L) {e : Int × Int × Int} (he : e ∈ condEdges L g.edges) :
    ∃ i j : Nat, i < L.length ∧ j < i ∧ e = ((i : Int), (j : Int), 0) := by
  obtain ⟨d, hd, h⟩ := List.mem_filterMap.1 he
  obtain ⟨i, j, hi, hj, h1, h2⟩ := cond_edge hok ho hd
  rw [h1, h2] at h
  by_cases hij : (i : Int) = j
  · rw [if_pos hij] at h; cases h
  · rw [if_neg hij] at h
    injection h with h
    exact ⟨i, j, hi, by omega, h.symm⟩

theorem cond_ok {g : Gr} {L : List (List Int)} (hok : okGraph g = true) (ho : OrderOk g L) : okGraph (condG L g.edges) = true := by
  unfold okGraph
  rw [Bool.and_eq_true, List.all_eq_true]
  refine ⟨decide_eq_true (condNodes_nodup _), fun e he => ?_⟩
  obtain ⟨i, j, hi, hj, rfl⟩ := cond_edges hok ho he
  exact decide_eq_true ⟨by show (i : Int) ≠ j; omega, condNodes_mem.2 ⟨i, hi, rfl⟩, condNodes_mem.2 ⟨j, by omega, rfl⟩, by simp, by simp⟩

theorem cond_succ {g : Gr} {L : List (List Int)} (hok : okGraph g = true) (ho : OrderOk g L) {x y : Int} (hx : x ∈ condNodes L.length) (hy : y ∈ gSucc (condG L g.edges) x) : y ∈ condNodes L.length ∧ y < x := by
  obtain ⟨h1, h2⟩ := (gSucc_mem (cond_ok hok ho) hx).1 hy
  refine ⟨h1, ?_⟩
  obtain ⟨e, he, h3⟩ := List.any_eq_true.1 h2
  obtain ⟨i, j, hi, hj, rfl⟩ := cond_edges hok ho he
  rcases of_decide_eq_true h3 with ⟨a, b⟩ | ⟨a, _⟩
  · simp only [] at a b; omega
  · cases a

theorem reach_down {succ : Int → List Int} {ids : List Int} (hlt : ∀ x ∈ ids, ∀ y ∈ succ x, y ∈ ids ∧ y < x) {x y : Int} (hx : x ∈ ids) (r : Reach succ x y) : y ∈ ids ∧ y ≤ x := by
  induction r with
  | refl => exact ⟨hx, Int.le_refl _⟩
  | step _ h ih =>
    obtain ⟨h1, h2⟩ := hlt _ ih.1 _ h
    exact ⟨h1, by have := ih.2; omega⟩

theorem nodup_of_flat {l : List (List Int)} (hl : l.flatten.Nodup) {c : List Int} (hc : c ∈ l) : c.Nodup := by
  induction l with
  | nil => cases hc
  | cons d l ih =>
    rw [List.flatten_cons, List.nodup_append] at hl
    rcases List.mem_cons.1 hc with e | e
    · exact e ▸ hl.1
    · exact ih hl.2.1 e

theorem down_single {ids : List Int} {succ : Int → List Int} {l : List (List Int)} (hs : SccOk ids succ l) (hlt : ∀ x ∈ ids, ∀ y ∈ succ x, y ∈ ids ∧ y < x) : ∀ c ∈ l, c.length = 1 := by
  intro c hc
  have hne := hs.ne c hc
  have hcn := nodup_of_flat hs.nd hc
  match c, hc, hne, hcn with
  | [a], _, _, _ => rfl
  | a :: b :: t, hc, _, hcn =>
    have ha : a ∈ ids := (hs.mem a).1 (List.mem_flatten.2 ⟨_, hc, by simp⟩)
    have hb : b ∈ ids := (hs.mem b).1 (List.mem_flatten.2 ⟨_, hc, by simp⟩)
    have h1 := (reach_down hlt ha (hs.strong _ hc a (by simp) b (by simp))).2
    have h2 := (reach_down hlt hb (hs.strong _ hc b (by simp) a (by simp))).2
    have e : a = b := by omega
    rw [e] at hcn
    simp at hcn

theorem singles_len {l : List (List Int)} (h : ∀ c ∈ l, c.length = 1) : l.flatten.length = l.length := by
  induction l with
  | nil => rfl
  | cons c l ih =>
    rw [List.flatten_cons, List.length_append, h c List.mem_cons_self, ih fun d hd => h d (List.mem_cons_of_mem _ hd), List.length_cons]
    omega

/-- What the law asks of the graph of the components. -/
theorem cond_scc {g : Gr} (hok : okGraph g = true) {L : List (List Int)} (ho : OrderOk g L) :
    (∀ c ∈ sccsOf (gSucc (condG L g.edges)) (asc (condNodes L.length)), c.length = 1) ∧ (sccsOf (gSucc (condG L g.edges)) (asc (condNodes L.length))).length = L.length := by
  have hlt : ∀ x ∈ asc (condNodes L.length), ∀ y ∈ gSucc (condG L g.edges) x, y ∈ asc (condNodes L.length) ∧ y < x := fun x hx y hy => by
    obtain ⟨h1, h2⟩ := cond_succ hok ho (asc_mem.1 hx) hy
    exact ⟨asc_mem.2 h1, h2⟩
  have hs : SccOk (asc (condNodes L.length)) (gSucc (condG L g.edges)) (sccsOf (gSucc (condG L g.edges)) (asc (condNodes L.length))) := sccs_ok fun x hx y hy => (hlt x hx y hy).1
  have h1 := down_single hs hlt
  refine ⟨h1, ?_⟩
  rw [← singles_len h1]
  have hp := nodup_perm hs.nd ((asc_perm (condNodes L.length)).nodup_iff.2 (condNodes_nodup _)) hs.mem
  rw [hp.length_eq, asc_length, condNodes_length]
end Go.Proofs.YtagnmdhdogaijaaGreat
