/- Degrees within a set by the edges of a graph; peeled, pure. -/
import Derived.Test.YtfihclhceakmdaaTable
import Derived.Test.YtfihclhceakmdaaSucc
import Derived.Test.YtfihclhceakmdaaKLaw2
import Derived.Test.YtfihclhceakmdaaDeg2
namespace Go.Proofs.Ytfihclhceakmdaa

/-- How many nodes of S an edge leads to from x. -/
def dgIn (g : Gr) (S : List Int) (x : Int) : Nat := (S.filter fun y => arcB g x y).length

theorem dg_degIn {g : Gr} {S : List Int} {x : Int} (hok : okGraph g = true) (hS : S.Nodup) (hsub : ∀ y ∈ S, y ∈ g.nodes) (hx : x ∈ g.nodes) (hnd : (gSucc g x).Nodup) : dgIn g S x = degIn (gSucc g) S x := by
  unfold dgIn degIn
  refine Nat.le_antisymm ?_ ?_
  · refine nodup_len (hS.filter _) fun y hy => ?_
    rw [List.mem_filter] at hy ⊢
    exact ⟨(gSucc_mem hok hx).2 ⟨hsub y hy.1, hy.2⟩, decide_eq_true hy.1⟩
  · refine nodup_len (hnd.filter _) fun y hy => ?_
    rw [List.mem_filter] at hy ⊢
    exact ⟨of_decide_eq_true hy.2, ((gSucc_mem hok hx).1 hy.1).2⟩

/-- How many of the places below m that are not gone an edge leads to. -/
def dAt (ta : List (List Bool)) (G : List Bool) (u m : Nat) : Nat := ((List.range m).filter fun v => atB ta u v && !G.getD v false).length

theorem dAt_succ (ta : List (List Bool)) (G : List Bool) (u m : Nat) : dAt ta G u (m + 1) = dAt ta G u m + if (atB ta u m && !G.getD m false) = true then 1 else 0 := by
  unfold dAt
  rw [List.range_succ, List.filter_append, List.length_append]
  congr 1
  by_cases h : (atB ta u m && !G.getD m false) = true
  · rw [if_pos h, List.filter_cons_of_pos (p := fun v => atB ta u v && !G.getD v false) h]; rfl
  · rw [if_neg h, List.filter_cons_of_neg (p := fun v => atB ta u v && !G.getD v false) h]; rfl

theorem dAt_le (ta : List (List Bool)) (G : List Bool) (u m : Nat) : dAt ta G u m ≤ m := by
  unfold dAt
  have := List.length_filter_le (fun v => atB ta u v && !G.getD v false) (List.range m)
  rwa [List.length_range] at this

/-- How many are left. -/
def left_ (G : List Bool) : Nat := (G.filter fun b => !b).length

theorem left_set {G : List Bool} {u : Nat} (hu : u < G.length) (h : G.getD u false = false) : left_ (G.set u true) + 1 = left_ G := by
  induction G generalizing u with
  | nil => simp at hu
  | cons b G ih =>
    cases u with
    | zero =>
      simp at h
      subst h
      simp [left_]
    | succ u =>
      have := ih (u := u) (by simpa using hu) (by simpa using h)
      unfold left_ at this ⊢
      rw [List.set_cons_succ]
      cases b <;> simp_all

/-- What is left has k edges to others that are left. -/
def Peeled (ta : List (List Bool)) (G : List Bool) (n k m : Nat) : Prop := ∀ u, u < m → G.getD u false = false → k ≤ dAt ta G u n

/-- A round of peeled at place m. -/
def PRound (ta : List (List Bool)) (G0 G : List Bool) (n k m : Nat) (ag : Bool) : Prop :=
  G.length = n ∧ (ag = false → G = G0 ∧ Peeled ta G n k m) ∧ (ag = true → left_ G < left_ G0)

theorem PRound.start (ta : List (List Bool)) {G : List Bool} {n : Nat} (k : Nat) (h : G.length = n) : PRound ta G G n k 0 false :=
  ⟨h, fun _ => ⟨rfl, fun u hu => by omega⟩, fun e => by cases e⟩

theorem PRound.keep {ta : List (List Bool)} {G0 G : List Bool} {n k m : Nat} {ag : Bool} (h : PRound ta G0 G n k m ag) (hc : ¬ (G.getD m false = false ∧ dAt ta G m n < k)) : PRound ta G0 G n k (m + 1) ag :=
  ⟨h.1, fun e => ⟨(h.2.1 e).1, fun u hu hg => by
    by_cases e2 : u = m
    · subst e2
      exact Nat.le_of_not_lt fun h2 => hc ⟨hg, h2⟩
    · exact (h.2.1 e).2 u (by omega) hg⟩, h.2.2⟩

theorem PRound.take_ {ta : List (List Bool)} {G0 G : List Bool} {n k m : Nat} {ag : Bool} (h : PRound ta G0 G n k m ag) (hm : m < n) (hg : G.getD m false = false) : PRound ta G0 (G.set m true) n k (m + 1) true := by
  refine ⟨by rw [List.length_set]; exact h.1, fun e => (by simp at e), fun _ => ?_⟩
  have h1 := left_set (by rw [h.1]; exact hm) hg
  cases ag with
  | true => have := h.2.2 rfl; omega
  | false => rw [← (h.2.1 rfl).1]; omega

/-- The places that are left. -/
def leftTo (G : List Bool) (ids : List Int) (m : Nat) : List Int := ((List.range m).filter fun u => !G.getD u false).map fun u => ids.getD u 0

theorem leftTo_succ (G : List Bool) (ids : List Int) (m : Nat) : leftTo G ids (m + 1) = leftTo G ids m ++ if G.getD m false = true then [] else [ids.getD m 0] := by
  unfold leftTo
  rw [List.range_succ, List.filter_append, List.map_append]
  congr 1
  by_cases h : G.getD m false = true
  · rw [if_pos h, List.filter_cons_of_neg (p := fun u => !G.getD u false) (by rw [h]; simp)]; rfl
  · have h' : G.getD m false = false := by simpa using h
    rw [if_neg h, List.filter_cons_of_pos (p := fun u => !G.getD u false) (by rw [h']; rfl)]; rfl

theorem leftTo_len (G : List Bool) (ids : List Int) (m : Nat) : (leftTo G ids m).length ≤ m := by
  unfold leftTo
  rw [List.length_map]
  have := List.length_filter_le (fun u => !G.getD u false) (List.range m)
  rwa [List.length_range] at this

theorem left_core {g : Gr} {ta : List (List Bool)} {tw : List (List Int)} {G : List Bool} {k : Nat} (hids : (asc g.nodes).Nodup) (hT : TabOk (asc g.nodes) g.dir g.edges (ta, tw)) (hP : Peeled ta G (asc g.nodes).length k (asc g.nodes).length) :
    (leftTo G (asc g.nodes) (asc g.nodes).length).Nodup ∧ ∀ x ∈ leftTo G (asc g.nodes) (asc g.nodes).length, x ∈ g.nodes ∧ k ≤ dgIn g (leftTo G (asc g.nodes) (asc g.nodes).length) x := by
  obtain ⟨ids, hi⟩ : ∃ ids, ids = asc g.nodes := ⟨_, rfl⟩
  have hmem : ∀ x, x ∈ ids ↔ x ∈ g.nodes := fun x => by rw [hi]; exact asc_mem
  rw [← hi] at hids hT hP ⊢
  have hinj : ∀ (p : Nat → Bool) (m : Nat), m ≤ ids.length → (((List.range m).filter p).map fun u => ids.getD u 0).Nodup := fun p m hm => by
    unfold List.Nodup
    rw [List.pairwise_map]
    refine List.Pairwise.imp_of_mem (R := fun a b => a ≠ b) ?_ (List.Pairwise.filter _ List.nodup_range)
    intro a b ha hb hab e
    rw [List.mem_filter, List.mem_range] at ha hb
    have h1 : a < ids.length := by omega
    have h2 : b < ids.length := by omega
    simp only [List.getD_eq_getElem?_getD, List.getElem?_eq_getElem h1, List.getElem?_eq_getElem h2, Option.getD_some] at e
    exact hab ((List.getElem_inj hids).1 e)
  refine ⟨hinj _ _ (Nat.le_refl _), fun x hx => ?_⟩
  unfold leftTo at hx
  obtain ⟨u, hu, rfl⟩ := List.mem_map.1 hx
  rw [List.mem_filter, List.mem_range] at hu
  have hul := hu.1
  have hug : G.getD u false = false := by simpa using hu.2
  have hxg : ids.getD u 0 = ids[u] := by simp [hul]
  rw [hxg]
  refine ⟨(hmem _).1 (List.getElem_mem hul), Nat.le_trans (hP u hul hug) ?_⟩
  unfold dAt dgIn
  have hl : ((List.range ids.length).filter fun v => atB ta u v && !G.getD v false).length = (((List.range ids.length).filter fun v => atB ta u v && !G.getD v false).map fun u => ids.getD u 0).length := by rw [List.length_map]
  rw [hl]
  refine nodup_len (hinj _ _ (Nat.le_refl _)) fun y hy => ?_
  obtain ⟨v, hv, rfl⟩ := List.mem_map.1 hy
  rw [List.mem_filter, List.mem_range, Bool.and_eq_true] at hv
  rw [List.mem_filter]
  refine ⟨List.mem_map.2 ⟨v, List.mem_filter.2 ⟨List.mem_range.2 hv.1, hv.2.2⟩, rfl⟩, ?_⟩
  have := hT.at_ u v hul hv.1
  simp only at this
  unfold arcB
  rw [show ids.getD v 0 = ids[v] from by simp [hv.1], ← this]
  exact hv.2.1

/-- The least of the degrees within a list, of its first m nodes. -/
def leastTo (g : Gr) (l : List Int) (m : Nat) : Nat := (l.take m).foldl (fun a x => min a (dgIn g l x)) 1099511627776

theorem leastTo_succ (g : Gr) (l : List Int) (m : Nat) (hm : m < l.length) : leastTo g l (m + 1) = min (leastTo g l m) (dgIn g l l[m]) := by
  unfold leastTo
  rw [List.take_succ_eq_append_getElem hm, List.foldl_append]; rfl

theorem leastTo_le (g : Gr) (l : List Int) (m : Nat) : leastTo g l m ≤ 1099511627776 := by
  unfold leastTo
  generalize l.take m = q
  have : ∀ (q : List Int) (a : Nat), q.foldl (fun a x => min a (dgIn g l x)) a ≤ a := by
    intro q
    induction q with
    | nil => intro a; exact Nat.le_refl _
    | cons x q ih => intro a; exact Nat.le_trans (ih _) (Nat.min_le_left _ _)
  exact this q _

theorem le_leastTo {g : Gr} {l : List Int} {k : Nat} (hk : k ≤ 1099511627776) (h : ∀ x ∈ l, k ≤ dgIn g l x) (m : Nat) : k ≤ leastTo g l m := by
  unfold leastTo
  have hq : ∀ x ∈ l.take m, k ≤ dgIn g l x := fun x hx => h x (List.mem_of_mem_take hx)
  generalize l.take m = q at hq ⊢
  have : ∀ (q : List Int) (a : Nat), (∀ x ∈ q, k ≤ dgIn g l x) → k ≤ a → k ≤ q.foldl (fun a x => min a (dgIn g l x)) a := by
    intro q
    induction q with
    | nil => intro a _ ha; exact ha
    | cons x q ih => intro a h ha; exact ih _ (fun y hy => h y (List.mem_cons_of_mem _ hy)) (Nat.le_min.2 ⟨ha, h x List.mem_cons_self⟩)
  exact this q _ hq hk

theorem leastTo_mem {g : Gr} {l : List Int} (x : Int) (hx : x ∈ l) : leastTo g l l.length ≤ dgIn g l x := by
  unfold leastTo
  rw [List.take_length]
  have : ∀ (q : List Int) (a : Nat), x ∈ q → q.foldl (fun a x => min a (dgIn g l x)) a ≤ dgIn g l x := by
    intro q
    induction q with
    | nil => intro a h; cases h
    | cons y q ih =>
      intro a h
      have hmono : ∀ (q : List Int) (a : Nat), q.foldl (fun a x => min a (dgIn g l x)) a ≤ a := by
        intro q
        induction q with
        | nil => intro a; exact Nat.le_refl _
        | cons x q ih => intro a; exact Nat.le_trans (ih _) (Nat.min_le_left _ _)
      rcases List.mem_cons.1 h with e | e
      · subst e
        exact Nat.le_trans (hmono q _) (Nat.min_le_right _ _)
      · exact ih _ e
  exact this l _ hx
end Go.Proofs.Ytfihclhceakmdaa
