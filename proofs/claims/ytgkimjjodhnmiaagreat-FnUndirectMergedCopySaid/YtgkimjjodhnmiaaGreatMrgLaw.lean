/- What laws.plain tells, with the weights; an undirected graph that is copied into a directed one, without its directions: no program in sight. -/
import Derived.Test.YtgkimjjodhnmiaaGreatCopyP
import Derived.Test.YtgkimjjodhnmiaaGreatLPlain
import Derived.Test.YtgkimjjodhnmiaaGreatTabW
namespace Go.Proofs.YtgkimjjodhnmiaaGreat
open Go.RowKit

theorem atW_set {n : Nat} {t : List (List Int)} (h : Square n t) (i k : Nat) (x : Int) (a b : Nat) (ha : a < n) (hb : b < n) : atW (setI t i k x) a b = if i = a ∧ k = b then x else atW t a b := by
  have hat : a < t.length := by rw [h.1]; exact ha
  have hl : t[a].length = n := h.2 _ (List.getElem_mem hat)
  unfold atW setI
  rw [List.getD_eq_getElem?_getD (l := t.modify i _), List.getElem?_modify, List.getElem?_eq_getElem hat, List.getD_eq_getElem?_getD (l := t), List.getElem?_eq_getElem hat]
  by_cases hi : i = a
  · by_cases hk : k = b
    · subst hi; subst hk
      simp [hl, hb]
    · simp [hi, hk]
  · simp [hi]

theorem tableP_w (ids : List Int) (dir : Bool) (es : List (Int × Int × Int)) (hs : ids.Pairwise (· < ·)) (he : ∀ e ∈ es, e.1 ∈ ids ∧ e.2.1 ∈ ids) : ∀ n, n ≤ es.length → ∀ (i k : Nat) (hi : i < ids.length) (hk : k < ids.length), atW (tableP ids dir (es.take n)).2 i k = wLast dir (es.take n) ids[i] ids[k] := by
  intro n
  induction n with
  | zero =>
    intro _ i k hi hk
    simp [tableP, atW, wLast, hi, hk]
  | succ n ih =>
    intro hn i k hi hk
    have hlt : n < es.length := by omega
    obtain ⟨hu, hv⟩ := he es[n] (List.getElem_mem hlt)
    have hT := tableP_ok ids dir es hs he n (by omega)
    have hW := ih (by omega) i k hi hk
    have htk : es.take (n + 1) = es.take n ++ [es[n]] := List.take_succ_eq_append_getElem hlt
    rw [tableP_step ids dir es n hlt, htk, wLast_snoc]
    have a1 := posOf_iff hs hu hi
    have a2 := posOf_iff hs hv hk
    have a3 := posOf_iff hs hv hi
    have a4 := posOf_iff hs hu hk
    obtain ⟨e, hee⟩ : ∃ e, e = es[n] := ⟨_, rfl⟩
    rw [← hee] at a1 a2 a3 a4 ⊢
    unfold layT hits
    cases dir
    · simp only [Bool.false_eq_true, if_false, true_and]
      rw [atW_set (t := setI _ _ _ _) (square_modify hT.s2 _ _ _) _ _ _ _ _ hi hk, atW_set hT.s2 _ _ _ _ _ hi hk, hW]
      simp only [a1, a2, a3, a4]
      by_cases h1 : e.1 = ids[i] ∧ e.2.1 = ids[k]
      · rw [if_pos (Or.inl h1)]
        by_cases h2 : e.2.1 = ids[i] ∧ e.1 = ids[k]
        · rw [if_pos h2]
        · rw [if_neg h2, if_pos h1]
      · by_cases h2 : e.2.1 = ids[i] ∧ e.1 = ids[k]
        · rw [if_pos h2, if_pos (Or.inr ⟨h2.2, h2.1⟩)]
        · rw [if_neg h2, if_neg h1, if_neg]
          rintro (h | h)
          · exact h1 h
          · exact h2 ⟨h.2, h.1⟩
    · simp only [if_true, Bool.true_eq_false, false_and, or_false]
      rw [atW_set hT.s2 _ _ _ _ _ hi hk, hW]
      simp only [a1, a2]

theorem graph_tw {g : Gr} (h : okGraph g = true) (i k : Nat) (hi : i < (asc g.nodes).length) (hk : k < (asc g.nodes).length) : atW (tableP (asc g.nodes) g.dir g.edges).2 i k = wOf g ((asc g.nodes).getD i 0) ((asc g.nodes).getD k 0) := by
  have := tableP_w (asc g.nodes) g.dir g.edges (ok_up h) (fun e he => ⟨asc_mem.2 (ok_edges h e he).2.1, asc_mem.2 (ok_edges h e he).2.2.1⟩) g.edges.length (Nat.le_refl _) i k hi hk
  rw [List.take_length] at this
  rw [this, List.getD_eq_getElem?_getD, List.getElem?_eq_getElem hi, List.getD_eq_getElem?_getD, List.getElem?_eq_getElem hk]
  rfl

theorem up_ext {l m : List Int} (hl : l.Pairwise (· < ·)) (hm : m.Pairwise (· < ·)) (h : ∀ x, x ∈ l ↔ x ∈ m) : l = m := by
  have hp : l.Perm m := (List.perm_ext_iff_of_nodup (hl.imp fun h => Int.ne_of_lt h) (hm.imp fun h => Int.ne_of_lt h)).2 h
  exact (asc_unique hp (hl.imp fun h => Int.le_of_lt h)).trans (asc_unique (List.Perm.refl m) (hm.imp fun h => Int.le_of_lt h)).symm

theorem gSucc_filter {g : Gr} (hok : okGraph g = true) {u : Int} (hu : u ∈ asc g.nodes) : gSucc g u = (asc g.nodes).filter fun v => arcB g u v :=
  up_ext (gs_up hok u) ((ok_up hok).sublist List.filter_sublist) fun x => by rw [List.mem_filter, gs_mem hok hu]

theorem range_flat {β : Type} (A : List Int) (f : Int → List β) : A.flatMap f = (List.range A.length).flatMap fun i => f (A.getD i 0) := by
  conv => lhs; rw [← range_getD A]
  rw [List.flatMap_map]
theorem range_filt {β : Type} (A : List Int) (p : Int → Bool) (f : Int → β) : (A.filter p).map f = ((List.range A.length).filter fun j => p (A.getD j 0)).map fun j => f (A.getD j 0) := by
  conv => lhs; rw [← range_getD A]
  rw [List.filter_map, List.map_map]
  rfl
theorem flat_congr {α β : Type} : ∀ (l : List α) {f f' : α → List β}, (∀ u ∈ l, f u = f' u) → l.flatMap f = l.flatMap f' := fun l => by
  induction l with
  | nil => intros; rfl
  | cons x l ih =>
    intro f f' hf
    rw [List.flatMap_cons, List.flatMap_cons, hf x List.mem_cons_self, ih fun u hu => hf u (List.mem_cons_of_mem _ hu)]

/-- What laws.plain tells. -/
theorem plainE_w {g : Gr} (hok : okGraph g = true) : plainE g = seenW g.dir (wOf g) (asc g.nodes) (gSucc g) := by
  have ht := graph_table hok
  have hup := ok_up hok
  have htw := graph_tw hok
  unfold plainE plainUp seenW
  rw [range_flat (asc g.nodes)]
  refine flat_congr _ fun i hi => ?_
  have hi' : i < (asc g.nodes).length := List.mem_range.1 hi
  have hge : ∀ k, k < (asc g.nodes).length → (asc g.nodes).getD k 0 = (asc g.nodes)[k]! := fun k hk => by simp [hk]
  have hgk : ∀ k (hk : k < (asc g.nodes).length), (asc g.nodes).getD k 0 = (asc g.nodes)[k] := fun k hk => by simp [hk]
  have hu : (asc g.nodes).getD i 0 ∈ asc g.nodes := by rw [hgk i hi']; exact List.getElem_mem _
  unfold plainRow rowW
  rw [gSucc_filter hok hu, List.filter_filter, range_filt]
  have hf : ∀ k ∈ List.range (asc g.nodes).length, (atB (tableP (asc g.nodes) g.dir g.edges).1 i k && (g.dir || decide (i < k))) = ((g.dir || decide ((asc g.nodes).getD i 0 ≤ (asc g.nodes).getD k 0)) && arcB g ((asc g.nodes).getD i 0) ((asc g.nodes).getD k 0)) := fun k hk => by
    have hk' := List.mem_range.1 hk
    rw [ht.at_ i k hi' hk', hgk i hi', hgk k hk']
    show (arcB g (asc g.nodes)[i] (asc g.nodes)[k] && _) = _
    rw [Bool.and_comm]
    cases ha : arcB g (asc g.nodes)[i] (asc g.nodes)[k]
    · rw [Bool.and_false, Bool.and_false]
    · rw [Bool.and_true, Bool.and_true]
      congr 1
      refine decide_eq_decide.2 ⟨fun h => Int.le_of_lt (List.pairwise_iff_getElem.1 hup i k hi' hk' h), fun h => ?_⟩
      rcases Nat.lt_or_ge i k with h1 | h1
      · exact h1
      · rcases Nat.lt_or_eq_of_le h1 with h2 | h2
        · have := List.pairwise_iff_getElem.1 hup k i hk' hi' h2; omega
        · subst h2
          exact absurd ((gs_mem hok (List.getElem_mem hi')).2 ⟨List.getElem_mem hi', ha⟩) (gs_self hok (List.getElem_mem hi'))
  rw [List.filter_congr hf]
  refine List.map_congr_left fun k hk => ?_
  have hk' := List.mem_range.1 (List.mem_filter.1 hk).1
  rw [htw i k hi' hk']

theorem seenW_congr {dir : Bool} {W W' : Int → Int → Int} {A : List Int} {S S' : Int → List Int} (h : ∀ u ∈ A, S u = S' u) (hW : ∀ u ∈ A, ∀ v ∈ S u, W u v = W' u v) : seenW dir W A S = seenW dir W' A S' := by
  unfold seenW
  refine flat_congr _ fun u hu => ?_
  unfold rowW
  rw [← h u hu]
  refine List.map_congr_left fun v hv => ?_
  rw [hW u hu v (List.mem_filter.1 hv).1]

theorem seenW_map {dir : Bool} {W : Int → Int → Int} {A : List Int} {S : Int → List Int} (f : Int → Int) : (seenW dir W A S).map (fun e => (e.1, e.2.1, f e.2.2)) = seenW dir (fun x y => f (W x y)) A S := by
  unfold seenW rowW
  rw [List.map_flatMap]
  refine flat_congr _ fun u _ => ?_
  rw [List.map_map]
  rfl

/-- The neighbours of x, in either direction. -/
def bSucc (g : Gr) (x : Int) : List Int := (asc g.nodes).filter fun y => arcB g x y || arcB g y x
/-- The weight of the edge from x to y, or what stands for it. -/
def aW (g : Gr) (ab : Int) (x y : Int) : Int := if arcB g x y = true then wOf g x y else ab
/-- The weights of both directions together. -/
def mW (how a b : Int) : Int := if how = 0 then a + b else if how = 1 then min a b else max a b
/-- A directed graph without its directions, with merged weights. -/
def undG (g : Gr) (ab how : Int) : Gr := ⟨false, asc g.nodes, seenW false (fun x y => mW how (aW g ab x y) (aW g ab y x)) (asc g.nodes) (bSucc g)⟩

theorem wOf_copy {g : Gr} {x y : Int} (h : arcB (copyG g true) x y = true) : wOf (copyG g true) x y = wOf g x y := by
  unfold wOf wLast
  show ((List.find? (fun e => decide (hits true x y e)) (seenW true (wOf g) (asc g.nodes) (gSucc g)).reverse).map fun e => e.2.2).getD 0 = _
  obtain ⟨e, he, hh⟩ := arcB_ex.1 h
  cases hf : List.find? (fun e => decide (hits true x y e)) (seenW true (wOf g) (asc g.nodes) (gSucc g)).reverse with
  | none =>
    have := List.find?_eq_none.1 hf e (List.mem_reverse.2 he)
    exact absurd (decide_eq_true hh) this
  | some e' =>
    have h1 := List.mem_reverse.1 (List.mem_of_find?_eq_some hf)
    have h2 : hits true x y e' := by simpa using List.find?_some hf
    have h3 := (seenW_mem.1 h1).2.2.2
    show e'.2.2 = _
    rw [h3]
    rcases h2 with ⟨h4, h5⟩ | ⟨h4, _⟩
    · rw [h4, h5]; rfl
    · cases h4

theorem arcB_symm {g : Gr} (hd : g.dir = false) (x y : Int) : arcB g x y = arcB g y x := by
  unfold arcB
  rw [hd]
  congr 1
  funext e
  exact decide_eq_decide.2 hits_sym

theorem asc_twice (l : List Int) : asc (asc l) = asc l := (asc_unique (List.Perm.refl _) (asc_sorted l)).symm

theorem und_copy {g : Gr} (hok : okGraph g = true) (hd : g.dir = false) (ab how : Int) :
    undG (copyG g true) ab how = ⟨false, asc g.nodes, seenW false (fun x y => mW how (wOf g x y) (wOf g x y)) (asc g.nodes) (gSucc g)⟩ := by
  have hA : asc (copyG g true).nodes = asc g.nodes := asc_twice _
  have hs := copy_same (d := true) hok (fun _ => rfl)
  have ha : ∀ x ∈ asc g.nodes, ∀ y ∈ asc g.nodes, arcB (copyG g true) x y = arcB g x y := fun x hx y hy => (hs.2 x hx y hy).symm
  have hS : ∀ x ∈ asc g.nodes, bSucc (copyG g true) x = gSucc g x := fun x hx => by
    unfold bSucc
    rw [hA, gSucc_filter hok hx]
    refine List.filter_congr fun y hy => ?_
    rw [ha x hx y hy, ha y hy x hx, arcB_symm hd y x, Bool.or_self]
  unfold undG
  rw [hA]
  congr 1
  refine seenW_congr hS fun x hx y hy => ?_
  rw [hS x hx] at hy
  obtain ⟨hy1, hy2⟩ := (gs_mem hok hx).1 hy
  have h1 : arcB (copyG g true) x y = true := by rw [ha x hx y hy1]; exact hy2
  have h2 : arcB (copyG g true) y x = true := by rw [ha y hy1 x hx, arcB_symm hd]; exact hy2
  unfold aW
  rw [if_pos h1, if_pos h2, wOf_copy h1, wOf_copy h2, wOf_sym hd y x]

theorem mW_same1 (a : Int) : mW 1 a a = a := by simp [mW]
theorem mW_same2 (a : Int) : mW 2 a a = a := by simp [mW]
theorem mW_same0 (a : Int) : mW 0 a a = 2 * a := by simp [mW]; omega

/-- A graph of which each edge weighs twice as much. -/
def dblE (es : List (Int × Int × Int)) : List (Int × Int × Int) := es.map fun e => (e.1, e.2.1, 2 * e.2.2)

theorem und_copy0 {g : Gr} (hok : okGraph g = true) (hd : g.dir = false) (ab : Int) : undG (copyG g true) ab 0 = ⟨false, asc g.nodes, dblE (plainE g)⟩ := by
  rw [und_copy hok hd, plainE_w hok, hd]
  unfold dblE
  rw [seenW_map fun x => 2 * x]
  simp only [mW_same0]
theorem und_copy12 {g : Gr} (hok : okGraph g = true) (hd : g.dir = false) (ab : Int) {how : Int} (h : how = 1 ∨ how = 2) : undG (copyG g true) ab how = ⟨false, asc g.nodes, plainE g⟩ := by
  rw [und_copy hok hd, plainE_w hok, hd]
  rcases h with rfl | rfl
  · simp only [mW_same1]
  · simp only [mW_same2]

/-- The graph of one edge that is merged with an absent one. -/
def g97 : Gr := ⟨true, [7, 9], [(9, 7, 3)]⟩
theorem ok97 : okGraph g97 = true := by decide
theorem und97 : undG g97 4 0 = ⟨false, [7, 9], [(7, 9, 7)]⟩ := by
  have hA : asc g97.nodes = [7, 9] := (asc_unique (List.Perm.refl _) (by simp [g97])).symm
  unfold undG bSucc
  rw [hA]
  rfl
end Go.Proofs.YtgkimjjodhnmiaaGreat
