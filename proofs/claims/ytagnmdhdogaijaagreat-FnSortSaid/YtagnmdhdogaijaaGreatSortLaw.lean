/- FnSort, pure: the cyclic components as Tarjan's algorithm finds them and as the table of what can be come to tells them. -/
import Derived.Test.YtagnmdhdogaijaaGreatCondLaw
import Derived.Test.YtagnmdhdogaijaaGreatCycOf
import Derived.Test.YtagnmdhdogaijaaGreatSortImpl
namespace Go.Proofs.YtagnmdhdogaijaaGreat

theorem take_getD {α : Type} {l : List (List α)} {k : Nat} {x : α} (h : x ∈ (l.take k).flatten) : ∃ j, j < k ∧ x ∈ l.getD j [] := by
  obtain ⟨c, hc, hx⟩ := List.mem_flatten.1 h
  obtain ⟨j, hj, rfl⟩ := List.mem_iff_getElem.1 hc
  rw [List.length_take] at hj
  rw [List.getElem_take] at hx
  refine ⟨j, by omega, ?_⟩
  have : j < l.length := by omega
  simpa [this] using hx

section
variable {ids : List Int} {succ : Int → List Int} {M : List (List Int)} (hs : SccOk ids succ M)
include hs

theorem SccOk.down {x z : Int} {i : Nat} (hi : i < M.length) (hx : x ∈ M.getD i []) (r : Reach succ x z) : ∃ j, j ≤ i ∧ z ∈ M.getD j [] := by
  induction r with
  | refl => exact ⟨i, Nat.le_refl _, hx⟩
  | step _ h ih =>
    obtain ⟨j, hj, hy⟩ := ih
    obtain ⟨q, hq, hz⟩ := take_getD (hs.closed j (by omega) _ hy _ h)
    exact ⟨q, by omega, hz⟩

theorem SccOk.both {x y : Int} {i : Nat} (hi : i < M.length) (hx : x ∈ M.getD i []) (r1 : Reach succ x y) (r2 : Reach succ y x) : y ∈ M.getD i [] := by
  obtain ⟨j, hj, hy⟩ := hs.down hi hx r1
  obtain ⟨q, hq, hx2⟩ := hs.down (by omega) hy r2
  have : q = i := flat_apart hs.nd hx2 hx
  have : j = i := by omega
  exact this ▸ hy

theorem SccOk.comp {x : Int} (hx : x ∈ ids) : ∃ i, i < M.length ∧ x ∈ M.getD i [] := flat_getD ((hs.mem x).2 hx)
end

theorem getD_mem {l : List (List Int)} {i : Nat} (hi : i < l.length) : l.getD i [] ∈ l := by
  have e : l.getD i [] = l[i] := by simp [hi]
  rw [e]; exact List.getElem_mem hi

theorem Reach.trans {succ : Int → List Int} {x y z : Int} (h : Reach succ x y) (k : Reach succ y z) : Reach succ x z := by
  induction k with
  | refl => exact h
  | step _ h' ih => exact .step ih h'

theorem cyc_filter (M : List (List Int)) : (cycL M M.length).reverse = ((M.map asc).reverse).filter fun c => decide (c.length ≠ 1) := by
  have h : ∀ k, k ≤ M.length → cycL M k = ((M.take k).map asc).filter fun c => decide (c.length ≠ 1) := by
    intro k
    induction k with
    | zero => intro _; simp [cycL]
    | succ k ih =>
      intro hk
      have hk' : k < M.length := by omega
      rw [List.take_succ_eq_append_getElem hk', List.map_append, List.filter_append, ← ih (by omega)]
      have e : M.getD k [] = M[k] := by simp [hk']
      have e3 : cycL M (k + 1) = if (M.getD k []).length = 1 then cycL M k else cycL M k ++ [asc (M.getD k [])] := rfl
      rw [e3, e]
      by_cases h1 : M[k].length = 1
      · rw [if_pos h1]
        simp [asc_length, h1]
      · rw [if_neg h1]
        simp [asc_length, h1]
  rw [h M.length (Nat.le_refl _), List.take_length, List.filter_reverse]

theorem heads_nodup {l : List (List Int)} (hnd : l.flatten.Nodup) (hne : ∀ c ∈ l, c ≠ []) : (l.map fun c => c.headD 0).Nodup := by
  induction l with
  | nil => simp
  | cons c l ih =>
    rw [List.flatten_cons, List.nodup_append] at hnd
    rw [List.map_cons, List.nodup_cons]
    refine ⟨fun hm => ?_, ih hnd.2.1 fun d hd => hne d (List.mem_cons_of_mem _ hd)⟩
    obtain ⟨d, hd, e⟩ := List.mem_map.1 hm
    have hc := hne c List.mem_cons_self
    have hd' := hne d (List.mem_cons_of_mem _ hd)
    match c, hc, d, hd', hd, e with
    | a :: c, _, b :: d, _, hd, e =>
      have e' : b = a := e
      subst e'
      exact hnd.2.2 b List.mem_cons_self b (List.mem_flatten.2 ⟨_, hd, List.mem_cons_self⟩) rfl

/-- The table of a graph tells what can be come to. -/
theorem reach_iff {g : Gr} (hok : okGraph g = true) {u v : Nat} (hu : u < (asc g.nodes).length) (hv : v < (asc g.nodes).length) :
    atB (reachP (asc g.nodes).length (tableP (asc g.nodes) g.dir g.edges).1) u v = true ↔ Reach (gSucc g) ((asc g.nodes).getD u 0) ((asc g.nodes).getD v 0) := by
  have ht := graph_table hok
  have hmem : ∀ {k : Nat}, k < (asc g.nodes).length → (asc g.nodes).getD k 0 ∈ g.nodes := fun {k} hk => by
    have e : (asc g.nodes).getD k 0 = (asc g.nodes)[k] := by simp [hk]
    rw [e]; exact asc_mem.1 (List.getElem_mem hk)
  have harc : ∀ {a b : Nat}, a < (asc g.nodes).length → b < (asc g.nodes).length → (atB (tableP (asc g.nodes) g.dir g.edges).1 a b = true ↔ (asc g.nodes).getD b 0 ∈ gSucc g ((asc g.nodes).getD a 0)) := fun {a b} ha hb => by
    rw [gSucc_mem hok (hmem ha), ht.at_ a b ha hb]
    have ea : (asc g.nodes).getD a 0 = (asc g.nodes)[a] := by simp [ha]
    have eb : (asc g.nodes).getD b 0 = (asc g.nodes)[b] := by simp [hb]
    rw [ea, eb]
    constructor
    · intro h; exact ⟨asc_mem.1 (List.getElem_mem hb), h⟩
    · intro h; exact h.2
  refine reachP_iff ht.s1 (fun a b => Reach (gSucc g) ((asc g.nodes).getD a 0) ((asc g.nodes).getD b 0)) (fun a => .refl) (fun a b c h k => h.trans k) (fun a b ha hb h => .step .refl ((harc ha hb).1 h)) (fun Q hr hst a b ha hb r => ?_) hu hv
  have key : ∀ z, Reach (gSucc g) ((asc g.nodes).getD a 0) z → z ∈ g.nodes ∧ ∀ c, c < (asc g.nodes).length → (asc g.nodes).getD c 0 = z → Q a c := by
    intro z r
    induction r with
    | refl =>
      refine ⟨hmem ha, fun c hc e => ?_⟩
      have hnd : (asc g.nodes).Nodup := by
        unfold okGraph at hok
        rw [Bool.and_eq_true] at hok
        exact (asc_perm g.nodes).nodup_iff.2 (of_decide_eq_true hok.1)
      have e1 : (asc g.nodes).getD a 0 = (asc g.nodes)[a] := by simp [ha]
      have e2 : (asc g.nodes).getD c 0 = (asc g.nodes)[c] := by simp [hc]
      rw [e1, e2] at e
      have : c = a := (List.getElem_inj hnd).1 e
      subst this
      exact hr _ ha
    | step _ h ih =>
      obtain ⟨hy, hQ⟩ := ih
      have hz := (gSucc_mem hok hy).1 h
      refine ⟨hz.1, fun c hc e => ?_⟩
      obtain ⟨b', hb', e'⟩ := List.mem_iff_getElem.1 (asc_mem.2 hy)
      have e2 : (asc g.nodes).getD b' 0 = _ := (show (asc g.nodes).getD b' 0 = (asc g.nodes)[b'] by simp [hb']).trans e'
      refine hst a b' c ha hb' hc (hQ b' hb' e2) ((harc hb' hc).2 ?_)
      rw [e, e2]; exact h
  exact (key _ r).2 b hb rfl

/-- The class of a node is its component. -/
theorem cls_comp {g : Gr} (hok : okGraph g = true) {u : Nat} {d : List Int} (hu : u < (asc g.nodes).length) (hd : d ∈ gComps g) (hud : (asc g.nodes).getD u 0 ∈ d) :
    cls (reachP (asc g.nodes).length (tableP (asc g.nodes) g.dir g.edges).1) (asc g.nodes) u = asc d := by
  have hs : SccOk (asc g.nodes) (gSucc g) (gComps g) := sccs_ok fun x hx y hy => asc_mem.2 ((gSucc_mem hok (asc_mem.1 hx)).1 hy).1
  have hup : (asc g.nodes).Pairwise (· < ·) := asc_incr (by
    unfold okGraph at hok
    rw [Bool.and_eq_true] at hok
    exact of_decide_eq_true hok.1)
  obtain ⟨i, hi, rfl⟩ := List.mem_iff_getElem.1 hd
  have hgd : (gComps g).getD i [] = (gComps g)[i] := by simp [hi]
  have hlt : (cls (reachP (asc g.nodes).length (tableP (asc g.nodes) g.dir g.edges).1) (asc g.nodes) u).Pairwise (· < ·) := by
    unfold cls clsTo
    rw [List.pairwise_map]
    refine List.Pairwise.imp_of_mem (R := (· < ·)) (fun {a b} ha hb hab => ?_) (List.Pairwise.filter _ List.pairwise_lt_range)
    have ha' := List.mem_range.1 (List.mem_filter.1 ha).1
    have hb' := List.mem_range.1 (List.mem_filter.1 hb).1
    have e1 : (asc g.nodes).getD a 0 = (asc g.nodes)[a] := by simp [ha']
    have e2 : (asc g.nodes).getD b 0 = (asc g.nodes)[b] := by simp [hb']
    rw [e1, e2]
    exact List.pairwise_iff_getElem.1 hup a b ha' hb' hab
  have hnd2 : (gComps g)[i].Nodup := nodup_of_flat hs.nd (List.getElem_mem hi)
  refine asc_unique (nodup_perm (hlt.imp fun h => by omega) hnd2 fun x => ?_) (hlt.imp fun h => by omega)
  unfold cls clsTo
  rw [List.mem_map]
  constructor
  · rintro ⟨v, hv, rfl⟩
    obtain ⟨hv1, hv2⟩ := List.mem_filter.1 hv
    have hvn := List.mem_range.1 hv1
    rw [Bool.and_eq_true, reach_iff hok hu hvn, reach_iff hok hvn hu] at hv2
    rw [← hgd]
    exact hs.both hi (by rw [hgd]; exact hud) hv2.1 hv2.2
  · intro hx
    have hxi : x ∈ asc g.nodes := (hs.mem x).1 (List.mem_flatten.2 ⟨_, List.getElem_mem hi, hx⟩)
    obtain ⟨v, hv, e⟩ := List.mem_iff_getElem.1 hxi
    have e2 : (asc g.nodes).getD v 0 = x := (show (asc g.nodes).getD v 0 = (asc g.nodes)[v] by simp [hv]).trans e
    refine ⟨v, List.mem_filter.2 ⟨List.mem_range.2 hv, ?_⟩, e2⟩
    rw [Bool.and_eq_true, reach_iff hok hu hv, reach_iff hok hv hu, e2]
    exact ⟨hs.strong _ (List.getElem_mem hi) _ hud _ hx, hs.strong _ (List.getElem_mem hi) _ hx _ hud⟩

/-- The parts in the order of Sort's places. -/
def parP (g : Gr) : List (List Int) := ((gComps g).map asc).reverse
/-- The cyclic ones, as Sort tells them. -/
def cycP (g : Gr) : List (List Int) := (cycL (gComps g) (gComps g).length).reverse
def headsP (g : Gr) : List Int := (cycP g).map fun c => c.headD 0

theorem heads_ok {g : Gr} (hok : okGraph g = true) : (headsP g).Nodup ∧ ∀ c ∈ cycP g, ∃ d ∈ gComps g, d.length ≠ 1 ∧ c = asc d ∧ c ≠ [] := by
  have hs : SccOk (asc g.nodes) (gSucc g) (gComps g) := sccs_ok fun x hx y hy => asc_mem.2 ((gSucc_mem hok (asc_mem.1 hx)).1 hy).1
  have hne : ∀ c ∈ (gComps g).map asc, c ≠ [] := fun c hc => by
    obtain ⟨d, hd, rfl⟩ := List.mem_map.1 hc
    intro e
    have := hs.ne d hd
    have h0 : (asc d).length = 0 := by rw [e]; rfl
    rw [asc_length] at h0
    exact this (List.eq_nil_of_length_eq_zero h0)
  have hnd : ((gComps g).map asc).flatten.Nodup := ((flatten_asc (gComps g)).nodup_iff.2 hs.nd)
  constructor
  · have h1 := heads_nodup hnd hne
    have h2 : (((gComps g).map asc).reverse.map fun c => c.headD 0).Nodup := by
      rw [List.map_reverse]
      exact (List.reverse_perm _).nodup_iff.2 h1
    unfold headsP cycP
    rw [cyc_filter]
    exact h2.sublist (List.Sublist.map _ List.filter_sublist)
  · intro c hc
    unfold cycP at hc
    rw [cyc_filter] at hc
    obtain ⟨h1, h2⟩ := List.mem_filter.1 hc
    have h3 := List.mem_reverse.1 h1
    obtain ⟨d, hd, rfl⟩ := List.mem_map.1 h3
    have h4 := of_decide_eq_true h2
    rw [asc_length] at h4
    exact ⟨d, hd, h4, rfl, hne _ h3⟩

theorem head_mem {c : List Int} (h : c ≠ []) : c.headD 0 ∈ c := by
  match c, h with
  | a :: t, _ => exact List.mem_cons_self

/-- What cyclicOf wants is what Sort tells, in the order of the least nodes. -/
theorem want_ok {g : Gr} (hok : okGraph g = true) : ∃ fc : Int → List Int, cycP g = (headsP g).map fc ∧ (∀ x ∈ headsP g, ∃ t, fc x = x :: t) ∧ cycG g = (asc (headsP g)).map fc := by
  have hs : SccOk (asc g.nodes) (gSucc g) (gComps g) := sccs_ok fun x hx y hy => asc_mem.2 ((gSucc_mem hok (asc_mem.1 hx)).1 hy).1
  have hup : (asc g.nodes).Pairwise (· < ·) := asc_incr (by
    unfold okGraph at hok
    rw [Bool.and_eq_true] at hok
    exact of_decide_eq_true hok.1)
  obtain ⟨hnd, hC⟩ := heads_ok hok
  have hat : ∀ {i : Nat} (hi : i < (cycP g).length), (headsP g).idxOf ((cycP g)[i].headD 0) = i := fun {i} hi => by
    have hi' : i < (headsP g).length := by unfold headsP; rw [List.length_map]; exact hi
    have e : (cycP g)[i].headD 0 = (headsP g)[i] := (List.getElem_map (l := cycP g) (fun c : List Int => c.headD 0) (h := by rw [List.length_map]; exact hi)).symm
    rw [e]
    have hlt := List.idxOf_lt_length_of_mem (List.getElem_mem hi')
    exact (List.getElem_inj hnd).1 (List.getElem_idxOf hlt)
  have hfc : ∀ c ∈ cycP g, (cycP g).getD ((headsP g).idxOf (c.headD 0)) [] = c := fun c hc => by
    obtain ⟨i, hi, rfl⟩ := List.mem_iff_getElem.1 hc
    rw [hat hi]
    simp [hi]
  refine ⟨fun x => (cycP g).getD ((headsP g).idxOf x) [], ?_, fun x hx => ?_, ?_⟩
  · unfold headsP
    rw [List.map_map]
    refine (List.map_id _).symm.trans (List.map_congr_left fun c hc => ?_)
    exact (hfc c hc).symm
  · obtain ⟨c, hc, rfl⟩ := List.mem_map.1 hx
    have := hfc c hc
    simp only [this]
    obtain ⟨_, _, _, _, hne⟩ := hC c hc
    match c, hne with
    | a :: t, _ => exact ⟨t, rfl⟩
  · -- the places of the least nodes
    obtain ⟨R, hR⟩ : ∃ R, R = reachP (asc g.nodes).length (tableP (asc g.nodes) g.dir g.edges).1 := ⟨_, rfl⟩
    obtain ⟨U, hU⟩ : ∃ U, U = (List.range (asc g.nodes).length).filter fun u => decide (1 < (cls R (asc g.nodes) u).length) && decide ((cls R (asc g.nodes) u).headD 0 = (asc g.nodes).getD u 0) := ⟨_, rfl⟩
    have hcyc : cycG g = U.map fun u => cls R (asc g.nodes) u := by rw [hU, hR]; rfl
    have hget : ∀ {u : Nat} (hu : u < (asc g.nodes).length), (asc g.nodes).getD u 0 = (asc g.nodes)[u] := fun {u} hu => by simp [hu]
    have hUm : ∀ u, u ∈ U ↔ u < (asc g.nodes).length ∧ 1 < (cls R (asc g.nodes) u).length ∧ (cls R (asc g.nodes) u).headD 0 = (asc g.nodes).getD u 0 := fun u => by
      rw [hU, List.mem_filter, List.mem_range, Bool.and_eq_true, decide_eq_true_iff, decide_eq_true_iff]
    have hin : ∀ u ∈ U, cls R (asc g.nodes) u ∈ cycP g := fun u hu => by
      obtain ⟨h1, h2, h3⟩ := (hUm u).1 hu
      obtain ⟨i, hi, hx⟩ := hs.comp (show (asc g.nodes).getD u 0 ∈ asc g.nodes by rw [hget h1]; exact List.getElem_mem h1)
      have hcl : cls R (asc g.nodes) u = asc ((gComps g).getD i []) := by rw [hR]; exact cls_comp hok h1 (getD_mem hi) hx
      rw [hcl] at h2 ⊢
      unfold cycP
      rw [cyc_filter]
      exact List.mem_filter.2 ⟨List.mem_reverse.2 (List.mem_map.2 ⟨_, getD_mem hi, rfl⟩), decide_eq_true (by omega)⟩
    have hlt : (U.map fun u => (asc g.nodes).getD u 0).Pairwise (· < ·) := by
      rw [List.pairwise_map, hU]
      refine List.Pairwise.imp_of_mem (R := (· < ·)) (fun {a b} ha hb hab => ?_) (List.Pairwise.filter _ List.pairwise_lt_range)
      have ha' := List.mem_range.1 (List.mem_filter.1 ha).1
      have hb' := List.mem_range.1 (List.mem_filter.1 hb).1
      rw [hget ha', hget hb']
      exact List.pairwise_iff_getElem.1 hup a b ha' hb' hab
    have hperm : (U.map fun u => (asc g.nodes).getD u 0).Perm (headsP g) := by
      refine nodup_perm (hlt.imp fun h => by omega) hnd fun x => ?_
      rw [List.mem_map]
      constructor
      · rintro ⟨u, hu, rfl⟩
        obtain ⟨h1, h2, h3⟩ := (hUm u).1 hu
        rw [← h3]
        exact List.mem_map.2 ⟨_, hin u hu, rfl⟩
      · intro hx
        obtain ⟨c, hc, rfl⟩ := List.mem_map.1 hx
        obtain ⟨d, hd, hdl, rfl, hne⟩ := hC c hc
        have hhm : (asc d).headD 0 ∈ d := asc_mem.1 (head_mem hne)
        have hxi := (hs.mem _).1 (List.mem_flatten.2 ⟨d, hd, hhm⟩)
        obtain ⟨u, hu, e⟩ := List.mem_iff_getElem.1 hxi
        have e2 := (hget hu).trans e
        have hcl : cls R (asc g.nodes) u = asc d := by rw [hR]; exact cls_comp hok hu hd (by rw [e2]; exact hhm)
        refine ⟨u, (hUm u).2 ⟨hu, ?_, ?_⟩, e2⟩
        · rw [hcl, asc_length]
          have h0 : d.length ≠ 0 := fun e0 => hs.ne d hd (List.eq_nil_of_length_eq_zero e0)
          omega
        · rw [hcl, e2]
    rw [hcyc, ← asc_unique hperm (hlt.imp fun h => by omega), List.map_map]
    refine List.map_congr_left fun u hu => ?_
    have h1 := hfc _ (hin u hu)
    obtain ⟨_, _, h3⟩ := (hUm u).1 hu
    rw [h3] at h1
    exact h1.symm
end Go.Proofs.YtagnmdhdogaijaaGreat
