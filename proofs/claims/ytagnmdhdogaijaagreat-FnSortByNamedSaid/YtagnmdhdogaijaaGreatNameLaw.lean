/- FnSortByNamed: the plain law: Tarjan's algorithm on nodes that are called by their places. -/
import Derived.Test.YtagnmdhdogaijaaGreatSortSt
import Derived.Test.YtagnmdhdogaijaaGreatByBad1
import Derived.Test.YtagnmdhdogaijaaGreatCondLaw
namespace Go.Proofs.YtagnmdhdogaijaaGreat

section
variable {ρ : Int → Int} {ids : List Int} {succ succ' : Int → List Int}

/-- Two states that differ by the names alone. -/
structure Ren (ρ : Int → Int) (ids : List Int) (s t : TS) : Prop where
  n : t.n = s.n
  idx : ∀ x ∈ ids, t.idx (ρ x) = s.idx x
  low : ∀ x ∈ ids, t.low (ρ x) = s.low x
  stack : t.stack = s.stack.map ρ
  sccs : t.sccs = s.sccs.map (List.map ρ)
  sub : ∀ x ∈ s.stack, x ∈ ids

theorem upd_ren (hinj : ∀ x ∈ ids, ∀ y ∈ ids, ρ x = ρ y → x = y) {f f' : Int → Nat} {v : Int} {m : Nat} (hv : v ∈ ids) (h : ∀ x ∈ ids, f' (ρ x) = f x) : ∀ x ∈ ids, upd f' (ρ v) m (ρ x) = upd f v m x := fun x hx => by
  by_cases e : x = v
  · subst e; rw [upd_self, upd_self]
  · rw [upd_other _ _ e, upd_other _ _ (fun e' => e (hinj x hx v hv e')), h x hx]

theorem Ren.push {s t : TS} {v : Int} (hinj : ∀ x ∈ ids, ∀ y ∈ ids, ρ x = ρ y → x = y) (h : Ren ρ ids s t) (hv : v ∈ ids) : Ren ρ ids (s.push v) (t.push (ρ v)) :=
  ⟨by show t.n + 1 = s.n + 1; rw [h.n], fun x hx => by show upd t.idx (ρ v) (t.n + 1) (ρ x) = _; rw [h.n]; exact upd_ren hinj hv h.idx x hx,
    fun x hx => by show upd t.low (ρ v) (t.n + 1) (ρ x) = _; rw [h.n]; exact upd_ren hinj hv h.low x hx, by show ρ v :: t.stack = _; rw [h.stack]; rfl, h.sccs, fun x hx => by
      rcases List.mem_cons.1 hx with e | e
      · exact e ▸ hv
      · exact h.sub x e⟩

theorem Ren.setLow {s t : TS} {v : Int} {m : Nat} (hinj : ∀ x ∈ ids, ∀ y ∈ ids, ρ x = ρ y → x = y) (h : Ren ρ ids s t) (hv : v ∈ ids) : Ren ρ ids (s.setLow v m) (t.setLow (ρ v) m) :=
  ⟨h.n, h.idx, upd_ren hinj hv h.low, h.stack, h.sccs, h.sub⟩

theorem cutAt_ren (hinj : ∀ x ∈ ids, ∀ y ∈ ids, ρ x = ρ y → x = y) {v : Int} (hv : v ∈ ids) : ∀ S : List Int, (∀ x ∈ S, x ∈ ids) → cutAt (ρ v) (S.map ρ) = ((cutAt v S).1.map ρ, (cutAt v S).2.map ρ)
  | [], _ => rfl
  | a :: S, hS => by
    have ih := cutAt_ren hinj hv S fun x hx => hS x (List.mem_cons_of_mem _ hx)
    rw [List.map_cons]
    unfold cutAt
    by_cases e : a = v
    · subst e; rw [if_pos rfl, if_pos rfl]; rfl
    · rw [if_neg e, if_neg (fun e' => e (hinj a (hS a List.mem_cons_self) v hv e')), ih]; rfl

theorem cutAt_sub {v : Int} : ∀ S : List Int, ∀ x ∈ (cutAt v S).2, x ∈ S
  | [], x, hx => by cases hx
  | a :: S, x, hx => by
    unfold cutAt at hx
    split at hx
    · exact List.mem_cons_of_mem _ hx
    · exact List.mem_cons_of_mem _ (cutAt_sub S x hx)

theorem Ren.fin {s t : TS} {v : Int} (hinj : ∀ x ∈ ids, ∀ y ∈ ids, ρ x = ρ y → x = y) (h : Ren ρ ids s t) (hv : v ∈ ids) : Ren ρ ids (s.fin v) (t.fin (ρ v)) := by
  unfold TS.fin
  rw [h.idx v hv, h.low v hv]
  by_cases e : s.low v = s.idx v
  · rw [if_pos e, if_pos e, h.stack, cutAt_ren hinj hv _ h.sub]
    exact ⟨h.n, h.idx, h.low, rfl, by show t.sccs ++ _ = List.map _ (s.sccs ++ _); rw [h.sccs, List.map_append]; rfl, fun x hx => h.sub x (cutAt_sub _ x hx)⟩
  · rw [if_neg e, if_neg e]; exact h

theorem mem_ren (hinj : ∀ x ∈ ids, ∀ y ∈ ids, ρ x = ρ y → x = y) {v : Int} (hv : v ∈ ids) {S : List Int} (hS : ∀ x ∈ S, x ∈ ids) : ρ v ∈ S.map ρ ↔ v ∈ S := by
  rw [List.mem_map]
  exact ⟨fun ⟨x, hx, e⟩ => hinj x (hS x hx) v hv e ▸ hx, fun h => ⟨v, h, rfl⟩⟩

theorem ren_sc (hinj : ∀ x ∈ ids, ∀ y ∈ ids, ρ x = ρ y → x = y) (hs : ∀ x ∈ ids, succ' (ρ x) = (succ x).map ρ) (hsub : ∀ x ∈ ids, ∀ y ∈ succ x, y ∈ ids) :
    ∀ (f : Nat) (s t : TS) (v : Int), v ∈ ids → Ren ρ ids s t → Ren ρ ids (sc succ f s v) (sc succ' f t (ρ v))
  | 0, _, _, _, _, h => h
  | f + 1, s, t, v, hv, h => by
    rw [sc_succ, sc_succ, hs v hv, List.foldl_map]
    refine Ren.fin hinj ?_ hv
    have ih := ren_sc hinj hs hsub f
    have hall : ∀ y ∈ succ v, y ∈ ids := hsub v hv
    generalize succ v = l at hall
    have h0 := h.push hinj hv
    generalize s.push v = s1 at h0
    generalize t.push (ρ v) = t1 at h0
    induction l generalizing s1 t1 with
    | nil => exact h0
    | cons y l ihl =>
      rw [List.foldl_cons, List.foldl_cons]
      refine ihl (fun z hz => hall z (List.mem_cons_of_mem _ hz)) _ _ ?_
      have hy := hall y List.mem_cons_self
      unfold scStep
      rw [h0.idx y hy]
      by_cases e : s1.idx y = 0
      · rw [if_pos e, if_pos e]
        have hr := ih s1 t1 y hy h0
        rw [hr.low v hv, hr.low y hy]
        exact hr.setLow hinj hv
      · rw [if_neg e, if_neg e, h0.stack]
        by_cases hm : y ∈ s1.stack
        · rw [if_pos hm, if_pos ((mem_ren hinj hy h0.sub).2 hm), h0.low v hv]
          exact h0.setLow hinj hv
        · rw [if_neg hm, if_neg fun h' => hm ((mem_ren hinj hy h0.sub).1 h')]
          exact h0

theorem ren_all (hinj : ∀ x ∈ ids, ∀ y ∈ ids, ρ x = ρ y → x = y) (hs : ∀ x ∈ ids, succ' (ρ x) = (succ x).map ρ) (hsub : ∀ x ∈ ids, ∀ y ∈ succ x, y ∈ ids) (f : Nat) :
    ∀ (l : List Int) (s t : TS), (∀ x ∈ l, x ∈ ids) → Ren ρ ids s t → Ren ρ ids (tAll succ f l s) (tAll succ' f (l.map ρ) t)
  | [], _, _, _, h => h
  | v :: l, s, t, hl, h => by
    have hv := hl v List.mem_cons_self
    refine ren_all hinj hs hsub f l _ _ (fun x hx => hl x (List.mem_cons_of_mem _ hx)) ?_
    show Ren ρ ids (if s.idx v = 0 then sc succ f s v else s) (if t.idx (ρ v) = 0 then sc succ' f t (ρ v) else t)
    rw [h.idx v hv]
    by_cases e : s.idx v = 0
    · rw [if_pos e, if_pos e]; exact ren_sc hinj hs hsub f s t v hv h
    · rw [if_neg e, if_neg e]; exact h

theorem ren_sccs (hinj : ∀ x ∈ ids, ∀ y ∈ ids, ρ x = ρ y → x = y) (hs : ∀ x ∈ ids, succ' (ρ x) = (succ x).map ρ) (hsub : ∀ x ∈ ids, ∀ y ∈ succ x, y ∈ ids) :
    sccsOf succ' (ids.map ρ) = (sccsOf succ ids).map (List.map ρ) := by
  unfold sccsOf
  rw [List.length_map]
  exact (ren_all hinj hs hsub ids.length ids tStart tStart (fun _ h => h) ⟨rfl, fun _ _ => rfl, fun _ _ => rfl, rfl, rfl, fun x hx => by cases hx⟩).sccs
end

/-- The place k of an order, as a name. -/
def nameAt (pl : List Int) (k : Int) : Int := pl.getD k.toNat 0
/-- The graph whose nodes are called by their places. -/
def namG (pl : List Int) (es : List (Int × Int × Int)) : Gr := ⟨true, condNodes pl.length, es.map fun e => (idxI pl e.1, idxI pl e.2.1, 0)⟩

theorem name_idx {pl : List Int} {x : Int} (hx : x ∈ pl) : nameAt pl (idxI pl x) = x := by
  unfold nameAt idxI
  rw [if_pos hx]
  have hlt := List.idxOf_lt_length_of_mem hx
  have e := List.getElem_idxOf hlt
  simp [hlt]
theorem idx_node {pl : List Int} {x : Int} (hx : x ∈ pl) : idxI pl x ∈ condNodes pl.length := by
  unfold idxI
  rw [if_pos hx]
  exact condNodes_mem.2 ⟨_, List.idxOf_lt_length_of_mem hx, rfl⟩
theorem name_mem {pl : List Int} {k : Int} (hk : k ∈ condNodes pl.length) : nameAt pl k ∈ pl := by
  obtain ⟨j, hj, rfl⟩ := condNodes_mem.1 hk
  unfold nameAt
  simp [hj]
theorem idx_name {pl : List Int} (hnd : pl.Nodup) {k : Int} (hk : k ∈ condNodes pl.length) : idxI pl (nameAt pl k) = k := by
  obtain ⟨j, hj, rfl⟩ := condNodes_mem.1 hk
  have e : nameAt pl (j : Int) = pl[j] := by unfold nameAt; simp [hj]
  rw [e]
  unfold idxI
  rw [if_pos (List.getElem_mem hj), hnd.idxOf_getElem]
theorem name_inj {pl : List Int} (hnd : pl.Nodup) : ∀ x ∈ condNodes pl.length, ∀ y ∈ condNodes pl.length, nameAt pl x = nameAt pl y → x = y := fun x hx y hy e => by
  rw [← idx_name hnd hx, e, idx_name hnd hy]

theorem condNodes_up (n : Nat) : (condNodes n).Pairwise (· < ·) := by
  unfold condNodes
  rw [List.pairwise_map]
  exact List.pairwise_lt_range.imp fun h => by omega
theorem condNodes_asc (n : Nat) : asc (condNodes n) = condNodes n := (asc_unique (List.Perm.refl _) ((condNodes_up n).imp fun h => by omega)).symm
theorem condNodes_name {pl : List Int} : (condNodes pl.length).map (nameAt pl) = pl := by
  apply List.ext_getElem
  · rw [List.length_map, condNodes_length]
  · intro j h1 h2
    rw [List.getElem_map]
    have : (condNodes pl.length)[j]'(by simpa using h1) = (j : Int) := by unfold condNodes; simp
    rw [this]
    unfold nameAt
    simp [h2]

/-- What the law knows of the order. -/
structure PlOk (g : Gr) (pl : List Int) : Prop where
  ok : okGraph g = true
  dir : g.dir = true
  perm : pl.Perm g.nodes

section
variable {g : Gr} {pl : List Int} (h : PlOk g pl)
include h

theorem PlOk.nd : pl.Nodup := h.perm.nodup_iff.2 (by have := h.ok; unfold okGraph at this; rw [Bool.and_eq_true] at this; exact of_decide_eq_true this.1)
theorem PlOk.mem {x : Int} : x ∈ pl ↔ x ∈ g.nodes := h.perm.mem_iff
theorem PlOk.edge {e : Int × Int × Int} (he : e ∈ g.edges) : e.1 ≠ e.2.1 ∧ e.1 ∈ pl ∧ e.2.1 ∈ pl := by
  have hok := h.ok
  unfold okGraph at hok
  rw [Bool.and_eq_true, List.all_eq_true] at hok
  have := of_decide_eq_true (hok.2 e he)
  exact ⟨this.1, h.mem.2 this.2.1, h.mem.2 this.2.2.1⟩
theorem PlOk.good : goodBy g pl = true := by
  unfold goodBy
  rw [h.ok, h.dir, decide_eq_true h.nd, decide_eq_true h.perm.length_eq]
  rw [Bool.true_and, Bool.true_and, Bool.true_and, List.all_eq_true]
  exact fun z hz => decide_eq_true (h.mem.1 hz)

theorem nam_ok : okGraph (namG pl g.edges) = true := by
  unfold okGraph
  rw [Bool.and_eq_true, List.all_eq_true]
  refine ⟨decide_eq_true (condNodes_nodup _), fun e he => ?_⟩
  obtain ⟨d, hd, rfl⟩ := List.mem_map.1 he
  obtain ⟨h1, h2, h3⟩ := h.edge hd
  exact decide_eq_true ⟨fun e => h1 (idxI_inj h2 h3 e), idx_node h2, idx_node h3, by simp, by simp⟩

theorem nam_arc {a b : Int} (ha : a ∈ condNodes pl.length) (hb : b ∈ condNodes pl.length) : arcB (namG pl g.edges) a b = arcB g (nameAt pl a) (nameAt pl b) := by
  rw [Bool.eq_iff_iff]
  unfold arcB
  rw [List.any_eq_true, List.any_eq_true]
  constructor
  · rintro ⟨e, he, hh⟩
    obtain ⟨d, hd, rfl⟩ := List.mem_map.1 he
    obtain ⟨_, h2, h3⟩ := h.edge hd
    refine ⟨d, hd, decide_eq_true ?_⟩
    rcases of_decide_eq_true hh with ⟨e1, e2⟩ | ⟨e0, _⟩
    · simp only at e1 e2
      exact .inl ⟨by rw [← e1, name_idx h2], by rw [← e2, name_idx h3]⟩
    · cases e0
  · rintro ⟨d, hd, hh⟩
    refine ⟨_, List.mem_map.2 ⟨d, hd, rfl⟩, decide_eq_true ?_⟩
    rcases of_decide_eq_true hh with ⟨e1, e2⟩ | ⟨e0, _⟩
    · exact .inl ⟨by show idxI pl d.1 = a; rw [e1, idx_name h.nd ha], by show idxI pl d.2.1 = b; rw [e2, idx_name h.nd hb]⟩
    · rw [h.dir] at e0; cases e0

end

/-- Where the ends of a row's arcs ascend none stands twice. -/
theorem row_nodup {ids : List Int} {outs : List (List Arc)} (hup : ids.Pairwise (· < ·)) (hok : ∀ l ∈ outs, RowOk ids.length l) (x : Int) : (succOf ids outs x).Nodup := by
  unfold succOf endsOf
  have hrow : RowOk ids.length (outs.getD (posOf ids x) []) := by
    rcases Nat.lt_or_ge (posOf ids x) outs.length with hl | hl
    · have hm : outs.getD (posOf ids x) [] ∈ outs := by simp [hl]
      exact hok _ hm
    · rw [List.getD_eq_getElem?_getD, List.getElem?_eq_none hl]; exact RowOk.nil _
  generalize outs.getD (posOf ids x) [] = l at hrow
  show (l.map fun a => ids.getD a.1 0).Pairwise (· ≠ ·)
  rw [List.pairwise_map]
  refine hrow.1.imp_of_mem fun {a b} ha hb hab => ?_
  have h1 := hrow.2 a ha
  have h2 := hrow.2 b hb
  have := List.pairwise_iff_getElem.1 hup a.1 b.1 h1 h2 hab
  simp only [List.getD_eq_getElem?_getD, List.getElem?_eq_getElem h1, List.getElem?_eq_getElem h2, Option.getD_some]
  omega

theorem gSucc_nodup {g : Gr} (hok : okGraph g = true) (x : Int) : (gSucc g x).Nodup := by
  have ht := graph_tabs hok
  unfold okGraph at hok
  rw [Bool.and_eq_true] at hok
  exact row_nodup (asc_incr (of_decide_eq_true hok.1)) ht.r1 x

theorem asc_twice (zs : List Int) : asc (asc zs) = asc zs := (asc_unique (zs := asc zs) (List.Perm.refl _) (asc_sorted zs)).symm

section
variable {g : Gr} {pl : List Int} (h : PlOk g pl)
include h

/-- The successors of a node that is called by its place. -/
theorem nam_succ {k : Int} (hk : k ∈ condNodes pl.length) : srtBy pl (gSucc g (nameAt pl k)) = (asc (gSucc (namG pl g.edges) k)).map (nameAt pl) := by
  have hok' := nam_ok h
  have hmem : ∀ y, y ∈ gSucc (namG pl g.edges) k ↔ y ∈ condNodes pl.length ∧ arcB (namG pl g.edges) k y = true := fun y => gSucc_mem hok' hk
  have hxm : nameAt pl k ∈ g.nodes := h.mem.1 (name_mem hk)
  have hmem2 : ∀ y, y ∈ gSucc g (nameAt pl k) ↔ y ∈ g.nodes ∧ arcB g (nameAt pl k) y = true := fun y => gSucc_mem h.ok hxm
  have hnd1 : (asc (gSucc (namG pl g.edges) k)).Nodup := (asc_perm _).nodup_iff.2 (gSucc_nodup hok' k)
  have hsub : ∀ y ∈ asc (gSucc (namG pl g.edges) k), y ∈ condNodes pl.length := fun y hy => ((hmem y).1 (asc_mem.1 hy)).1
  refine srtBy_unique ((List.perm_ext_iff_of_nodup ?_ (gSucc_nodup h.ok _)).2 fun z => ?_) ?_ (fun z hz => h.mem.2 ((hmem2 z).1 hz).1)
  · show List.Pairwise (· ≠ ·) _
    rw [List.pairwise_map]
    exact hnd1.imp_of_mem fun {a b} ha hb hne e => hne (name_inj h.nd a (hsub a ha) b (hsub b hb) e)
  · rw [List.mem_map, hmem2]
    constructor
    · rintro ⟨y, hy, rfl⟩
      obtain ⟨h1, h2⟩ := (hmem y).1 (asc_mem.1 hy)
      exact ⟨h.mem.1 (name_mem h1), by rw [← nam_arc h hk h1]; exact h2⟩
    · rintro ⟨h1, h2⟩
      have hz := h.mem.2 h1
      refine ⟨idxI pl z, asc_mem.2 ((hmem _).2 ⟨idx_node hz, ?_⟩), name_idx hz⟩
      rw [nam_arc h hk (idx_node hz), name_idx hz]; exact h2
  · rw [List.pairwise_map]
    refine (asc_sorted _).imp_of_mem fun {a b} ha hb hab => ?_
    rw [idx_name h.nd (hsub a ha), idx_name h.nd (hsub b hb)]; exact hab

theorem nam_srt : srtBy pl (asc g.nodes) = pl := by
  refine srtBy_unique (h.perm.trans (asc_perm _).symm) ?_ (fun z hz => h.mem.2 (asc_mem.1 hz))
  have h1 : ((condNodes pl.length).map (nameAt pl)).Pairwise fun x y => idxI pl x ≤ idxI pl y := by
    rw [List.pairwise_map]
    refine (condNodes_up _).imp_of_mem fun {a b} ha hb hab => ?_
    rw [idx_name h.nd ha, idx_name h.nd hb]; omega
  rwa [condNodes_name] at h1

theorem nam_comps : gBy g pl = (stComps (namG pl g.edges)).map (List.map (nameAt pl)) := by
  unfold gBy byComps stComps
  rw [nam_srt h, asc_twice]
  have e1 : asc (namG pl g.edges).nodes = condNodes pl.length := condNodes_asc _
  rw [e1]
  have e2 : pl.reverse = (condNodes pl.length).reverse.map (nameAt pl) := by rw [List.map_reverse, condNodes_name]
  rw [e2]
  refine ren_sccs (fun x hx y hy => name_inj h.nd x (List.mem_reverse.1 hx) y (List.mem_reverse.1 hy)) (fun x hx => ?_) (fun x hx y hy => ?_)
  · have hx' := List.mem_reverse.1 hx
    have h1 := nam_succ h hx'
    unfold succBy succAs
    have e3 : gSucc (namG pl g.edges) x = succOf (condNodes pl.length) (outsOf (namG pl g.edges)) x := by unfold gSucc; rw [e1]
    rw [e3] at h1
    show (srtBy pl (gSucc g (nameAt pl x))).reverse = _
    rw [h1, List.map_reverse]
  · have hx' := List.mem_reverse.1 hx
    unfold succAs at hy
    rw [List.mem_reverse, asc_mem] at hy
    have e3 : gSucc (namG pl g.edges) x = succOf (condNodes pl.length) (outsOf (namG pl g.edges)) x := by unfold gSucc; rw [e1]
    rw [← e3] at hy
    exact List.mem_reverse.2 ((gSucc_mem (nam_ok h) hx').1 hy).1

theorem st_ok : SccOk (condNodes pl.length).reverse (succAs (asc (namG pl g.edges).nodes) (outsOf (namG pl g.edges))) (stComps (namG pl g.edges)) := by
  have e1 : asc (namG pl g.edges).nodes = condNodes pl.length := condNodes_asc _
  unfold stComps
  rw [asc_twice, e1]
  refine sccs_ok fun x hx y hy => ?_
  have hx' := List.mem_reverse.1 hx
  unfold succAs at hy
  rw [List.mem_reverse, asc_mem] at hy
  have e3 : gSucc (namG pl g.edges) x = succOf (condNodes pl.length) (outsOf (namG pl g.edges)) x := by unfold gSucc; rw [e1]
  rw [← e3] at hy
  exact List.mem_reverse.2 ((gSucc_mem (nam_ok h) hx').1 hy).1

theorem st_mem {c : List Int} (hc : c ∈ stComps (namG pl g.edges)) {x : Int} (hx : x ∈ c) : x ∈ condNodes pl.length :=
  List.mem_reverse.1 (((st_ok h).mem x).1 (List.mem_flatten.2 ⟨c, hc, hx⟩))
end

theorem topO_name (pl : List Int) (c : List Int) : topO (c.map (nameAt pl)) = (topO c).map (nameAt pl) := by
  unfold topO
  rw [List.length_map]
  by_cases e : c.length = 1
  · rw [if_pos e, if_pos e]
    match c, e with
    | [a], _ => rfl
  · rw [if_neg e, if_neg e]; rfl

/-- The lists of the components of more than one node are the same, but for names and orders. -/
theorem cyc_name (pl : List Int) (M : List (List Int)) : ∀ k, k ≤ M.length → (cycBy pl (M.map (List.map (nameAt pl))) k).map asc = (cycL M k).map fun d => asc (d.map (nameAt pl))
  | 0, _ => rfl
  | k + 1, hk => by
    have ih := cyc_name pl M k (by omega)
    have e : (M.map (List.map (nameAt pl))).getD k [] = (M.getD k []).map (nameAt pl) := by simp [show k < M.length by omega]
    unfold cycBy cycL
    rw [e, List.length_map]
    by_cases h1 : (M.getD k []).length = 1
    · rw [if_pos h1, if_pos h1]; exact ih
    · rw [if_neg h1, if_neg h1, List.map_append, List.map_append, ih]
      congr 1
      rw [List.map_singleton, List.map_singleton]
      congr 1
      exact asc_unique ((asc_perm _).trans ((srtBy_perm _ _).trans ((asc_perm _).symm.map _))) (asc_sorted _)

/-- What the law compares of the orders. -/
theorem tops_name {g : Gr} {pl : List Int} (h : PlOk g pl) : ((gBy g pl).map topO).reverse = ((stComps (namG pl g.edges)).map topO).reverse.map (Option.map (nameAt pl)) := by
  rw [nam_comps h, List.map_map, List.map_reverse, List.map_map]
  congr 1
  exact List.map_congr_left fun c _ => topO_name pl c
theorem cycs_name {g : Gr} {pl : List Int} (h : PlOk g pl) :
    ((cycBy pl (gBy g pl) (gBy g pl).length).reverse).map asc = ((cycL (stComps (namG pl g.edges)) (stComps (namG pl g.edges)).length).reverse).map fun d => asc (d.map (nameAt pl)) := by
  rw [nam_comps h, List.map_reverse, List.map_reverse, List.length_map, cyc_name pl _ _ (Nat.le_refl _)]
end Go.Proofs.YtagnmdhdogaijaaGreat
