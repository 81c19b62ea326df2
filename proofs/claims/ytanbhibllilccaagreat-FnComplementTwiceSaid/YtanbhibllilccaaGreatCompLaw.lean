/- FnComponentsTold, pure: the classes of what can be come to, told twice. -/
import Derived.Test.YtanbhibllilccaaGreatSpecR
import Derived.Test.YtanbhibllilccaaGreatDfsLaw
import Derived.Test.YtanbhibllilccaaGreatSucc
namespace Go.Proofs.YtanbhibllilccaaGreat

theorem reach_tr {s : Int → List Int} {x y z : Int} (h : Reach s x y) (k : Reach s y z) : Reach s x z := by
  induction k with
  | refl => exact h
  | step _ h' ih => exact .step ih h'

theorem reach_sym {s : Int → List Int} {ids : List Int} (hsym : ∀ x ∈ ids, ∀ y ∈ s x, y ∈ ids ∧ x ∈ s y) {u x : Int} (hu : u ∈ ids) (h : Reach s u x) : x ∈ ids ∧ Reach s x u := by
  induction h with
  | refl => exact ⟨hu, .refl⟩
  | step _ hz ih =>
    obtain ⟨h1, h2⟩ := hsym _ ih.1 _ hz
    exact ⟨h1, reach_tr (.step .refl h2) ih.2⟩

/-- Classes, of which all first k nodes are in one. -/
structure Comps (s : Int → List Int) (ids : List Int) (k : Nat) (C : List (List Int)) : Prop where
  cls : ∀ c ∈ C, ∃ u ∈ ids, ∃ R : List Int, R.Nodup ∧ c = asc R ∧ ∀ x, x ∈ R ↔ Reach s u x
  nd : C.flatten.Nodup
  all : ∀ x ∈ ids.take k, x ∈ C.flatten

theorem Comps.start (s : Int → List Int) (ids : List Int) : Comps s ids 0 [] := ⟨by simp, by simp, by simp⟩

section
variable {s : Int → List Int} {ids : List Int} (hsym : ∀ x ∈ ids, ∀ y ∈ s x, y ∈ ids ∧ x ∈ s y)

theorem Comps.mem {k : Nat} {C : List (List Int)} (h : Comps s ids k C) {c : List Int} (hc : c ∈ C) : ∃ u ∈ ids, c.Nodup ∧ ∀ x, x ∈ c ↔ Reach s u x := by
  obtain ⟨u, hu, R, h1, rfl, h2⟩ := h.cls c hc
  exact ⟨u, hu, (asc_perm R).nodup_iff.2 h1, fun x => asc_mem.trans (h2 x)⟩

include hsym in
theorem Comps.sub {k : Nat} {C : List (List Int)} (h : Comps s ids k C) : ∀ x ∈ C.flatten, x ∈ ids := fun x hx => by
  obtain ⟨c, hc, hxc⟩ := List.mem_flatten.1 hx
  obtain ⟨u, hu, _, h2⟩ := h.mem hc
  exact (reach_sym hsym hu ((h2 x).1 hxc)).1

theorem Comps.skip {k : Nat} {C : List (List Int)} (h : Comps s ids k C) (hk : k < ids.length) (hm : ids[k] ∈ C.flatten) : Comps s ids (k + 1) C :=
  ⟨h.cls, h.nd, fun x hx => by
    rw [List.take_succ_eq_append_getElem hk, List.mem_append, List.mem_singleton] at hx
    rcases hx with hx | rfl
    · exact h.all x hx
    · exact hm⟩

include hsym in
theorem Comps.more {k : Nat} {C : List (List Int)} (h : Comps s ids k C) (hk : k < ids.length) (hm : ids[k] ∉ C.flatten) {R : List Int} (h1 : R.Nodup) (h2 : ∀ x, x ∈ R ↔ Reach s ids[k] x) : Comps s ids (k + 1) (C ++ [asc R]) := by
  have hfl : (C ++ [asc R]).flatten = C.flatten ++ asc R := by simp
  refine ⟨fun c hc => ?_, ?_, fun x hx => ?_⟩
  · rcases List.mem_append.1 hc with hc | hc
    · exact h.cls c hc
    · exact ⟨ids[k], List.getElem_mem hk, R, h1, List.mem_singleton.1 hc, h2⟩
  · rw [hfl, List.nodup_append]
    refine ⟨h.nd, (asc_perm R).nodup_iff.2 h1, fun a ha b hb e => hm ?_⟩
    subst e
    have hr := (h2 a).1 (asc_mem.1 hb)
    obtain ⟨c, hc, hac⟩ := List.mem_flatten.1 ha
    obtain ⟨u, hu, _, h4⟩ := h.mem hc
    exact List.mem_flatten.2 ⟨c, hc, (h4 _).2 (reach_tr ((h4 a).1 hac) (reach_sym hsym (List.getElem_mem hk) hr).2)⟩
  · rw [hfl, List.mem_append]
    rw [List.take_succ_eq_append_getElem hk, List.mem_append, List.mem_singleton] at hx
    rcases hx with hx | rfl
    · exact .inl (h.all x hx)
    · exact .inr (asc_mem.2 ((h2 _).2 .refl))

theorem Comps.ne {k : Nat} {C : List (List Int)} (h : Comps s ids k C) : ∀ c ∈ C, c ≠ [] := fun c hc e => by
  obtain ⟨u, _, _, h2⟩ := h.mem hc
  have := (h2 u).2 .refl
  rw [e] at this
  cases this

include hsym in
/-- Both tell the same classes. -/
theorem Comps.subset {C M : List (List Int)} (h : Comps s ids ids.length C) (h' : Comps s ids ids.length M) {c : List Int} (hc : c ∈ C) : c ∈ M := by
  obtain ⟨u, hu, R, h1, rfl, h2⟩ := h.cls c hc
  obtain ⟨m, hm, hum⟩ := List.mem_flatten.1 (h'.all u (by rw [List.take_length]; exact hu))
  obtain ⟨v, hv, Q, h3, rfl, h4⟩ := h'.cls m hm
  have hvu := (h4 u).1 (asc_mem.1 hum)
  have huv := (reach_sym hsym hv hvu).2
  have : asc R = asc Q := asc_unique ((asc_perm R).trans ((List.perm_ext_iff_of_nodup h1 h3).2 fun x => by
    rw [h2, h4]
    exact ⟨fun hx => reach_tr hvu hx, fun hx => reach_tr huv hx⟩)) (asc_sorted R)
  rw [this]
  exact hm
end

def headsC (C : List (List Int)) : List Int := C.map fun c => c.headD 0
/-- By its least number: the list of numbers, and what stands for it. -/
def byHead {α : Type} (C : List (List Int)) (vs : List α) (d : α) (x : Int) : α := vs.getD ((headsC C).idxOf x) d

theorem headsC_nodup {l : List (List Int)} (hnd : l.flatten.Nodup) (hne : ∀ c ∈ l, c ≠ []) : (headsC l).Nodup := by
  induction l with
  | nil => simp [headsC]
  | cons c l ih =>
    rw [List.flatten_cons, List.nodup_append] at hnd
    unfold headsC
    rw [List.map_cons, List.nodup_cons]
    refine ⟨fun hm => ?_, ih hnd.2.1 fun d hd => hne d (List.mem_cons_of_mem _ hd)⟩
    obtain ⟨d, hd, e⟩ := List.mem_map.1 hm
    have hc := hne c List.mem_cons_self
    have hd' := hne d (List.mem_cons_of_mem _ hd)
    match c, hc, d, hd', hd, e with
    | a :: c, _, b :: d, _, hd, e =>
      have e' : b = a := e
      subst e'
      exact hnd.2.2 b List.mem_cons_self b (List.mem_flatten.2 ⟨_, hd, List.mem_cons_self⟩) rfl

theorem byHead_at {α : Type} {C : List (List Int)} (hnd : (headsC C).Nodup) {vs : List α} {d : α} (hl : vs.length = C.length) {i : Nat} (hi : i < C.length) : byHead C vs d (C[i].headD 0) = vs[i]'(by omega) := by
  have hi' : i < (headsC C).length := by unfold headsC; rw [List.length_map]; exact hi
  have e : C[i].headD 0 = (headsC C)[i] := (List.getElem_map (l := C) (fun c : List Int => c.headD 0) (h := by rw [List.length_map]; exact hi)).symm
  have e2 : (headsC C).idxOf (headsC C)[i] = i := by
    have hlt := List.idxOf_lt_length_of_mem (List.getElem_mem hi')
    exact (List.getElem_inj hnd).1 (List.getElem_idxOf hlt)
  unfold byHead
  rw [e, e2]
  have : i < vs.length := by omega
  simp [this]

theorem byHead_map {α : Type} {C : List (List Int)} (hnd : (headsC C).Nodup) {vs : List α} {d : α} (hl : vs.length = C.length) : (headsC C).map (byHead C vs d) = vs := by
  refine List.ext_getElem (by unfold headsC; simp [hl]) fun i h1 h2 => ?_
  have hi : i < C.length := by omega
  have hi' : i < (headsC C).length := by unfold headsC; rw [List.length_map]; exact hi
  rw [List.getElem_map]
  have e : (headsC C)[i] = C[i].headD 0 := List.getElem_map (l := C) (fun c : List Int => c.headD 0) (h := by rw [List.length_map]; exact hi)
  rw [e]
  exact byHead_at hnd hl hi

theorem byHead_mem {C : List (List Int)} (hnd : (headsC C).Nodup) {c : List Int} (hc : c ∈ C) : byHead C C [] (c.headD 0) = c := by
  obtain ⟨i, hi, rfl⟩ := List.mem_iff_getElem.1 hc
  exact byHead_at hnd rfl hi

/-- The lists in the order of their least numbers. -/
def ordC (C : List (List Int)) : List (List Int) := (asc (headsC C)).map (byHead C C [])

theorem ordC_eq {s : Int → List Int} {ids : List Int} (hsym : ∀ x ∈ ids, ∀ y ∈ s x, y ∈ ids ∧ x ∈ s y) {C M : List (List Int)} (h : Comps s ids ids.length C) (h' : Comps s ids ids.length M) : ordC C = ordC M := by
  have n1 := headsC_nodup h.nd h.ne
  have n2 := headsC_nodup h'.nd h'.ne
  have hp : (headsC C).Perm (headsC M) := (List.perm_ext_iff_of_nodup n1 n2).2 fun x => by
    unfold headsC
    rw [List.mem_map, List.mem_map]
    exact ⟨fun ⟨c, hc, e⟩ => ⟨c, h.subset hsym h' hc, e⟩, fun ⟨c, hc, e⟩ => ⟨c, h'.subset hsym h hc, e⟩⟩
  have ha : asc (headsC C) = asc (headsC M) := asc_unique ((asc_perm _).trans hp) (asc_sorted _)
  unfold ordC
  rw [← ha]
  refine List.map_congr_left fun x hx => ?_
  obtain ⟨c, hc, rfl⟩ := List.mem_map.1 (asc_mem.1 hx)
  rw [byHead_mem n1 hc, byHead_mem n2 (h.subset hsym h' hc)]

/-- Where two ways to tell the next nodes agree, so do the walks through all and the classes. -/
theorem comps_of_all {s t : Int → List Int} {ids : List Int} (_ : ids.Nodup) (hst : ∀ x ∈ ids, ∀ y, y ∈ t x ↔ y ∈ s x) (hsym : ∀ x ∈ ids, ∀ y ∈ t x, y ∈ ids ∧ x ∈ t y) {L : List (List Int)} (h : DAll t ids ids.length L) : Comps s ids ids.length (L.map asc) := by
  have hts : ∀ u ∈ ids, ∀ x, Reach t u x → x ∈ ids ∧ Reach s u x := fun u hu x r => by
    induction r with
    | refl => exact ⟨hu, .refl⟩
    | step _ hy ih => exact ⟨(hsym _ ih.1 _ hy).1, ih.2.step ((hst _ ih.1 _).1 hy)⟩
  have hstr : ∀ u ∈ ids, ∀ x, Reach s u x → x ∈ ids ∧ Reach t u x := fun u hu x r => by
    induction r with
    | refl => exact ⟨hu, .refl⟩
    | step _ hy ih =>
      have h1 := (hst _ ih.1 _).2 hy
      exact ⟨(hsym _ ih.1 _ h1).1, ih.2.step h1⟩
  have hfl : (L.map asc).flatten.Perm L.flatten := by
    clear h
    induction L with
    | nil => simp
    | cons a L ih => rw [List.map_cons, List.flatten_cons, List.flatten_cons]; exact (asc_perm a).append ih
  refine ⟨fun c hc => ?_, hfl.nodup_iff.2 h.nd, fun x hx => hfl.mem_iff.2 (h.all x hx)⟩
  obtain ⟨l, hl, rfl⟩ := List.mem_map.1 hc
  have hw := h.walk l hl
  have hin : l.headD 0 ∈ l := by
    have := hw.ne
    match l, this with
    | a :: l, _ => exact List.mem_cons_self
  have hu : l.headD 0 ∈ ids := h.sub _ (List.mem_flatten.2 ⟨l, hl, hin⟩)
  refine ⟨l.headD 0, hu, l, hw.nd, rfl, fun x => ⟨fun hx => (hts _ hu x (hw.reach x hx)).2, fun hx => ?_⟩⟩
  have hr := (hstr _ hu x hx).2
  clear hx
  induction hr with
  | refl => exact hin
  | step _ hy ih => exact hw.shut _ ih _ hy

/-- Of a graph without directions: what is told as the next nodes by the definition, and by the program. -/
theorem from_succ {g : Gr} (hok : okGraph g = true) : ∀ x ∈ asc g.nodes, ∀ y, y ∈ gSucc g x ↔ y ∈ sFrom g x := fun x hx y => by
  rw [gSucc_mem hok (asc_mem.1 hx)]
  unfold sFrom
  rw [List.mem_filter, asc_mem]

theorem from_sym {g : Gr} (hd : g.dir = false) : ∀ x ∈ asc g.nodes, ∀ y ∈ sFrom g x, y ∈ asc g.nodes ∧ x ∈ sFrom g y := fun x hx y hy => by
  unfold sFrom at hy ⊢
  rw [List.mem_filter] at hy ⊢
  refine ⟨hy.1, hx, ?_⟩
  have h2 := hy.2
  unfold arcB at h2 ⊢
  rw [List.any_eq_true] at h2 ⊢
  obtain ⟨e, he, hh⟩ := h2
  refine ⟨e, he, decide_eq_true ?_⟩
  rcases of_decide_eq_true hh with ⟨e1, e2⟩ | ⟨e0, e1, e2⟩
  · exact .inr ⟨hd, e1, e2⟩
  · exact .inl ⟨e1, e2⟩

theorem succ_sym {g : Gr} (hok : okGraph g = true) (hd : g.dir = false) : ∀ x ∈ asc g.nodes, ∀ y ∈ gSucc g x, y ∈ asc g.nodes ∧ x ∈ gSucc g y := fun x hx y hy => by
  obtain ⟨h1, h2⟩ := from_sym hd x hx y ((from_succ hok x hx y).1 hy)
  exact ⟨h1, (from_succ hok y h1 x).2 h2⟩
end Go.Proofs.YtanbhibllilccaaGreat
