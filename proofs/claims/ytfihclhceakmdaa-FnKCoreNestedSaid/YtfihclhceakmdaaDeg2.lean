/- topo.degeneracyOrdering: while the neighbours of what was taken away go over to lesser degrees. -/
import Derived.Test.YtfihclhceakmdaaDeg1
namespace Go.Proofs.Ytfihclhceakmdaa
open Go.RowKit Go.Maps

theorem DOk.congr {ids L : List Int} {g g' : Int → Nat} {m : Nat} {Dl : List (List Int)} (h : DOk ids L g m Dl) (e : ∀ x ∈ ids, x ∉ L → g x = g' x) : DOk ids L g' m Dl :=
  ⟨h.len, h.nd, fun i x => by
    rw [h.mem i x]
    constructor
    · rintro ⟨h1, h2, h3⟩; exact ⟨h1, h2, by rw [← e x h1 h2]; exact h3⟩
    · rintro ⟨h1, h2, h3⟩; exact ⟨h1, h2, by rw [e x h1 h2]; exact h3⟩⟩

/-- The degrees when the first t neighbours of v are told. -/
def gdec (s : Int → List Int) (L : List Int) (v : Int) (t : Nat) (x : Int) : Nat := degOut s L x - if x ∈ (s v).take t then 1 else 0

theorem gdec_zero (s : Int → List Int) (L : List Int) (v x : Int) : gdec s L v 0 x = degOut s L x := by unfold gdec; simp
theorem gdec_succ {s : Int → List Int} {L : List Int} {v y : Int} {t : Nat} (ht : t < (s v).length) (hy : y = (s v)[t]) {x : Int} (hx : x ≠ y) : gdec s L v (t + 1) x = gdec s L v t x := by
  unfold gdec
  rw [List.take_succ_eq_append_getElem ht, ← hy]
  simp [hx]
theorem gdec_at {s : Int → List Int} {L : List Int} {v y : Int} {t : Nat} (ht : t < (s v).length) (hy : y = (s v)[t]) (hnd : (s v).Nodup) : gdec s L v t y = degOut s L y ∧ gdec s L v (t + 1) y = degOut s L y - 1 := by
  unfold gdec
  have h1 : y ∉ (s v).take t := fun hm => by
    have h2 := hnd
    rw [← List.take_append_drop t (s v), List.nodup_append] at h2
    exact h2.2.2 y hm y (by rw [List.drop_eq_getElem_cons ht, ← hy]; exact List.mem_cons_self) rfl
  rw [List.take_succ_eq_append_getElem ht, ← hy]
  simp [h1]

/-- The last one taken away counts no more. -/
theorem degOut_snoc {s : Int → List Int} {L : List Int} {v x : Int} (hvL : v ∉ L) (hnd : (s x).Nodup) : degOut s (L ++ [v]) x = degOut s L x - if v ∈ s x then 1 else 0 := by
  unfold degOut
  have e1 : (s x).filter (fun y => !decide (y ∈ L ++ [v])) = ((s x).filter fun y => !decide (y ∈ L)).filter fun y => !decide (y = v) := by
    rw [List.filter_filter]
    refine List.filter_congr fun y _ => ?_
    by_cases h1 : y ∈ L <;> by_cases h2 : y = v <;> simp [h1, h2]
  rw [e1]
  generalize hl : (s x).filter (fun y => !decide (y ∈ L)) = l
  have hln : l.Nodup := by rw [← hl]; exact hnd.sublist List.filter_sublist
  have hm : v ∈ s x ↔ v ∈ l := by rw [← hl, List.mem_filter]; simp [hvL]
  have e2 : l.filter (fun y => !decide (y = v)) = l.erase v := by
    rw [hln.erase_eq_filter]
    refine List.filter_congr fun y _ => ?_
    by_cases h : y = v <;> simp [h]
  rw [e2]
  by_cases h : v ∈ s x
  · rw [if_pos h, List.length_erase_of_mem (hm.1 h)]
  · rw [if_neg h, List.erase_of_not_mem (fun e => h (hm.2 e))]; rfl

/-- What stands when the first t neighbours of v have gone over. -/
def K4 (w1 w : World) (ids : List Int) (s : Int → List Int) (dmb db mm : Nat) (L : List Int) (v : Int) (t : Nat) (lv sv : Value) (c : List Nat) : Prop :=
  ∃ (vs : List Value) (Dl : List (List Int)) (f : Int → Option Value), DOk ids (L ++ [v]) (gdec s L v t) mm Dl ∧ (∀ x ∈ ids, f x = if x ∈ L ++ [v] then none else some (.int .i64 (gdec s L v t x : Nat))) ∧ KD w1 w ids dmb db mm f vs Dl lv sv (L ++ [v]) c

section
variable {w1 w : World} {ids : List Int} {s : Int → List Int} {dmb db mm : Nat} {L : List Int} {v : Int} {lv sv : Value} {c : List Nat}

theorem K4.start {vs : List Value} {Dl : List (List Int)} {f : Int → Option Value} (hO : DOk ids (L ++ [v]) (degOut s L) mm Dl) (hf : ∀ x ∈ ids, f x = if x ∈ L then none else some (.int .i64 (degOut s L x : Nat))) (hD : KD w1 w ids dmb db mm (updV f v none) vs Dl lv sv (L ++ [v]) c) : K4 w1 w ids s dmb db mm L v 0 lv sv c := by
  refine ⟨vs, Dl, _, hO.congr fun x _ _ => (gdec_zero s L v x).symm, fun x hx => ?_, hD⟩
  rw [gdec_zero]
  by_cases e : x = v
  · subst e; rw [updV_self, if_pos (by simp)]
  · rw [updV_other _ _ e, hf x hx]
    by_cases h : x ∈ L
    · rw [if_pos h, if_pos (List.mem_append.2 (.inl h))]
    · rw [if_neg h, if_neg (fun h2 => by rcases List.mem_append.1 h2 with h3 | h3; exact h h3; exact e (List.mem_singleton.1 h3))]

theorem K4.skip {t : Nat} {y : Int} (h : K4 w1 w ids s dmb db mm L v t lv sv c) (ht : t < (s v).length) (hy : y = (s v)[t]) (hyL : y ∈ L ++ [v]) : K4 w1 w ids s dmb db mm L v (t + 1) lv sv c := by
  obtain ⟨vs, Dl, f, hO, hf, hD⟩ := h
  refine ⟨vs, Dl, f, hO.congr fun x _ hx => (gdec_succ ht hy (fun e => hx (by rw [e]; exact hyL))).symm, fun x hx => ?_, hD⟩
  rw [hf x hx]
  by_cases h1 : x ∈ L ++ [v]
  · rw [if_pos h1, if_pos h1]
  · rw [if_neg h1, if_neg h1, gdec_succ ht hy (fun e => h1 (by rw [e]; exact hyL))]

theorem K4.next {t a q : Nat} {y u : Int} {r : List Int} {vs' : List Value} {Dl : List (List Int)} {f : Int → Option Value} (hO : DOk ids (L ++ [v]) (gdec s L v t) mm Dl) (hf : ∀ x ∈ ids, f x = if x ∈ L ++ [v] then none else some (.int .i64 (gdec s L v t x : Nat))) (ht : t < (s v).length) (hy : y = (s v)[t]) (hnd : (s v).Nodup)
    (hym : y ∈ ids) (hyL : y ∉ L ++ [v]) (ha : degOut s L y = a + 1) (hr : Dl.getD (a + 1) [] = r ++ [u]) (hq : (r ++ [u])[q]? = some y)
    (hD : KD w1 w ids dmb db mm (updV f y (some (.int .i64 (a : Nat)))) vs' ((Dl.set (a + 1) (r.set q u)).set a (((Dl.set (a + 1) (r.set q u)).getD a []) ++ [y])) lv sv (L ++ [v]) c) : K4 w1 w ids s dmb db mm L v (t + 1) lv sv c := by
  obtain ⟨g1, g2⟩ := gdec_at (s := s) (L := L) ht hy hnd
  have hg : ∀ x, updN (gdec s L v t) y a x = gdec s L v (t + 1) x := fun x => by
    unfold updN
    by_cases e : x = y
    · subst e; rw [if_pos rfl, g2, ha]; rfl
    · rw [if_neg e, gdec_succ ht hy e]
  refine ⟨vs', _, _, (hO.move hym hyL (by rw [g1]; exact ha) hr hq).congr fun x _ _ => hg x, fun x hx => ?_, hD⟩
  by_cases e : x = y
  · subst e
    rw [updV_self, if_neg hyL, g2, ha]; rfl
  · rw [updV_other _ _ e, hf x hx, gdec_succ ht hy e]

theorem K4.done (h : K4 w1 w ids s dmb db mm L v (s v).length lv sv c) (hvL : v ∉ L) (hvm : v ∈ ids) (hsym : ∀ x ∈ ids, ∀ y ∈ s x, x ∈ s y) (hnd : ∀ x ∈ ids, (s x).Nodup) {kk : Nat} (hI : KInv s ids (L ++ [v]) kk c) {j : Nat} (hj : L.length = j) : K3 w1 w ids s dmb db mm (j + 1) kk lv sv := by
  obtain ⟨vs, Dl, f, hO, hf, hD⟩ := h
  have hg : ∀ x ∈ ids, gdec s L v (s v).length x = degOut s (L ++ [v]) x := fun x hx => by
    rw [degOut_snoc hvL (hnd x hx)]
    unfold gdec
    rw [List.take_length]
    by_cases h1 : x ∈ s v
    · rw [if_pos h1, if_pos (hsym v hvm x h1)]
    · rw [if_neg h1, if_neg (fun h2 => h1 (hsym x hx v h2))]
  refine ⟨L ++ [v], c, vs, Dl, f, by simp [hj], hI, hO.congr fun x hx _ => hg x hx, fun x hx => ?_, hD⟩
  rw [hf x hx, hg x hx]
end

theorem getD_le_sum (l : List Nat) (i : Nat) : l.getD i 0 ≤ l.sum := by
  induction l generalizing i with
  | nil => simp
  | cons a l ih =>
    cases i with
    | zero => simp
    | succ i => have := ih i; simp at this ⊢; omega

theorem degOut_pos {s : Int → List Int} {L : List Int} {v y : Int} (h : v ∈ s y) (hv : v ∉ L) : ∃ a, degOut s L y = a + 1 := by
  have : 0 < degOut s L y := by
    unfold degOut
    exact List.length_pos_of_mem (List.mem_filter.2 ⟨h, by simp [hv]⟩)
  exact ⟨degOut s L y - 1, by omega⟩

theorem all_in {ids L : List Int} (hL : L.Nodup) (hs : ∀ x ∈ L, x ∈ ids) (hl : ids.length ≤ L.length) : ∀ x ∈ ids, x ∈ L := fun x hx => Classical.byContradiction fun hn => by
  have := nodup_len (List.nodup_cons.2 ⟨hn, hL⟩) (m := ids) (fun y hy => by
    rcases List.mem_cons.1 hy with e | e
    · rw [e]; exact hx
    · exact hs y e)
  rw [List.length_cons] at this
  omega

/-- One of a list goes, the last one comes to its place: two stores. -/
theorem KD.swap {w1 w : World} {ids : List Int} {dmb db m i q nr : Nat} {f : Int → Option Value} {vs : List Value} {Dl : List (List Int)} {lv sv : Value} {L : List Int} {c : List Nat} {ga cap : Nat} {r : List Int} {u : Int} (h : KD w1 w ids dmb db m f vs Dl lv sv L c) (hv : vs[i]? = some (.slice (some ⟨ga, 0, none⟩) (nr + 1) cap)) (hr : Dl[i]? = some (r ++ [u])) (hn : nr = r.length) (hq : q ≤ nr) :
    (∃ x, w.cell? ⟨ga, q, none⟩ = some x) ∧ w.frozen? ⟨ga, q, none⟩ = false ∧ (w.setCell ⟨ga, q, none⟩ (nodev u)).cell? ⟨db, i, none⟩ = some (.slice (some ⟨ga, 0, none⟩) (nr + 1) cap) ∧ (w.setCell ⟨ga, q, none⟩ (nodev u)).frozen? ⟨db, i, none⟩ = false ∧
      KD w1 ((w.setCell ⟨ga, q, none⟩ (nodev u)).setCell ⟨db, i, none⟩ (.slice (some ⟨ga, 0, none⟩) nr cap)) ids dmb db m f (vs.set i (.slice (some ⟨ga, 0, none⟩) nr cap)) (Dl.set i (r.set q u)) lv sv L c := by
  have own := h.rows.2 i _ _ hv hr
  have e1 : (r ++ [u]).length = nr + 1 := by simp [hn]
  have e2 : (r ++ [u]).map nodev = nodes (r ++ [u]) := rfl
  rw [e1, e2] at own
  have hne : ga ≠ db := fun e => h.dv (by rw [← e]; exact blks_mem hv rfl)
  have hql : q < (r ++ [u]).length := by omega
  have hset := owns_set own (j := q) (nodev u)
  have hs2 : (r ++ [u]).set q u = r.set q u ++ [u] := by
    rcases Nat.lt_or_ge q r.length with h1 | h1
    · rw [List.set_append_left _ _ h1]
    · have : q = r.length := by omega
      subst this
      rw [List.set_append_right _ _ (Nat.le_refl _), Nat.sub_self, List.set_eq_of_length_le (l := r) (Nat.le_refl _)]; rfl
  have e3 : (nodes (r ++ [u])).set q (nodev u) = nodes (r.set q u) ++ [nodev u] := by
    unfold nodes
    rw [← List.map_set, hs2, List.map_append]; rfl
  rw [e3] at hset
  have hsh := owns_shrink hset
  have hd' : (w.setCell ⟨ga, q, none⟩ (nodev u)).ownsRow w1.heap.size 47 1 (.slice (some ⟨db, 0, none⟩) m m) m vs := owns_same h.d fun j hj => by
    have e : db = j := by injection hj
    exact Below.heap_setCell _ _ _ _ (show j ≠ ga by omega)
  have hrl : (r.set q u).length = nr := by rw [List.length_set, hn]
  exact ⟨⟨_, owns_cell own (nodes_get (r ++ [u]) q hql)⟩, owns_free own q, owns_cell hd' hv, owns_free hd' i,
    h.rowPut hv ⟨rfl, rfl, rfl, by rw [size_setCell]; exact Nat.le_refl _, fun j _ hj => Below.heap_setCell _ _ _ _ (fun e => hj (by rw [e]; rfl))⟩ (by rw [hrl]; exact hsh) (fun j hj => .inl hj)⟩
end Go.Proofs.Ytfihclhceakmdaa
