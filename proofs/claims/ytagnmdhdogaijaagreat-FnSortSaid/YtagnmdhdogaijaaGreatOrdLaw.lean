/- laws.ordered, pure: the nodes in the order of Sort's places, and which places they have. -/
import Derived.Test.YtagnmdhdogaijaaGreatSortLaw
namespace Go.Proofs.YtagnmdhdogaijaaGreat

def plFrom : Nat → List (List Int) → List Int
  | _, [] => []
  | k, c :: l => List.replicate c.length (k : Int) ++ plFrom (k + 1) l
theorem plFrom_cons (k : Nat) (c : List Int) (l : List (List Int)) : plFrom k (c :: l) = List.replicate c.length (k : Int) ++ plFrom (k + 1) l := rfl
theorem plFrom_append (l m : List (List Int)) : ∀ a, plFrom a (l ++ m) = plFrom a l ++ plFrom (a + l.length) m := by
  induction l with
  | nil => intro a; simp [plFrom]
  | cons c l ih =>
    intro a
    rw [List.cons_append, plFrom_cons, plFrom_cons, ih (a + 1), List.append_assoc, List.length_cons, Nat.add_assoc, Nat.add_comm 1]
theorem plFrom_length (l : List (List Int)) : ∀ a, (plFrom a l).length = l.flatten.length := by
  induction l with
  | nil => intro a; rfl
  | cons c l ih =>
    intro a
    unfold plFrom
    rw [List.length_append, List.length_replicate, ih, List.flatten_cons, List.length_append]
theorem plFrom_get (l : List (List Int)) : ∀ (a p : Nat), p < l.flatten.length → ∃ k, k < l.length ∧ (plFrom a l)[p]? = some ((a + k : Nat) : Int) ∧ ∃ x, l.flatten[p]? = some x ∧ x ∈ l.getD k [] := by
  induction l with
  | nil => intro a p hp; simp at hp
  | cons c l ih =>
    intro a p hp
    rw [List.flatten_cons, List.length_append] at hp
    by_cases h : p < c.length
    · refine ⟨0, by simp, ?_, c[p], ?_, ?_⟩
      · unfold plFrom
        rw [List.getElem?_append_left (by rw [List.length_replicate]; exact h), List.getElem?_replicate, if_pos h]
        rfl
      · rw [List.flatten_cons, List.getElem?_append_left h, List.getElem?_eq_getElem h]
      · simp
    · obtain ⟨k, h1, h2, x, h3, h4⟩ := ih (a + 1) (p - c.length) (by omega)
      refine ⟨k + 1, by simp; omega, ?_, x, ?_, by simpa using h4⟩
      · unfold plFrom
        rw [List.getElem?_append_right (by rw [List.length_replicate]; omega), List.length_replicate, h2]
        congr 2
        omega
      · rw [List.flatten_cons, List.getElem?_append_right (by omega), h3]

/-- The nodes of the first k places, their places, and how many of the places are cyclic. -/
def allTo (P : List (List Int)) (k : Nat) : List Int := (P.take k).flatten
def plTo (P : List (List Int)) (k : Nat) : List Int := plFrom 0 (P.take k)
def nTo (P : List (List Int)) (k : Nat) : Nat := ((P.take k).filter fun c => decide (c.length ≠ 1)).length

theorem allTo_succ {P : List (List Int)} {k : Nat} (hk : k < P.length) : allTo P (k + 1) = allTo P k ++ P[k] := by
  unfold allTo
  rw [List.take_succ_eq_append_getElem hk, List.flatten_append]
  simp
theorem plTo_succ {P : List (List Int)} {k : Nat} (hk : k < P.length) : plTo P (k + 1) = plTo P k ++ List.replicate P[k].length (k : Int) := by
  unfold plTo
  rw [List.take_succ_eq_append_getElem hk, plFrom_append]
  congr 1
  rw [List.length_take, Nat.min_eq_left (by omega), Nat.zero_add]
  simp [plFrom]
theorem plTo_length (P : List (List Int)) (k : Nat) : (plTo P k).length = (allTo P k).length := plFrom_length _ _
theorem nTo_one {P : List (List Int)} {k : Nat} (hk : k < P.length) (h : P[k].length = 1) : nTo P (k + 1) = nTo P k := by
  unfold nTo
  rw [List.take_succ_eq_append_getElem hk, List.filter_append]
  simp [h]
theorem nTo_more {P : List (List Int)} {k : Nat} (hk : k < P.length) (h : P[k].length ≠ 1) : nTo P (k + 1) = nTo P k + 1 ∧ (P.filter fun c => decide (c.length ≠ 1))[nTo P k]? = some P[k] := by
  unfold nTo
  constructor
  · rw [List.take_succ_eq_append_getElem hk, List.filter_append]
    simp [h]
  · have e : P.filter (fun c => decide (c.length ≠ 1)) = (P.take k).filter (fun c => decide (c.length ≠ 1)) ++ P[k] :: (P.drop (k + 1)).filter (fun c => decide (c.length ≠ 1)) := by
      conv => lhs; rw [← List.take_append_drop k P, List.drop_eq_getElem_cons hk]
      rw [List.filter_append, List.filter_cons_of_pos (by simp [h])]
    rw [e, List.getElem?_append_right (Nat.le_refl _), Nat.sub_self, List.getElem?_cons_zero]
theorem nTo_end (P : List (List Int)) : nTo P P.length = (P.filter fun c => decide (c.length ≠ 1)).length := by unfold nTo; rw [List.take_length]
theorem allTo_end (P : List (List Int)) : allTo P P.length = P.flatten := by unfold allTo; rw [List.take_length]
theorem plTo_end (P : List (List Int)) : plTo P P.length = plFrom 0 P := by unfold plTo; rw [List.take_length]

theorem cycP_filter (g : Gr) : cycP g = (parP g).filter fun c => decide (c.length ≠ 1) := cyc_filter _
theorem parP_rev (g : Gr) : parP g = (gSccs g).reverse := rfl
theorem parP_length (g : Gr) : (parP g).length = (gComps g).length := by unfold parP; rw [List.length_reverse, List.length_map]

/-- What Sort tells of a place. -/
theorem slot_at (g : Gr) {k : Nat} (hk : k < (parP g).length) : ((gComps g).map topO).reverse[k]? = some (if (parP g)[k].length = 1 then some ((parP g)[k].headD 0) else none) := by
  have h1 : ((gComps g).map topO).reverse = (gComps g).reverse.map topO := List.map_reverse.symm
  have h2 : parP g = (gComps g).reverse.map asc := List.map_reverse.symm
  have hk' : k < (gComps g).reverse.length := by rw [parP_length] at hk; rw [List.length_reverse]; exact hk
  have e : (parP g)[k] = asc ((gComps g).reverse[k]) := by simp only [h2, List.getElem_map]
  rw [h1, List.getElem?_map, List.getElem?_eq_getElem hk', e, asc_length]
  show some (topO ((gComps g).reverse[k])) = _
  unfold topO
  by_cases h : (gComps g).reverse[k].length = 1
  · rw [if_pos h, if_pos h, asc_one h]
  · rw [if_neg h, if_neg h]

theorem idxI_mem {zs : List Int} {x : Int} (h : x ∈ zs) : ∃ p : Nat, p < zs.length ∧ idxI zs x = p ∧ zs[p]? = some x := by
  have hlt := List.idxOf_lt_length_of_mem h
  refine ⟨zs.idxOf x, hlt, ?_, ?_⟩
  · unfold idxI; rw [if_pos h]
  · rw [List.getElem?_eq_getElem hlt, List.getElem_idxOf hlt]

theorem par_perm {g : Gr} (ho : OrderOk g (gSccs g)) : asc (parP g).flatten = asc g.nodes := by
  have hp : (parP g).flatten.Perm (gSccs g).flatten := by rw [parP_rev]; exact (List.reverse_perm _).flatten
  rw [← ho.perm]
  exact asc_unique ((asc_perm _).trans hp) (asc_sorted _)

theorem par_getD (g : Gr) {k : Nat} (hk : k < (parP g).length) : (parP g).getD k [] = (gSccs g).getD ((gSccs g).length - 1 - k) [] := by
  have hl : (parP g).length = (gSccs g).length := by rw [parP_rev, List.length_reverse]
  have h1 : (parP g).getD k [] = (parP g)[k] := by simp [hk]
  have h2 : (gSccs g).length - 1 - k < (gSccs g).length := by omega
  have h3 : (gSccs g).getD ((gSccs g).length - 1 - k) [] = (gSccs g)[(gSccs g).length - 1 - k] := by simp [h2]
  rw [h1, h3]
  simp only [parP_rev, List.getElem_reverse]

/-- No edge leads back. -/
theorem ord_edge {g : Gr} (hok : okGraph g = true) {i : Nat} (hi : i < g.edges.length) :
    ∃ p q kp kq : Nat, idxI (parP g).flatten g.edges[i].1 = p ∧ idxI (parP g).flatten g.edges[i].2.1 = q ∧ p < (parP g).flatten.length ∧ q < (parP g).flatten.length ∧
      (plFrom 0 (parP g))[p]? = some (kp : Int) ∧ (plFrom 0 (parP g))[q]? = some (kq : Int) ∧ kp ≤ kq := by
  have ho := order_ok hok
  have hnd := ho.nodup hok
  have hok' := hok
  unfold okGraph at hok'
  rw [Bool.and_eq_true, List.all_eq_true] at hok'
  have hoke := of_decide_eq_true (hok'.2 _ (List.getElem_mem hi))
  have hmem : ∀ {x : Int}, x ∈ g.nodes → x ∈ (parP g).flatten := fun {x} hx => by
    rw [parP_rev]
    exact (List.reverse_perm (gSccs g)).flatten.mem_iff.2 (ho.mem.2 hx)
  obtain ⟨p, hp, ep, gp⟩ := idxI_mem (hmem hoke.2.1)
  obtain ⟨q, hq, eq, gq⟩ := idxI_mem (hmem hoke.2.2.1)
  obtain ⟨kp, hkp, lp, xp, fp, mp⟩ := plFrom_get (parP g) 0 p hp
  obtain ⟨kq, hkq, lq, xq, fq, mq⟩ := plFrom_get (parP g) 0 q hq
  rw [Nat.zero_add] at lp lq
  have e1 : xp = g.edges[i].1 := by rw [gp] at fp; injection fp with fp; exact fp.symm
  have e2 : xq = g.edges[i].2.1 := by rw [gq] at fq; injection fq with fq; exact fq.symm
  subst e1; subst e2
  have hl : (parP g).length = (gSccs g).length := by rw [parP_rev, List.length_reverse]
  rw [par_getD g hkp] at mp
  rw [par_getD g hkq] at mq
  have ha : (gSccs g).length - 1 - kp < (gSccs g).length := by omega
  have hlaw := ho.law _ ha i hi (by simpa [ha] using mp)
  obtain ⟨c, hc, hcm⟩ := List.any_eq_true.1 hlaw
  obtain ⟨m, hm, rfl⟩ := List.mem_iff_getElem.1 hc
  rw [List.length_take] at hm
  rw [List.getElem_take] at hcm
  have hmL : m < (gSccs g).length := by omega
  have := flat_apart hnd mq (show g.edges[i].2.1 ∈ (gSccs g).getD m [] by have := of_decide_eq_true hcm; simpa [hmL] using this)
  exact ⟨p, q, kp, kq, ep, eq, hp, hq, lp, lq, by omega⟩
end Go.Proofs.YtagnmdhdogaijaaGreat
