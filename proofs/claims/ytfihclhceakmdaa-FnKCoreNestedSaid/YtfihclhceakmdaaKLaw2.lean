/- The lists by degrees, pure. -/
import Derived.Test.YtfihclhceakmdaaKLaw
namespace Go.Proofs.Ytfihclhceakmdaa

/-- The lists by degrees of what is left. -/
structure DOk (ids L : List Int) (g : Int → Nat) (m : Nat) (Dl : List (List Int)) : Prop where
  len : Dl.length = m
  nd : ∀ i, (Dl.getD i []).Nodup
  mem : ∀ i x, x ∈ Dl.getD i [] ↔ x ∈ ids ∧ x ∉ L ∧ g x = i

theorem getD_set {α : Type} (l : List α) (i j : Nat) (x d : α) (hi : i < l.length) : (l.set i x).getD j d = if j = i then x else l.getD j d := by
  rw [List.getD_eq_getElem?_getD, List.getD_eq_getElem?_getD]
  by_cases h : j = i
  · subst h; rw [List.getElem?_set_self hi, if_pos rfl]; rfl
  · rw [List.getElem?_set_ne (fun e => h e.symm), if_neg h]

theorem getD_lt {l : List (List Int)} {i : Nat} {x : Int} (h : x ∈ l.getD i []) : i < l.length := by
  rcases Nat.lt_or_ge i l.length with h1 | h1
  · exact h1
  · rw [List.getD_eq_getElem?_getD, List.getElem?_eq_none h1] at h; cases h

section
variable {ids L : List Int} {g : Int → Nat} {m : Nat} {Dl : List (List Int)}

/-- The last one of a list is taken away. -/
theorem DOk.pop (h : DOk ids L g m Dl) {i : Nat} {r : List Int} {v : Int} (hr : Dl.getD i [] = r ++ [v]) : DOk ids (L ++ [v]) g m (Dl.set i r) ∧ v ∈ ids ∧ v ∉ L ∧ g v = i := by
  have hv := (h.mem i v).1 (by rw [hr]; simp)
  have hi := getD_lt (l := Dl) (i := i) (x := v) (by rw [hr]; simp)
  have hnd := h.nd i
  rw [hr, List.nodup_append] at hnd
  refine ⟨⟨by rw [List.length_set]; exact h.len, fun j => ?_, fun j x => ?_⟩, hv.1, hv.2.1, hv.2.2⟩
  · rw [getD_set _ _ _ _ _ hi]
    split
    · exact hnd.1
    · exact h.nd j
  · rw [getD_set _ _ _ _ _ hi]
    split
    · rename_i e
      subst e
      have h1 := h.mem j x
      rw [hr, List.mem_append, List.mem_singleton] at h1
      rw [List.mem_append, List.mem_singleton]
      constructor
      · intro hx
        obtain ⟨h2, h3, h4⟩ := h1.1 (.inl hx)
        exact ⟨h2, fun e => by
          rcases e with e | e
          · exact h3 e
          · exact hnd.2.2 x hx v (by simp) e, h4⟩
      · rintro ⟨h2, h3, h4⟩
        rcases h1.2 ⟨h2, fun e => h3 (.inl e), h4⟩ with h5 | h5
        · exact h5
        · exact absurd (.inr h5) h3
    · rename_i hne
      rw [h.mem j x, List.mem_append, List.mem_singleton]
      constructor
      · rintro ⟨h2, h3, h4⟩
        exact ⟨h2, fun e => by
          rcases e with e | e
          · exact h3 e
          · subst e; exact hne (h4.symm.trans hv.2.2), h4⟩
      · rintro ⟨h2, h3, h4⟩
        exact ⟨h2, fun e => h3 (.inl e), h4⟩

/-- A list without the element at a place, the last one in its stead. -/
theorem swap_mem {r : List Int} {v w : Int} {q : Nat} (hnd : (r ++ [v]).Nodup) (hq : (r ++ [v])[q]? = some w) : (r.set q v).Nodup ∧ ∀ x, x ∈ r.set q v ↔ x ∈ r ++ [v] ∧ x ≠ w := by
  rw [List.nodup_append] at hnd
  rcases Nat.lt_or_ge q r.length with h1 | h1
  · rw [List.getElem?_append_left h1, List.getElem?_eq_getElem h1] at hq
    injection hq with hq
    have hsplit : r = r.take q ++ w :: r.drop (q + 1) := by
      have := List.take_append_drop q r
      rw [List.drop_eq_getElem_cons h1, hq] at this
      exact this.symm
    have hset : r.set q v = r.take q ++ v :: r.drop (q + 1) := List.set_eq_take_append_cons_drop .. |>.trans (by rw [if_pos h1])
    have hvr : v ∉ r := fun e => hnd.2.2 v e v (by simp) rfl
    have hn1 := hnd.1
    rw [hsplit, List.nodup_append, List.nodup_cons] at hn1
    have hv1 : v ∉ r.take q := fun e => hvr (List.mem_of_mem_take e)
    have hv2 : v ∉ r.drop (q + 1) := fun e => hvr (List.mem_of_mem_drop e)
    have hwv : w ≠ v := fun e => hvr (by rw [← e, ← hq]; exact List.getElem_mem h1)
    refine ⟨?_, fun x => ?_⟩
    · rw [hset, List.nodup_append, List.nodup_cons]
      exact ⟨hn1.1, ⟨hv2, hn1.2.1.2⟩, fun a ha b hb e => by
        subst e
        rcases List.mem_cons.1 hb with hb | hb
        · subst hb; exact hv1 ha
        · exact hn1.2.2 a ha a (List.mem_cons_of_mem _ hb) rfl⟩
    · rw [hset]
      conv => rhs; rw [hsplit]
      simp only [List.mem_append, List.mem_cons, List.not_mem_nil, or_false]
      constructor
      · rintro (h2 | h2 | h2)
        · exact ⟨.inl (.inl h2), fun e => hn1.2.2 x h2 w (by simp) e⟩
        · subst h2; exact ⟨.inr rfl, fun e => hwv e.symm⟩
        · exact ⟨.inl (.inr (.inr h2)), fun e => hn1.2.1.1 (by rw [← e]; exact h2)⟩
      · rintro ⟨(h2 | h2 | h2) | h2, h3⟩
        · exact .inl h2
        · exact absurd h2 h3
        · exact .inr (.inr h2)
        · exact .inr (.inl h2)
  · have hqe : q = r.length := by
      have := (List.getElem?_eq_some_iff.1 hq).1
      simp at this; omega
    subst hqe
    rw [List.getElem?_append_right (Nat.le_refl _), Nat.sub_self] at hq
    injection hq with hq
    have hq : v = w := hq
    subst hq
    rw [List.set_eq_of_length_le (Nat.le_refl _)]
    refine ⟨hnd.1, fun x => ?_⟩
    simp only [List.mem_append, List.mem_singleton]
    constructor
    · intro h2; exact ⟨.inl h2, fun e => hnd.2.2 x h2 v (by simp) e⟩
    · rintro ⟨h2 | h2, h3⟩
      · exact h2
      · exact absurd h2 h3

def updN (g : Int → Nat) (x : Int) (n : Nat) : Int → Nat := fun y => if y = x then n else g y

/-- A node goes over to the list of one degree less. -/
theorem DOk.move (h : DOk ids L g m Dl) {a q : Nat} {r : List Int} {v w : Int} (hw : w ∈ ids) (hwL : w ∉ L) (hg : g w = a + 1) (hr : Dl.getD (a + 1) [] = r ++ [v]) (hq : (r ++ [v])[q]? = some w) :
    DOk ids L (updN g w a) m ((Dl.set (a + 1) (r.set q v)).set a (((Dl.set (a + 1) (r.set q v)).getD a []) ++ [w])) := by
  have hi : a + 1 < Dl.length := getD_lt (x := v) (by rw [hr]; simp)
  have hnd := h.nd (a + 1)
  rw [hr] at hnd
  obtain ⟨h1, h2⟩ := swap_mem hnd hq
  have hga : (Dl.set (a + 1) (r.set q v)).getD a [] = Dl.getD a [] := by rw [getD_set _ _ _ _ _ hi, if_neg (by omega)]
  rw [hga]
  have hwa : w ∉ Dl.getD a [] := fun e => by have := ((h.mem a w).1 e).2.2; omega
  have hrow : ∀ j, ((Dl.set (a + 1) (r.set q v)).set a (Dl.getD a [] ++ [w])).getD j [] = if j = a then Dl.getD a [] ++ [w] else if j = a + 1 then r.set q v else Dl.getD j [] := fun j => by
    rw [getD_set _ _ _ _ _ (by rw [List.length_set]; omega), getD_set _ _ _ _ _ hi]
  refine ⟨by rw [List.length_set, List.length_set]; exact h.len, fun j => ?_, fun j x => ?_⟩
  · rw [hrow]
    split
    · rw [List.nodup_append]
      exact ⟨h.nd a, by simp, fun x hx y hy e => by rw [List.mem_singleton] at hy; subst hy; subst e; exact hwa hx⟩
    · split
      · exact h1
      · exact h.nd j
  · rw [hrow]
    unfold updN
    split
    · rename_i e
      subst e
      rw [List.mem_append, List.mem_singleton, h.mem j x]
      by_cases hx : x = w
      · subst hx
        rw [if_pos rfl]
        exact ⟨fun _ => ⟨hw, hwL, rfl⟩, fun _ => .inr rfl⟩
      · rw [if_neg hx]
        exact ⟨fun h3 => h3.elim id (fun e => absurd e hx), .inl⟩
    · rename_i hja
      split
      · rename_i e
        subst e
        rw [h2 x, ← hr, h.mem (a + 1) x]
        by_cases hx : x = w
        · subst hx
          rw [if_pos rfl]
          exact ⟨fun h3 => absurd rfl h3.2, fun h3 => by omega⟩
        · rw [if_neg hx]
          exact ⟨fun h3 => h3.1, fun h3 => ⟨h3, hx⟩⟩
      · rename_i hj1
        rw [h.mem j x]
        by_cases hx : x = w
        · subst hx
          rw [if_pos rfl]
          exact ⟨fun h3 => by omega, fun h3 => by omega⟩
        · rw [if_neg hx]
end
end Go.Proofs.Ytfihclhceakmdaa
