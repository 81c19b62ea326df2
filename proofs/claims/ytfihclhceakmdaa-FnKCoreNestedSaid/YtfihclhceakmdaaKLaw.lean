/- The cores of a graph, pure: what taking away a node of the least degree, again and again, counts. -/
import Derived.Test.YtfihclhceakmdaaBase
namespace Go.Proofs.Ytfihclhceakmdaa

/-- How many of the neighbours of x are in S; how many are not in L. -/
def degIn (s : Int → List Int) (S : List Int) (x : Int) : Nat := ((s x).filter fun y => decide (y ∈ S)).length
def degOut (s : Int → List Int) (L : List Int) (x : Int) : Nat := ((s x).filter fun y => !decide (y ∈ L)).length

/-- What the ordering has come to: L is taken away, k is the greatest degree so far, c counts. -/
structure KInv (s : Int → List Int) (A L : List Int) (k : Nat) (c : List Nat) : Prop where
  nd : L.Nodup
  sub : ∀ x ∈ L, x ∈ A
  len : c.length = k + 1
  pos : (L = [] ∧ k = 0) ∨ 0 < c.getD k 0
  sum : c.sum = L.length
  inn : ∀ t, t ≤ k + 1 → ∀ S : List Int, (∀ x ∈ S, x ∈ A ∧ t ≤ degIn s S x) → ∀ x ∈ S, x ∉ L.take (c.take t).sum
  out : ∀ t, t ≤ k + 1 → (c.take t).sum < L.length → ∀ x ∈ A, x ∉ L.take (c.take t).sum → t ≤ degOut s (L.take (c.take t).sum) x

theorem KInv.start (s : Int → List Int) (A : List Int) : KInv s A [] 0 [0] :=
  ⟨List.nodup_nil, by simp, rfl, .inl ⟨rfl, rfl⟩, rfl, fun t _ S _ x _ => by simp, fun t _ h => by simp at h⟩

/-- The counts behind a step. -/
def kLong (c : List Nat) (k i : Nat) : List Nat := c ++ List.replicate (i - k) 0
def kStep (c : List Nat) (k i : Nat) : List Nat := (kLong c k i).set (max k i) ((kLong c k i).getD (max k i) 0 + 1)

theorem sum_set (l : List Nat) (j : Nat) (h : j < l.length) : (l.set j (l.getD j 0 + 1)).sum = l.sum + 1 := by
  induction l generalizing j with
  | nil => simp at h
  | cons a l ih =>
    cases j with
    | zero => simp; omega
    | succ j =>
      have := ih j (by simpa using h)
      simp at this ⊢
      omega

theorem sum_take_le (l : List Nat) (t : Nat) : (l.take t).sum ≤ l.sum := by
  conv => rhs; rw [← List.take_append_drop t l, List.sum_append]
  omega

section
variable {s : Int → List Int} {A L : List Int} {k i : Nat} {c : List Nat}

theorem kLong_len (h : c.length = k + 1) : (kLong c k i).length = max k i + 1 := by unfold kLong; simp [h]; omega
theorem kLong_take {t : Nat} (h : c.length = k + 1) (ht : t ≤ k + 1) : (kLong c k i).take t = c.take t := by
  unfold kLong
  rw [List.take_append_of_le_length (by omega)]
theorem kLong_sum {t : Nat} (h : c.length = k + 1) (ht : k + 1 ≤ t) : ((kLong c k i).take t).sum = c.sum := by
  unfold kLong
  rw [List.take_append, List.take_of_length_le (by omega), List.sum_append, List.take_replicate, List.sum_replicate_nat]
  simp
theorem kStep_take {t : Nat} (ht : t ≤ max k i) : (kStep c k i).take t = (kLong c k i).take t := by
  unfold kStep
  rw [List.take_set, List.set_eq_of_length_le (by rw [List.length_take]; omega)]

theorem degOut_mono {L' : List Int} (h : ∀ x ∈ L, x ∈ L') (x : Int) : degOut s L' x ≤ degOut s L x := by
  unfold degOut
  refine List.Sublist.length_le ?_
  have : (s x).filter (fun y => !decide (y ∈ L')) = ((s x).filter fun y => !decide (y ∈ L)).filter fun y => !decide (y ∈ L') := by
    rw [List.filter_filter]
    refine List.filter_congr fun y _ => ?_
    by_cases h1 : y ∈ L'
    · simp [h1]
    · have : y ∉ L := fun h2 => h1 (h y h2)
      simp [h1, this]
  rw [this]
  exact List.filter_sublist

theorem degIn_le {S : List Int} (h : ∀ x ∈ S, x ∉ L) (x : Int) : degIn s S x ≤ degOut s L x := by
  unfold degIn degOut
  refine List.Sublist.length_le ?_
  have : (s x).filter (fun y => decide (y ∈ S)) = ((s x).filter fun y => !decide (y ∈ L)).filter fun y => decide (y ∈ S) := by
    rw [List.filter_filter]
    refine List.filter_congr fun y _ => ?_
    by_cases h1 : y ∈ S
    · simp [h1, h y h1]
    · simp [h1]
  rw [this]
  exact List.filter_sublist

/-- One node more is taken away: one of the least degree. -/
theorem KInv.step (h : KInv s A L k c) {v : Int} (hv : v ∈ A) (hvL : v ∉ L) (hi : i = degOut s L v) (hmin : ∀ x ∈ A, x ∉ L → i ≤ degOut s L x) : KInv s A (L ++ [v]) (max k i) (kStep c k i) := by
  have hlen := h.len
  have hll := kLong_len (i := i) hlen
  have hsum := h.sum
  -- the sums of the beginnings
  have hs1 : ∀ t, t ≤ k + 1 → t ≤ max k i → ((kStep c k i).take t).sum = (c.take t).sum := fun t h1 h2 => by rw [kStep_take h2, kLong_take hlen h1]
  have hs2 : ∀ t, k + 1 ≤ t → t ≤ max k i → ((kStep c k i).take t).sum = L.length := fun t h1 h2 => by rw [kStep_take h2, kLong_sum hlen h1, hsum]
  have hs3 : (kStep c k i).sum = L.length + 1 := by
    unfold kStep
    rw [sum_set _ _ (by omega), ← hsum]
    have := kLong_sum (i := i) (t := (kLong c k i).length) hlen (by omega)
    rw [List.take_length] at this
    omega
  have hs4 : ∀ t, t = max k i + 1 → ((kStep c k i).take t).sum = L.length + 1 := fun t ht => by
    rw [List.take_of_length_le (by unfold kStep; rw [List.length_set]; omega)]
    exact hs3
  have hfull : c.take (k + 1) = c := List.take_of_length_le (by omega)
  -- no set of a degree above k touches L
  have hkey : ∀ t, k + 1 ≤ t → ∀ S : List Int, (∀ x ∈ S, x ∈ A ∧ t ≤ degIn s S x) → ∀ x ∈ S, x ∉ L := fun t ht S hS x hx => by
    have := h.inn (k + 1) (Nat.le_refl _) S (fun y hy => ⟨(hS y hy).1, Nat.le_trans ht (hS y hy).2⟩) x hx
    rwa [hfull, hsum, List.take_length] at this
  refine ⟨?_, ?_, ?_, ?_, ?_, ?_, ?_⟩
  · rw [List.nodup_append]
    exact ⟨h.nd, by simp, fun a ha b hb e => by rw [List.mem_singleton] at hb; subst hb; subst e; exact hvL ha⟩
  · intro x hx
    rcases List.mem_append.1 hx with hx | hx
    · exact h.sub x hx
    · rw [List.mem_singleton.1 hx]; exact hv
  · unfold kStep; rw [List.length_set]; exact hll
  · right
    unfold kStep
    rw [List.getD_eq_getElem?_getD, List.getElem?_set_self (by omega)]
    simp
  · rw [hs3, List.length_append]; rfl
  · intro t ht S hS x hx
    rcases Nat.lt_or_ge (max k i) t with h1 | h1
    · have ht' : t = max k i + 1 := by omega
      rw [hs4 t ht', List.take_of_length_le (by simp)]
      intro hm
      rcases List.mem_append.1 hm with hm | hm
      · exact hkey t (by omega) S hS x hx hm
      · have e := List.mem_singleton.1 hm
        subst e
        have h2 := degIn_le (s := s) (S := S) (L := L) (hkey t (by omega) S hS) x
        have h3 := (hS x hx).2
        omega
    · rcases Nat.le_total t (k + 1) with h2 | h2
      · rw [hs1 t h2 h1, List.take_append_of_le_length (by rw [← hsum]; exact sum_take_le c t)]
        exact h.inn t h2 S hS x hx
      · rw [hs2 t h2 h1, List.take_append_of_le_length (Nat.le_refl _), List.take_length]
        exact hkey t h2 S hS x hx
  · intro t ht hlt x hx hxn
    rcases Nat.lt_or_ge (max k i) t with h1 | h1
    · have ht' : t = max k i + 1 := by omega
      rw [hs4 t ht', List.length_append] at hlt
      simp at hlt
    · rcases Nat.le_total t (k + 1) with h2 | h2
      · have hle : (c.take t).sum ≤ L.length := by rw [← hsum]; exact sum_take_le c t
        rw [hs1 t h2 h1, List.take_append_of_le_length hle] at hxn ⊢
        rcases Nat.lt_or_ge (c.take t).sum L.length with h3 | h3
        · exact h.out t h2 h3 x hx hxn
        · have h4 : L.take (c.take t).sum = L := List.take_of_length_le h3
          rw [h4] at hxn ⊢
          have h5 := hmin x hx hxn
          rcases Nat.lt_or_ge i t with h6 | h6
          · -- then t ≤ k, and the last node was counted at k
            rcases h.pos with ⟨h7, h8⟩ | h7
            · omega
            · exfalso
              have h8 : t ≤ k := by omega
              have e1 : (c.take t).sum ≤ (c.take k).sum := by
                have := sum_take_le (c.take k) t
                rwa [List.take_take, Nat.min_eq_left h8] at this
              have e2 : (c.take (k + 1)).sum = (c.take k).sum + c.getD k 0 := by
                rw [List.take_succ_eq_append_getElem (by omega), List.sum_append, List.getD_eq_getElem?_getD, List.getElem?_eq_getElem (by omega)]
                simp
              rw [hfull, hsum] at e2
              omega
          · omega
      · have hlt' := hlt
        rw [hs2 t h2 h1, List.take_append_of_le_length (Nat.le_refl _), List.take_length] at hxn ⊢
        have h5 := hmin x hx hxn
        have h6 : t ≤ max k i := h1
        rcases Nat.eq_or_lt_of_le h2 with h7 | h7 <;> omega
end

/-- The cores of a graph all of whose nodes are taken away. -/
theorem KInv.core {s : Int → List Int} {A L : List Int} {k t : Nat} {c : List Nat} (h : KInv s A L k c) (hall : ∀ x ∈ A, x ∈ L) (hs : ∀ x ∈ A, ∀ y ∈ s x, y ∈ A) (ht : t ≤ k + 1) :
    (∀ x ∈ L.drop (c.take t).sum, t ≤ degIn s (L.drop (c.take t).sum) x) ∧ (∀ S : List Int, (∀ x ∈ S, x ∈ A ∧ t ≤ degIn s S x) → ∀ x ∈ S, x ∈ L.drop (c.take t).sum) := by
  generalize hm : (c.take t).sum = m
  have hsplit : ∀ y ∈ A, (y ∈ L.drop m ↔ y ∉ L.take m) := fun y hy => by
    have h1 := hall y hy
    have h2 := h.nd
    rw [← List.take_append_drop m L] at h1 h2
    rw [List.nodup_append] at h2
    rcases List.mem_append.1 h1 with h3 | h3
    · exact ⟨fun h4 => absurd rfl (h2.2.2 y h3 y h4), fun h4 => absurd h3 h4⟩
    · exact ⟨fun h4 h5 => h2.2.2 y h5 y h4 rfl, fun _ => h3⟩
  refine ⟨fun x hx => ?_, fun S hS x hx => ?_⟩
  · have hxA := h.sub x (List.mem_of_mem_drop hx)
    have hlt : m < L.length := by
      rcases Nat.lt_or_ge m L.length with h1 | h1
      · exact h1
      · rw [List.drop_eq_nil_of_le h1] at hx; cases hx
    have h2 := h.out t ht (by omega) x hxA (by rw [hm]; exact (hsplit x hxA).1 hx)
    rw [hm] at h2
    have h3 : degIn s (L.drop m) x = degOut s (L.take m) x := by
      unfold degIn degOut
      congr 1
      refine List.filter_congr fun y hy => ?_
      have := hsplit y (hs x hxA y hy)
      by_cases h4 : y ∈ L.drop m
      · simp [h4, this.1 h4]
      · have h5 : y ∈ L.take m := Classical.byContradiction fun h5 => h4 (this.2 h5)
        simp [h4, h5]
    omega
  · have h2 := h.inn t ht S hS x hx
    rw [hm] at h2
    exact (hsplit x (hS x hx).1).2 h2

theorem KInv.top {s : Int → List Int} {A L : List Int} {k t : Nat} {c : List Nat} (h : KInv s A L k c) (hall : ∀ x ∈ A, x ∈ L) {S : List Int} (hne : S ≠ []) (hS : ∀ x ∈ S, x ∈ A ∧ t ≤ degIn s S x) : t ≤ k := by
  rcases Nat.lt_or_ge k t with h1 | h1
  · exfalso
    obtain ⟨x, hx⟩ := List.exists_mem_of_ne_nil S hne
    have h2 := h.inn (k + 1) (Nat.le_refl _) S (fun y hy => ⟨(hS y hy).1, Nat.le_trans h1 (hS y hy).2⟩) x hx
    have e : c.take (k + 1) = c := List.take_of_length_le (by rw [h.len]; omega)
    rw [e, h.sum, List.take_length] at h2
    exact h2 (hall x (hS x hx).1)
  · exact h1
end Go.Proofs.Ytfihclhceakmdaa
