/- Plain laws of an insertion sort on lists of ints, and of the list in ascending order. -/
import Derived.Test.YtagnmdhdogaijaaGreatBase
namespace Go.Proofs.YtagnmdhdogaijaaGreat

/-- The numbers in ascending order. -/
def asc (zs : List Int) : List Int := zs.mergeSort fun a b => decide (a ≤ b)

theorem asc_perm (zs : List Int) : (asc zs).Perm zs := List.mergeSort_perm _ _
theorem asc_length (zs : List Int) : (asc zs).length = zs.length := (asc_perm zs).length_eq
theorem asc_mem {zs : List Int} {x : Int} : x ∈ asc zs ↔ x ∈ zs := (asc_perm zs).mem_iff
theorem asc_sorted (zs : List Int) : (asc zs).Pairwise (· ≤ ·) := by
  have := List.pairwise_mergeSort (le := fun a b : Int => decide (a ≤ b)) (fun a b c h1 h2 => by simp at *; omega) (fun a b => by simp; omega) zs
  exact this.imp fun h => by simpa using h

/-- A sorted permutation is the list in ascending order. -/
theorem asc_unique {zs ys : List Int} (hp : ys.Perm zs) (hs : ys.Pairwise (· ≤ ·)) : ys = asc zs :=
  (hp.trans (asc_perm zs).symm).eq_of_pairwise (le := (· ≤ ·)) (fun a b _ _ h1 h2 => by omega) hs (asc_sorted zs)

/-- The first k ascend. -/
def SortedTo (ys : List Int) (k : Nat) : Prop := ∀ a b (hb : b < ys.length), (hab : a < b) → b < k → ys[a]'(Nat.lt_trans hab hb) ≤ ys[b]
/-- The first k + 1 ascend, but for the one at i, of which it is known that those behind it are not less. -/
def SortedBut (ys : List Int) (i k : Nat) : Prop := ∀ a b (hb : b < ys.length), (hab : a < b) → b ≤ k → b ≠ i → ys[a]'(Nat.lt_trans hab hb) ≤ ys[b]

theorem sortedTo_one (ys : List Int) : SortedTo ys 1 := fun a b _ h1 h2 => by omega
theorem SortedTo.but {ys : List Int} {k : Nat} (h : SortedTo ys k) : SortedBut ys k k := fun a b hb h1 h2 h3 => h a b hb h1 (by omega)
theorem SortedBut.done {ys : List Int} {i k : Nat} (h : SortedBut ys i k) (hi : ∀ (_ : 0 < i) (hl : i < ys.length), ys[i - 1] ≤ ys[i]) : SortedTo ys (k + 1) := by
  intro a b hb h1 h2
  by_cases e : b = i
  · subst e
    have h0 := hi (by omega) hb
    by_cases e2 : a = b - 1
    · subst e2; exact h0
    · have := h a (b - 1) (by omega) (by omega) (by omega) (by omega)
      omega
  · exact h a b hb h1 (by omega) e
theorem SortedTo.all {ys : List Int} {k : Nat} (h : SortedTo ys k) (hk : ys.length ≤ k) : ys.Pairwise (· ≤ ·) := by
  rw [List.pairwise_iff_getElem]
  intro i j hi hj hij
  exact h i j hj hij (by omega)

/-- Two neighbours changed about. -/
def swap1 (ys : List Int) (i : Nat) : List Int := (ys.set i (ys.getD (i - 1) 0)).set (i - 1) (ys.getD i 0)
theorem swap1_length (ys : List Int) (i : Nat) : (swap1 ys i).length = ys.length := by simp [swap1]
theorem swap1_get (ys : List Int) (i : Nat) (h0 : 0 < i) (hi : i < ys.length) (j : Nat) (hj : j < (swap1 ys i).length) :
    (swap1 ys i)[j] = if j = i - 1 then ys[i] else if j = i then ys[i - 1] else ys[j]'(by rw [swap1_length] at hj; exact hj) := by
  have e1 : ys.getD i 0 = ys[i] := by simp [hi]
  have e2 : ys.getD (i - 1) 0 = ys[i - 1]'(by omega) := by simp [show i - 1 < ys.length by omega]
  have e : swap1 ys i = (ys.set i (ys[i - 1]'(by omega))).set (i - 1) ys[i] := by rw [swap1, e1, e2]
  rw [List.getElem_of_eq e, List.getElem_set, List.getElem_set]
  by_cases h1 : j = i - 1
  · rw [if_pos h1.symm, if_pos h1]
  · rw [if_neg (fun e => h1 e.symm), if_neg h1]
    by_cases h2 : j = i
    · rw [if_pos h2.symm, if_pos h2]
    · rw [if_neg (fun e => h2 e.symm), if_neg h2]
theorem swap1_perm (ys : List Int) (i : Nat) (h0 : 0 < i) (hi : i < ys.length) : (swap1 ys i).Perm ys := by
  have h1 : i - 1 < ys.length := by omega
  have e1 : ys.getD i 0 = ys[i] := by simp [hi]
  have e2 : ys.getD (i - 1) 0 = ys[i - 1]'(by omega) := by simp [h1]
  unfold swap1
  rw [e1, e2]
  exact List.set_set_perm hi h1
theorem SortedBut.swap {ys : List Int} {i k : Nat} (h : SortedBut ys i k) (h0 : 0 < i) (hik : i ≤ k) (hk : k < ys.length) (hlt : ys[i] < ys[i - 1]) : SortedBut (swap1 ys i) (i - 1) k := by
  intro a b hb h1 h2 h3
  have hb' : b < ys.length := by rw [swap1_length] at hb; exact hb
  rw [swap1_get ys i h0 (by omega) a (by omega), swap1_get ys i h0 (by omega) b hb]
  rw [if_neg h3]
  by_cases e1 : a = i - 1
  · rw [if_pos e1]
    by_cases e2 : b = i
    · rw [if_pos e2]; omega
    · rw [if_neg e2]
      exact h i b hb' (by omega) h2 e2
  · rw [if_neg e1]
    by_cases e2 : a = i
    · rw [if_pos e2, if_neg (by omega)]
      exact h (i - 1) b hb' (by omega) h2 (by omega)
    · rw [if_neg e2]
      by_cases e3 : b = i
      · rw [if_pos e3]
        exact h a (i - 1) (by omega) (by omega) (by omega) (by omega)
      · rw [if_neg e3]
        exact h a b hb' h1 h2 e3

theorem incr_asc (zs : List Int) : incr (asc zs) = decide zs.Nodup := by
  have h : (asc zs).Pairwise (· < ·) ↔ zs.Nodup := by
    constructor
    · intro h
      exact ((asc_perm zs).nodup_iff).1 (h.imp fun h => by omega)
    · intro h
      have hn : (asc zs).Nodup := ((asc_perm zs).nodup_iff).2 h
      exact (hn.and (asc_sorted zs)).imp fun ⟨h1, h2⟩ => by omega
  unfold incr
  simp only [h]
end Go.Proofs.YtagnmdhdogaijaaGreat
