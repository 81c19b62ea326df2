/- laws.reach, pure: Warshall's rounds on a table of Booleans, and that they tell what can be come to. -/
import Derived.Test.YtagnmdhdogaijaaGreatTable
import Derived.Test.YtagnmdhdogaijaaGreatTarjanLaw
namespace Go.Proofs.YtagnmdhdogaijaaGreat

/-- A cell of a table of Booleans turned into something. -/
def putB (t : List (List Bool)) (i k : Nat) (b : Bool) : List (List Bool) := t.modify i fun l => l.set k b

theorem square_put {n : Nat} {t : List (List Bool)} (h : Square n t) (i k : Nat) (b : Bool) : Square n (putB t i k b) := square_modify h i k b

theorem atB_put {n : Nat} {t : List (List Bool)} (h : Square n t) (i k a b : Nat) (x : Bool) (ha : a < n) (hb : b < n) : atB (putB t i k x) a b = if i = a ∧ k = b then x else atB t a b := by
  have hal : a < t.length := by rw [h.1]; exact ha
  have hbl : b < t[a].length := by rw [h.2 _ (List.getElem_mem hal)]; exact hb
  unfold atB putB
  rw [List.getD_eq_getElem?_getD, List.getD_eq_getElem?_getD, List.getElem?_modify]
  by_cases hia : i = a
  · subst hia
    rw [List.getElem?_eq_getElem hal]
    by_cases hkb : k = b
    · subst hkb; simp [hbl]
    · simp [hkb, hal]
  · simp [hia, hal]

/-- A row joined with another one, up to a place. -/
def joinTo (R : List (List Bool)) (u k : Nat) : Nat → List (List Bool)
  | 0 => R
  | v + 1 => putB (joinTo R u k v) u v (atB (joinTo R u k v) u v || atB (joinTo R u k v) k v)

theorem joinTo_square {n : Nat} {R : List (List Bool)} (h : Square n R) (u k : Nat) : ∀ v, Square n (joinTo R u k v)
  | 0 => h
  | v + 1 => square_put (joinTo_square h u k v) _ _ _

theorem joinTo_at {n : Nat} {R : List (List Bool)} (h : Square n R) {u k : Nat} (hu : u < n) (hk : k < n) : ∀ v, v ≤ n → ∀ a b, a < n → b < n → atB (joinTo R u k v) a b = if a = u ∧ b < v then atB R u b || atB R k b else atB R a b
  | 0, _, a, b, _, _ => by simp [joinTo]
  | v + 1, hv, a, b, ha, hb => by
    have ih := joinTo_at h hu hk v (by omega)
    have e1 : atB (joinTo R u k v) u v = atB R u v := by rw [ih u v hu (by omega)]; simp
    have e2 : atB (joinTo R u k v) k v = atB R k v := by rw [ih k v hk (by omega)]; simp
    unfold joinTo
    rw [atB_put (joinTo_square h u k v) _ _ _ _ _ ha hb, e1, e2, ih a b ha hb]
    by_cases hua : u = a
    · subst hua
      by_cases hvb : v = b
      · subst hvb; simp
      · have : (b < v + 1) = (b < v) := by apply propext; constructor <;> intro <;> omega
        simp [hvb, this]
    · have hau : a ≠ u := fun e => hua e.symm
      simp [hua, hau]

theorem joinTo_mono {n : Nat} {R : List (List Bool)} (h : Square n R) {u k a b : Nat} (hu : u < n) (hk : k < n) (ha : a < n) (hb : b < n) (v : Nat) (hv : v ≤ n) (ht : atB R a b = true) : atB (joinTo R u k v) a b = true := by
  rw [joinTo_at h hu hk v hv a b ha hb]
  split
  · rename_i hc
    obtain ⟨rfl, _⟩ := hc
    rw [ht]; rfl
  · exact ht

def rowTo (n : Nat) (R : List (List Bool)) (k u : Nat) : List (List Bool) := if atB R u k then joinTo R u k n else R
theorem rowTo_square {n : Nat} {R : List (List Bool)} (h : Square n R) (k u : Nat) : Square n (rowTo n R k u) := by
  unfold rowTo; split
  · exact joinTo_square h u k n
  · exact h
theorem rowTo_at {n : Nat} {R : List (List Bool)} (h : Square n R) {u k a b : Nat} (hu : u < n) (hk : k < n) (ha : a < n) (hb : b < n) : atB (rowTo n R k u) a b = if a = u then atB R u b || (atB R u k && atB R k b) else atB R a b := by
  unfold rowTo
  by_cases hc : atB R u k = true
  · rw [if_pos hc, joinTo_at h hu hk n (Nat.le_refl _) a b ha hb, hc]
    simp [hb]
  · rw [if_neg hc]
    have : atB R u k = false := by simpa using hc
    rw [this]
    split
    · rename_i e; subst e; simp
    · rfl

/-- The rows ahead of u joined with row k. -/
def roundTo (n : Nat) (R : List (List Bool)) (k : Nat) : Nat → List (List Bool)
  | 0 => R
  | u + 1 => rowTo n (roundTo n R k u) k u
theorem roundTo_square {n : Nat} {R : List (List Bool)} (h : Square n R) (k : Nat) : ∀ u, Square n (roundTo n R k u)
  | 0 => h
  | u + 1 => rowTo_square (roundTo_square h k u) k u
theorem roundTo_at {n : Nat} {R : List (List Bool)} (h : Square n R) {k : Nat} (hk : k < n) : ∀ u, u ≤ n → ∀ a b, a < n → b < n → atB (roundTo n R k u) a b = if a < u then atB R a b || (atB R a k && atB R k b) else atB R a b
  | 0, _, a, b, _, _ => by simp [roundTo]
  | u + 1, hu, a, b, ha, hb => by
    have ih := roundTo_at h hk u (by omega)
    have hsq := roundTo_square h k u
    unfold roundTo
    rw [rowTo_at hsq (by omega) hk ha hb]
    have hkb : atB (roundTo n R k u) k b = atB R k b := by
      rw [ih k b hk hb]
      split
      · cases atB R k b <;> simp
      · rfl
    by_cases hau : a = u
    · subst hau
      rw [if_pos rfl, ih a b ha hb, ih a k ha hk, hkb]
      simp
    · rw [if_neg hau, ih a b ha hb]
      by_cases h1 : a < u
      · rw [if_pos h1, if_pos (by omega)]
      · rw [if_neg h1, if_neg (by omega)]

/-- The first k rounds. -/
def wars (n : Nat) (R : List (List Bool)) : Nat → List (List Bool)
  | 0 => R
  | k + 1 => roundTo n (wars n R k) k n
theorem wars_square {n : Nat} {R : List (List Bool)} (h : Square n R) : ∀ k, Square n (wars n R k)
  | 0 => h
  | k + 1 => roundTo_square (wars_square h k) k n
theorem wars_at {n : Nat} {R : List (List Bool)} (h : Square n R) {k a b : Nat} (hk : k < n) (ha : a < n) (hb : b < n) : atB (wars n R (k + 1)) a b = (atB (wars n R k) a b || (atB (wars n R k) a k && atB (wars n R k) k b)) := by
  show atB (roundTo n (wars n R k) k n) a b = _
  rw [roundTo_at (wars_square h k) hk n (Nat.le_refl _) a b ha hb, if_pos ha]

theorem wars_keeps {n : Nat} {R : List (List Bool)} (h : Square n R) {a b : Nat} (ha : a < n) (hb : b < n) (ht : atB R a b = true) : ∀ k, k ≤ n → atB (wars n R k) a b = true
  | 0, _ => ht
  | k + 1, hk => by rw [wars_at h (by omega) ha hb, wars_keeps h ha hb ht k (by omega)]; rfl

theorem wars_sound {n : Nat} {R : List (List Bool)} (h : Square n R) (P : Nat → Nat → Prop) (htr : ∀ a b c, P a b → P b c → P a c) (h0 : ∀ a b, a < n → b < n → atB R a b = true → P a b) : ∀ k, k ≤ n → ∀ a b, a < n → b < n → atB (wars n R k) a b = true → P a b
  | 0, _ => h0
  | k + 1, hk => fun a b ha hb ht => by
    have ih := wars_sound h P htr h0 k (by omega)
    rw [wars_at h (by omega) ha hb, Bool.or_eq_true, Bool.and_eq_true] at ht
    rcases ht with ht | ⟨h1, h2⟩
    · exact ih a b ha hb ht
    · exact htr _ _ _ (ih a k ha (by omega) h1) (ih k b (by omega) hb h2)

theorem wars_closed {n : Nat} {R : List (List Bool)} (h : Square n R) : ∀ k, k ≤ n → ∀ j, j < k → ∀ a b, a < n → b < n → atB (wars n R k) a j = true → atB (wars n R k) j b = true → atB (wars n R k) a b = true
  | 0, _, j, hj => by omega
  | k + 1, hk, j, hj => fun a b ha hb h1 h2 => by
    have ih := wars_closed h k (by omega)
    have hkn : k < n := by omega
    have hjn : j < n := by omega
    rw [wars_at h hkn ha hjn, Bool.or_eq_true, Bool.and_eq_true] at h1
    rw [wars_at h hkn hjn hb, Bool.or_eq_true, Bool.and_eq_true] at h2
    rw [wars_at h hkn ha hb, Bool.or_eq_true, Bool.and_eq_true]
    by_cases hjk : j = k
    · subst hjk
      have e1 : atB (wars n R j) a j = true := h1.elim id And.left
      have e2 : atB (wars n R j) j b = true := h2.elim id And.right
      exact .inr ⟨e1, e2⟩
    · have hlt : j < k := by omega
      rcases h1 with h1 | ⟨h1, h3⟩ <;> rcases h2 with h2 | ⟨h2, h4⟩
      · exact .inl (ih j hlt a b ha hb h1 h2)
      · exact .inr ⟨ih j hlt a k ha hkn h1 h2, h4⟩
      · exact .inr ⟨h1, ih j hlt k b hkn hb h3 h2⟩
      · exact .inr ⟨h1, h4⟩

/-- The table with its diagonal, its first k rows. -/
def diagTo (t : List (List Bool)) (k : Nat) : List (List Bool) := (List.range k).map fun u => (t.getD u []).set u true
theorem diagTo_square {n : Nat} {t : List (List Bool)} (h : Square n t) : Square n (diagTo t n) := by
  refine ⟨by simp [diagTo], fun l hl => ?_⟩
  obtain ⟨u, hu, rfl⟩ := List.mem_map.1 hl
  have hu' : u < t.length := by rw [h.1]; exact List.mem_range.1 hu
  rw [List.length_set]
  have e : t.getD u [] = t[u] := by simp [hu']
  rw [e]
  exact h.2 _ (List.getElem_mem hu')
theorem diagTo_at {n : Nat} {t : List (List Bool)} (h : Square n t) {a b : Nat} (ha : a < n) (hb : b < n) : atB (diagTo t n) a b = (decide (a = b) || atB t a b) := by
  have hal : a < t.length := by rw [h.1]; exact ha
  have hbl : b < t[a].length := by rw [h.2 _ (List.getElem_mem hal)]; exact hb
  unfold atB diagTo
  have e : ((List.range n).map fun u => (t.getD u []).set u true).getD a [] = (t.getD a []).set a true := by
    simp [ha]
  rw [e]
  by_cases hab : a = b
  · subst hab; simp [hal, hbl]
  · simp [hab, List.getElem?_set_ne hab]

/-- What reach tells: where one can come to. -/
def reachP (n : Nat) (t : List (List Bool)) : List (List Bool) := wars n (diagTo t n) n

theorem reachP_iff {n : Nat} {t : List (List Bool)} (h : Square n t) (P : Nat → Nat → Prop) (hr : ∀ a, P a a) (htr : ∀ a b c, P a b → P b c → P a c) (harc : ∀ a b, a < n → b < n → atB t a b = true → P a b)
    (hind : ∀ Q : Nat → Nat → Prop, (∀ a, a < n → Q a a) → (∀ a b c, a < n → b < n → c < n → Q a b → atB t b c = true → Q a c) → ∀ a b, a < n → b < n → P a b → Q a b) {a b : Nat} (ha : a < n) (hb : b < n) : atB (reachP n t) a b = true ↔ P a b := by
  have hsq := diagTo_square h
  constructor
  · refine wars_sound hsq P htr (fun a b ha hb ht => ?_) n (Nat.le_refl _) a b ha hb
    rw [diagTo_at h ha hb, Bool.or_eq_true] at ht
    rcases ht with ht | ht
    · have := of_decide_eq_true ht
      subst this; exact hr a
    · exact harc a b ha hb ht
  · refine hind (fun a b => atB (reachP n t) a b = true) (fun a ha => ?_) (fun a b c ha hb hc h1 h2 => ?_) a b ha hb
    · exact wars_keeps hsq ha ha (by rw [diagTo_at h ha ha]; simp) n (Nat.le_refl _)
    · have h3 : atB (reachP n t) b c = true := wars_keeps hsq hb hc (by rw [diagTo_at h hb hc, h2]; simp) n (Nat.le_refl _)
      exact wars_closed hsq n (Nat.le_refl _) b hb a c ha hc h1 h3
end Go.Proofs.YtagnmdhdogaijaaGreat
