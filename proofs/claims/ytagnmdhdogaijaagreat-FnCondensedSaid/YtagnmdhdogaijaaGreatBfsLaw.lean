/- What a walk breadth first finds: plain law, no program in sight. -/
import Derived.Test.YtagnmdhdogaijaaGreatBase
namespace Go.Proofs.YtagnmdhdogaijaaGreat

/-- What can be come to. -/
inductive Reach (succ : Int → List Int) (u : Int) : Int → Prop
  | refl : Reach succ u u
  | step {y z : Int} : Reach succ u y → z ∈ succ y → Reach succ u z

theorem Reach.head {succ : Int → List Int} {u y z : Int} (h : y ∈ succ u) (r : Reach succ y z) : Reach succ u z := by
  induction r with
  | refl => exact .step .refl h
  | step _ h' ih => exact .step ih h'

/-- A path from u to another node begins with an edge. -/
theorem reach_step {succ : Int → List Int} {u v : Int} (hne : u ≠ v) : Reach succ u v ↔ ∃ y ∈ succ u, Reach succ y v := by
  constructor
  · intro r
    have : v = u ∨ ∃ y ∈ succ u, Reach succ y v := by
      clear hne
      induction r with
      | refl => exact .inl rfl
      | @step y z r' h ih =>
        right
        rcases ih with e | ⟨x, hx, hr⟩
        · subst e
          exact ⟨z, h, .refl⟩
        · exact ⟨x, hx, .step hr h⟩
    rcases this with e | h
    · exact absurd e.symm hne
    · exact h
  · rintro ⟨y, hy, hr⟩
    exact hr.head hy

/-- Between two nodes: s have been visited, q wait. -/
structure BInv (succ : Int → List Int) (ids : List Int) (u v : Int) (s q : List Int) : Prop where
  sub : ∀ y ∈ s, y ∈ ids
  once : s.Nodup
  reach : ∀ y ∈ s, Reach succ u y
  wait : ∀ y ∈ q, y ∈ s
  done : ∀ y ∈ s, y ∉ q → y ≠ v ∧ ∀ z ∈ succ y, z ∈ s
  start : u ∈ s

/-- Within the successors of t: k of them have been looked at. -/
structure IInv (succ : Int → List Int) (ids : List Int) (u v t : Int) (k : Nat) (s q : List Int) : Prop where
  sub : ∀ y ∈ s, y ∈ ids
  once : s.Nodup
  reach : ∀ y ∈ s, Reach succ u y
  wait : ∀ y ∈ q, y ∈ s
  done : ∀ y ∈ s, y ∉ q → y ≠ t → y ≠ v ∧ ∀ z ∈ succ y, z ∈ s
  start : u ∈ s
  here : t ∈ s
  tv : t ≠ v
  some : ∀ z ∈ (succ t).take k, z ∈ s

theorem BInv.new {succ : Int → List Int} {ids : List Int} {u v : Int} (hu : u ∈ ids) : BInv succ ids u v [u] [u] :=
  ⟨fun y hy => by rw [List.mem_singleton] at hy; exact hy ▸ hu, by simp, fun y hy => by rw [List.mem_singleton] at hy; exact hy ▸ .refl, fun y hy => hy, fun y hy hn => absurd hy hn, by simp⟩

theorem BInv.take {succ : Int → List Int} {ids : List Int} {u v t : Int} {s q : List Int} (h : BInv succ ids u v s (t :: q)) (hv : t ≠ v) : IInv succ ids u v t 0 s q :=
  ⟨h.sub, h.once, h.reach, fun y hy => h.wait y (List.mem_cons_of_mem _ hy), fun y hy hn ht => h.done y hy (fun e => by
    rcases List.mem_cons.1 e with e | e
    · exact ht e
    · exact hn e), h.start, h.wait t List.mem_cons_self, hv, fun z hz => by simp at hz⟩

theorem IInv.old {succ : Int → List Int} {ids : List Int} {u v t : Int} {k : Nat} {s q : List Int} (h : IInv succ ids u v t k s q) (hk : k < (succ t).length) (hx : (succ t)[k] ∈ s) : IInv succ ids u v t (k + 1) s q :=
  ⟨h.sub, h.once, h.reach, h.wait, h.done, h.start, h.here, h.tv, fun z hz => by
    rw [List.take_succ_eq_append_getElem hk] at hz
    rcases List.mem_append.1 hz with hz | hz
    · exact h.some z hz
    · rw [List.mem_singleton] at hz; exact hz ▸ hx⟩

theorem IInv.new {succ : Int → List Int} {ids : List Int} {u v t : Int} {k : Nat} {s q : List Int} (h : IInv succ ids u v t k s q) (hk : k < (succ t).length) (hx : (succ t)[k] ∉ s) (hi : (succ t)[k] ∈ ids) :
    IInv succ ids u v t (k + 1) ((succ t)[k] :: s) (q ++ [(succ t)[k]]) where
  sub := fun y hy => by
    rcases List.mem_cons.1 hy with e | e
    · exact e ▸ hi
    · exact h.sub y e
  once := List.nodup_cons.2 ⟨hx, h.once⟩
  reach := fun y hy => by
    rcases List.mem_cons.1 hy with e | e
    · exact e ▸ .step (h.reach t h.here) (List.getElem_mem hk)
    · exact h.reach y e
  wait := fun y hy => by
    rcases List.mem_append.1 hy with e | e
    · exact List.mem_cons_of_mem _ (h.wait y e)
    · rw [List.mem_singleton] at e; rw [e]; exact List.mem_cons_self
  done := fun y hy hn ht => by
    have hne : y ≠ (succ t)[k] := fun e => hn (List.mem_append.2 (.inr (by rw [e]; simp)))
    rcases List.mem_cons.1 hy with e | e
    · exact absurd e hne
    · obtain ⟨h1, h2⟩ := h.done y e (fun e' => hn (List.mem_append.2 (.inl e'))) ht
      exact ⟨h1, fun z hz => List.mem_cons_of_mem _ (h2 z hz)⟩
  start := List.mem_cons_of_mem _ h.start
  here := List.mem_cons_of_mem _ h.here
  tv := h.tv
  some := fun z hz => by
    rw [List.take_succ_eq_append_getElem hk] at hz
    rcases List.mem_append.1 hz with hz | hz
    · exact List.mem_cons_of_mem _ (h.some z hz)
    · rw [List.mem_singleton] at hz; rw [hz]; exact List.mem_cons_self

theorem IInv.all {succ : Int → List Int} {ids : List Int} {u v t : Int} {k : Nat} {s q : List Int} (h : IInv succ ids u v t k s q) (hk : (succ t).length ≤ k) : BInv succ ids u v s q :=
  ⟨h.sub, h.once, h.reach, h.wait, fun y hy hn => by
    by_cases e : y = t
    · subst e
      exact ⟨h.tv, fun z hz => h.some z (by rw [List.take_of_length_le hk]; exact hz)⟩
    · exact h.done y hy hn e, h.start⟩

/-- Nothing waits: what has not been visited can not be come to. -/
theorem BInv.none {succ : Int → List Int} {ids : List Int} {u v : Int} {s : List Int} (h : BInv succ ids u v s []) : ¬ Reach succ u v := by
  intro r
  have hs : ∀ y, Reach succ u y → y ∈ s := by
    intro y r
    induction r with
    | refl => exact h.start
    | step _ h' ih => exact (h.done _ ih (by simp)).2 _ h'
  exact (h.done v (hs v r) (by simp)).1 rfl

theorem nodup_le {s ids : List Int} (h : s.Nodup) (hs : ∀ y ∈ s, y ∈ ids) : s.length ≤ ids.length := by
  induction s generalizing ids with
  | nil => simp
  | cons a s ih =>
    rw [List.nodup_cons] at h
    have ha := hs a List.mem_cons_self
    have := ih (ids := ids.erase a) h.2 (fun y hy => (List.mem_erase_of_ne (fun e => h.1 (by rw [← e]; exact hy))).2 (hs y (List.mem_cons_of_mem _ hy)))
    rw [List.length_erase_of_mem ha] at this
    have := List.length_pos_of_mem ha
    rw [List.length_cons]; omega

theorem BInv.le {succ : Int → List Int} {ids : List Int} {u v : Int} {s q : List Int} (h : BInv succ ids u v s q) : s.length ≤ ids.length := nodup_le h.once h.sub
theorem IInv.le {succ : Int → List Int} {ids : List Int} {u v t : Int} {k : Nat} {s q : List Int} (h : IInv succ ids u v t k s q) : s.length ≤ ids.length := nodup_le h.once h.sub
end Go.Proofs.YtagnmdhdogaijaaGreat
