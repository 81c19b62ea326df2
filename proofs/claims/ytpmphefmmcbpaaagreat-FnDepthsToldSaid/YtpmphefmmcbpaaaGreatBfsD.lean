/- The walk breadth first with its depths: the plain law. -/
import Derived.Test.YtpmphefmmcbpaaaGreatTarjanLaw
namespace Go.Proofs.YtpmphefmmcbpaaaGreat

section
variable (succ : Int → List Int) (u : Int)

/-- There is a walk of so many edges. -/
inductive HopN : Nat → Int → Prop
  | zero : HopN 0 u
  | step {k : Nat} {x y : Int} : HopN k x → y ∈ succ x → HopN (k + 1) y

/-- The least number of edges. -/
def Dist (k : Nat) (x : Int) : Prop := HopN succ u k x ∧ ∀ j, HopN succ u j x → k ≤ j

theorem HopN.reach {k : Nat} {x : Int} (h : HopN succ u k x) : Reach succ u x := by
  induction h with
  | zero => exact .refl
  | step _ hy ih => exact ih.step hy

theorem Dist.same {k j : Nat} {x : Int} (h : Dist succ u k x) (h' : Dist succ u j x) : k = j := Nat.le_antisymm (h.2 j h'.1) (h'.2 k h.1)
theorem Dist.zero : Dist succ u 0 u := ⟨.zero, fun _ _ => Nat.zero_le _⟩

/-- Ahead of a round: P was gone from (with the depths), Q1 waits at the depth d, Q2 at the next one. -/
structure QInv (v : Int) (d : Nat) (P : List (Int × Int)) (Q1 Q2 : List Int) : Prop where
  nd : (P.map Prod.fst ++ (Q1 ++ Q2)).Nodup
  start : u ∈ P.map Prod.fst ++ (Q1 ++ Q2)
  pd : ∀ p ∈ P, ∃ k : Nat, p.2 = (k : Int) ∧ k ≤ d ∧ Dist succ u k p.1
  d1 : ∀ x ∈ Q1, Dist succ u d x
  d2 : ∀ x ∈ Q2, Dist succ u (d + 1) x
  shut : ∀ x ∈ P.map Prod.fst, x ≠ v ∧ ∀ y ∈ succ x, y ∈ P.map Prod.fst ++ (Q1 ++ Q2)
  near : ∀ k x, k < d → HopN succ u k x → x ∈ P.map Prod.fst
  full : Q1 = [] → Q2 = []

/-- Within a round: t is gone from, T of its edges were seen. -/
structure RInv (v : Int) (d : Nat) (P : List (Int × Int)) (t : Int) (Q1 Q2 T : List Int) : Prop where
  nd : (P.map Prod.fst ++ t :: (Q1 ++ Q2)).Nodup
  start : u ∈ P.map Prod.fst ++ t :: (Q1 ++ Q2)
  pd : ∀ p ∈ P, ∃ k : Nat, p.2 = (k : Int) ∧ k ≤ d ∧ Dist succ u k p.1
  dt : Dist succ u d t
  d1 : ∀ x ∈ Q1, Dist succ u d x
  d2 : ∀ x ∈ Q2, Dist succ u (d + 1) x
  shut : ∀ x ∈ P.map Prod.fst, x ≠ v ∧ ∀ y ∈ succ x, y ∈ P.map Prod.fst ++ t :: (Q1 ++ Q2)
  near : ∀ k x, k < d → HopN succ u k x → x ∈ P.map Prod.fst
  tv : t ≠ v
  some : ∀ y ∈ T, y ∈ P.map Prod.fst ++ t :: (Q1 ++ Q2)

theorem QInv.new (v : Int) : QInv succ u v 0 [] [u] [] :=
  ⟨by simp, by simp, by simp, fun x hx => by rw [List.mem_singleton.1 hx]; exact Dist.zero succ u, by simp, by simp, fun k x hk => by omega, by simp⟩

variable {succ u}

theorem QInv.take {v : Int} {d : Nat} {P : List (Int × Int)} {t : Int} {Q1 Q2 : List Int} (h : QInv succ u v d P (t :: Q1) Q2) (ht : t ≠ v) : RInv succ u v d P t Q1 Q2 [] :=
  ⟨h.nd, h.start, h.pd, h.d1 t List.mem_cons_self, fun x hx => h.d1 x (List.mem_cons_of_mem _ hx), h.d2, h.shut, h.near, ht, by simp⟩

theorem RInv.seen {v : Int} {d : Nat} {P : List (Int × Int)} {t : Int} {Q1 Q2 T : List Int} (h : RInv succ u v d P t Q1 Q2 T) {x : Int} (hx : x ∈ P.map Prod.fst ++ t :: (Q1 ++ Q2)) : RInv succ u v d P t Q1 Q2 (T ++ [x]) :=
  ⟨h.nd, h.start, h.pd, h.dt, h.d1, h.d2, h.shut, h.near, h.tv, fun y hy => by
    rcases List.mem_append.1 hy with hy | hy
    · exact h.some y hy
    · rw [List.mem_singleton.1 hy]; exact hx⟩

theorem RInv.close {v : Int} {d : Nat} {P : List (Int × Int)} {t : Int} {Q1 Q2 T : List Int} (h : RInv succ u v d P t Q1 Q2 T) {k : Nat} (hk : k ≤ d) {x : Int} (hx : HopN succ u k x) : x ∈ P.map Prod.fst ++ t :: (Q1 ++ Q2) := by
  cases hx with
  | zero => exact h.start
  | step h1 h2 => exact (h.shut _ (h.near _ _ (by omega) h1)).2 _ h2

theorem RInv.new {v : Int} {d : Nat} {P : List (Int × Int)} {t : Int} {Q1 Q2 T : List Int} (h : RInv succ u v d P t Q1 Q2 T) {x : Int} (hs : x ∈ succ t) (hx : x ∉ P.map Prod.fst ++ t :: (Q1 ++ Q2)) : RInv succ u v d P t Q1 (Q2 ++ [x]) (T ++ [x]) := by
  have e : P.map Prod.fst ++ t :: (Q1 ++ (Q2 ++ [x])) = (P.map Prod.fst ++ t :: (Q1 ++ Q2)) ++ [x] := by simp
  have up : ∀ y, y ∈ P.map Prod.fst ++ t :: (Q1 ++ Q2) → y ∈ P.map Prod.fst ++ t :: (Q1 ++ (Q2 ++ [x])) := fun y hy => by rw [e]; exact List.mem_append_left _ hy
  refine ⟨?_, up _ h.start, h.pd, h.dt, h.d1, fun y hy => ?_, fun y hy => ⟨(h.shut y hy).1, fun z hz => up _ ((h.shut y hy).2 z hz)⟩, h.near, h.tv, fun y hy => ?_⟩
  · rw [e, List.nodup_append]
    exact ⟨h.nd, by simp, fun a ha b hb e' => hx (by rw [List.mem_singleton.1 hb] at e'; exact e' ▸ ha)⟩
  · rcases List.mem_append.1 hy with hy | hy
    · exact h.d2 y hy
    · rw [List.mem_singleton.1 hy]
      refine ⟨.step h.dt.1 hs, fun j hj => ?_⟩
      by_cases hjd : j ≤ d
      · exact absurd (h.close hjd hj) hx
      · omega
  · rcases List.mem_append.1 hy with hy | hy
    · exact up _ (h.some y hy)
    · rw [List.mem_singleton.1 hy, e]; simp

theorem RInv.next {v : Int} {d : Nat} {P : List (Int × Int)} {t : Int} {Q1 Q2 T : List Int} (h : RInv succ u v d P t Q1 Q2 T) (hT : ∀ y ∈ succ t, y ∈ T) (hq : Q1 ≠ []) : QInv succ u v d (P ++ [(t, (d : Int))]) Q1 Q2 := by
  have e : (P ++ [(t, (d : Int))]).map Prod.fst ++ (Q1 ++ Q2) = P.map Prod.fst ++ t :: (Q1 ++ Q2) := by simp
  refine ⟨e ▸ h.nd, e ▸ h.start, fun p hp => ?_, h.d1, h.d2, fun x hx => ?_, fun k x hk hx => ?_, fun e' => absurd e' hq⟩
  · rcases List.mem_append.1 hp with hp | hp
    · exact h.pd p hp
    · rw [List.mem_singleton.1 hp]; exact ⟨d, rfl, Nat.le_refl _, h.dt⟩
  · rw [e]
    rw [List.map_append, List.mem_append] at hx
    rcases hx with hx | hx
    · exact h.shut x hx
    · have : x = t := by simpa using hx
      rw [this]; exact ⟨h.tv, fun y hy => h.some y (hT y hy)⟩
  · rw [List.map_append]; exact List.mem_append_left _ (h.near k x hk hx)

theorem RInv.turn {v : Int} {d : Nat} {P : List (Int × Int)} {t : Int} {Q2 T : List Int} (h : RInv succ u v d P t [] Q2 T) (hT : ∀ y ∈ succ t, y ∈ T) : QInv succ u v (d + 1) (P ++ [(t, (d : Int))]) Q2 [] := by
  have e : (P ++ [(t, (d : Int))]).map Prod.fst ++ (Q2 ++ []) = P.map Prod.fst ++ t :: ([] ++ Q2) := by simp
  refine ⟨e ▸ h.nd, e ▸ h.start, fun p hp => ?_, h.d2, by simp, fun x hx => ?_, fun k x hk hx => ?_, fun _ => rfl⟩
  · rcases List.mem_append.1 hp with hp | hp
    · obtain ⟨k, h1, h2, h3⟩ := h.pd p hp
      exact ⟨k, h1, by omega, h3⟩
    · rw [List.mem_singleton.1 hp]; exact ⟨d, rfl, by omega, h.dt⟩
  · rw [e]
    rw [List.map_append, List.mem_append] at hx
    rcases hx with hx | hx
    · exact h.shut x hx
    · have : x = t := by simpa using hx
      rw [this]; exact ⟨h.tv, fun y hy => h.some y (hT y hy)⟩
  · have hm := h.close (Nat.lt_succ_iff.1 hk) hx
    rw [List.map_append, List.mem_append]
    rcases List.mem_append.1 hm with hm | hm
    · exact .inl hm
    · rcases List.mem_cons.1 hm with rfl | hm
      · right; simp
      · rw [List.nil_append] at hm
        have := (h.d2 x hm).2 k hx
        omega

theorem QInv.all {v : Int} {d : Nat} {P : List (Int × Int)} (h : QInv succ u v d P [] []) {x : Int} (hx : Reach succ u x) : x ∈ P.map Prod.fst := by
  induction hx with
  | refl => have := h.start; simpa using this
  | step _ hy ih => have := (h.shut _ ih).2 _ hy; simpa using this

theorem QInv.reach {v : Int} {d : Nat} {P : List (Int × Int)} {Q1 Q2 : List Int} (h : QInv succ u v d P Q1 Q2) : ∀ x ∈ P.map Prod.fst ++ (Q1 ++ Q2), Reach succ u x := fun x hx => by
  rcases List.mem_append.1 hx with hx | hx
  · obtain ⟨p, hp, rfl⟩ := List.mem_map.1 hx
    obtain ⟨k, _, _, h3⟩ := h.pd p hp
    exact h3.1.reach
  · rcases List.mem_append.1 hx with hx | hx
    · exact (h.d1 x hx).1.reach
    · exact (h.d2 x hx).1.reach

theorem RInv.reach {v : Int} {d : Nat} {P : List (Int × Int)} {t : Int} {Q1 Q2 T : List Int} (h : RInv succ u v d P t Q1 Q2 T) : ∀ x ∈ P.map Prod.fst ++ t :: (Q1 ++ Q2), Reach succ u x := fun x hx => by
  rcases List.mem_append.1 hx with hx | hx
  · obtain ⟨p, hp, rfl⟩ := List.mem_map.1 hx
    obtain ⟨k, _, _, h3⟩ := h.pd p hp
    exact h3.1.reach
  · rcases List.mem_cons.1 hx with rfl | hx
    · exact h.dt.1.reach
    · rcases List.mem_append.1 hx with hx | hx
      · exact (h.d1 x hx).1.reach
      · exact (h.d2 x hx).1.reach

/-- What a walk has noted: those gone from, with their depths; those that wait, without. -/
def noted (P : List (Int × Int)) (Q : List Int) : List (Int × Int) := P ++ Q.map fun x => (x, -1)

/-- A node's depth set. -/
def setD (L : List (Int × Int)) (t d : Int) : List (Int × Int) := L.map fun p => if p.1 = t then (p.1, d) else p

theorem noted_fst (P : List (Int × Int)) (Q : List Int) : (noted P Q).map Prod.fst = P.map Prod.fst ++ Q := by
  unfold noted
  rw [List.map_append, List.map_map]
  congr 1
  exact (List.map_congr_left fun _ _ => rfl).trans (List.map_id _)

theorem setD_away {L : List (Int × Int)} {t d : Int} (h : t ∉ L.map Prod.fst) : setD L t d = L := by
  unfold setD
  refine (List.map_congr_left fun p hp => ?_).trans (List.map_id _)
  have hn : p.1 ≠ t := fun e => h (by rw [← e]; exact List.mem_map_of_mem hp)
  rw [if_neg hn]; rfl

theorem setD_noted {P : List (Int × Int)} {t d : Int} {Q : List Int} (h : (P.map Prod.fst ++ t :: Q).Nodup) : setD (noted P (t :: Q)) t d = noted (P ++ [(t, d)]) Q := by
  rw [List.nodup_append, List.nodup_cons] at h
  have h1 : t ∉ P.map Prod.fst := fun hm => h.2.2 t hm t List.mem_cons_self rfl
  have h2 : t ∉ (Q.map fun x => (x, (-1 : Int))).map Prod.fst := by
    have := noted_fst [] Q
    simp only [noted, List.nil_append, List.map_nil] at this
    rw [this]; exact h.2.1.1
  have e : noted P (t :: Q) = P ++ ((t, -1) :: Q.map fun x => (x, (-1 : Int))) := rfl
  have e2 : setD (P ++ ((t, -1) :: Q.map fun x => (x, (-1 : Int)))) t d = setD P t d ++ ((t, d) :: setD (Q.map fun x => (x, (-1 : Int))) t d) := by
    unfold setD
    rw [List.map_append, List.map_cons, if_pos rfl]
  rw [e, e2, setD_away h1, setD_away h2]
  unfold noted
  rw [List.append_assoc]; rfl
end
end Go.Proofs.YtpmphefmmcbpaaaGreat
