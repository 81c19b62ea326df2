/- Both walks: what each finds, and that they agree. -/
import Derived.Test.YtpmphefmmcbpaaaGreatBfsD
import Derived.Test.YtpmphefmmcbpaaaGreatDfsLaw
import Derived.Test.YtpmphefmmcbpaaaGreatBase
namespace Go.Proofs.YtpmphefmmcbpaaaGreat

section
variable {succ : Int → List Int} {u v : Int}

/-- What a walk depth first for v has found. -/
def DEnd (succ : Int → List Int) (u v : Int) (V : List Int) (ok : Bool) : Prop :=
  (ok = false ∧ DWalk succ u V ∧ v ∉ V) ∨ (ok = true ∧ ∃ V0 S, V = V0 ++ [v] ∧ DInv succ u V S)

/-- What a walk breadth first for v has found. -/
def BEnd (succ : Int → List Int) (u v : Int) (L : List (Int × Int)) (ok : Bool) : Prop :=
  (ok = false ∧ ∃ d, QInv succ u v d L [] []) ∨ (ok = true ∧ ∃ (d : Nat) (P : List (Int × Int)) (Q1 Q2 : List Int), L = noted (P ++ [(v, (d : Int))]) (Q1 ++ Q2) ∧ QInv succ u v d P (v :: Q1) Q2)

theorem DWalk.all {V : List Int} (h : DWalk succ u V) {x : Int} (hx : Reach succ u x) : x ∈ V := by
  induction hx with
  | refl =>
    have h1 := h.first
    have h2 := h.ne
    match V, h1, h2 with
    | a :: V, h1, _ => exact h1 ▸ List.mem_cons_self
  | step _ hy ih => exact h.shut _ ih _ hy

theorem DEnd.ok_iff {V : List Int} {ok : Bool} (h : DEnd succ u v V ok) : ok = true ↔ Reach succ u v := by
  rcases h with ⟨rfl, h1, h2⟩ | ⟨rfl, V0, S, rfl, hI⟩
  · exact ⟨fun e => by (cases e), fun r => absurd (h1.all r) h2⟩
  · exact ⟨fun _ => hI.reach v (by simp), fun _ => rfl⟩

theorem BEnd.ok_iff {L : List (Int × Int)} {ok : Bool} (h : BEnd succ u v L ok) : ok = true ↔ Reach succ u v := by
  rcases h with ⟨rfl, d, hI⟩ | ⟨rfl, d, P, Q1, Q2, rfl, hI⟩
  · exact ⟨fun e => by (cases e), fun r => absurd rfl (hI.shut v (hI.all r)).1⟩
  · exact ⟨fun _ => (hI.d1 v List.mem_cons_self).1.reach, fun _ => rfl⟩

/-- Both find the end, or neither does. -/
theorem ends_same {V : List Int} {L : List (Int × Int)} {ok is : Bool} (h : BEnd succ u v L ok) (h' : DEnd succ u v V is) : ok = is := by
  rw [Bool.eq_iff_iff, h.ok_iff, h'.ok_iff]

/-- Where none finds the end both visit the same nodes. -/
theorem ends_agree {V : List Int} {L : List (Int × Int)} (h : BEnd succ u v L false) (h' : DEnd succ u v V false) : asc (L.map Prod.fst) = asc V := by
  rcases h with ⟨_, d, hI⟩ | ⟨e, _⟩
  · rcases h' with ⟨_, hD, _⟩ | ⟨e, _⟩
    · refine asc_unique ?_ (asc_sorted _)
      refine (asc_perm _).trans ?_
      have hn := hI.nd
      rw [List.append_nil, List.append_nil] at hn
      refine (List.perm_ext_iff_of_nodup hn hD.nd).2 fun x => ⟨fun hx => hD.all (hI.reach x (by simpa using hx)), fun hx => hI.all (hD.reach x hx)⟩
    · cases e
  · cases e

theorem noted_append (P R : List (Int × Int)) (Q : List Int) : noted (P ++ R) Q = P ++ noted R Q := by unfold noted; rw [List.append_assoc]

/-- From 1 to 2 over one edge. -/
theorem one_dfs {V : List Int} {ok : Bool} (h1 : ∀ y, y ∈ succ 1 ↔ y = 2) (h2 : ∀ y, y ∉ succ 2) (h : DEnd succ 1 2 V ok) : ok = true ∧ V = [1, 2] := by
  have r2 : Reach succ 1 2 := Reach.refl.step ((h1 2).2 rfl)
  have hok := h.ok_iff.2 r2
  refine ⟨hok, ?_⟩
  rcases h with ⟨e, _⟩ | ⟨_, V0, S, rfl, hI⟩
  · rw [hok] at e; cases e
  · have hr : ∀ x, Reach succ 1 x → x = 1 ∨ x = 2 := fun x r => by
      induction r with
      | refl => exact .inl rfl
      | step _ hy ih =>
        rcases ih with rfl | rfl
        · exact .inr ((h1 _).1 hy)
        · exact absurd hy (h2 _)
    have hnd := hI.nd
    rw [List.nodup_append] at hnd
    have hf := hI.first (by simp)
    match V0, hnd, hf, hI.reach with
    | [], _, hf, _ => exact absurd hf (by decide)
    | a :: T, hnd, hf, hre =>
      have ha : a = 1 := hf
      subst ha
      match T, hnd, hre with
      | [], _, _ => rfl
      | b :: T, hnd, hre =>
        exfalso
        rcases hr b (hre b (by simp)) with rfl | rfl
        · have := (List.nodup_cons.1 hnd.1).1; simp at this
        · exact hnd.2.2 2 (by simp) 2 (by simp) rfl

theorem one_bfs {L : List (Int × Int)} {ok : Bool} (h1 : ∀ y, y ∈ succ 1 ↔ y = 2) (h2 : ∀ y, y ∉ succ 2) (h : BEnd succ 1 2 L ok) : ok = true ∧ L = [(1, 0), (2, 1)] := by
  have r2 : Reach succ 1 2 := Reach.refl.step ((h1 2).2 rfl)
  have hok := h.ok_iff.2 r2
  refine ⟨hok, ?_⟩
  rcases h with ⟨e, _⟩ | ⟨_, d, P, Q1, Q2, rfl, hI⟩
  · rw [hok] at e; cases e
  · have hr : ∀ x, Reach succ 1 x → x = 1 ∨ x = 2 := fun x r => by
      induction r with
      | refl => exact .inl rfl
      | step _ hy ih =>
        rcases ih with rfl | rfl
        · exact .inr ((h1 _).1 hy)
        · exact absurd hy (h2 _)
    have d0 := Dist.zero succ (1 : Int)
    have d2 : Dist succ 1 1 2 := ⟨.step .zero ((h1 2).2 rfl), fun j hj => by
      cases hj with
      | step _ _ => omega⟩
    have hd : d = 1 := Dist.same succ 1 (hI.d1 2 List.mem_cons_self) d2
    subst hd
    have hre := hI.reach
    have hnd := hI.nd
    rw [List.nodup_append] at hnd
    have hq : Q1 ++ Q2 = [] := by
      refine List.eq_nil_iff_forall_not_mem.2 fun x hx => ?_
      rcases hr x (hre x (List.mem_append_right _ (List.mem_cons_of_mem _ hx))) with rfl | rfl
      · rcases List.mem_append.1 hx with hx | hx
        · have := Dist.same succ 1 (hI.d1 1 (List.mem_cons_of_mem _ hx)) d0; omega
        · have := Dist.same succ 1 (hI.d2 1 hx) d0; omega
      · exact (List.nodup_cons.1 hnd.2.1).1 hx
    have hs := hI.start
    have h1P : (1 : Int) ∈ P.map Prod.fst := by
      rcases List.mem_append.1 hs with hs | hs
      · exact hs
      · rcases List.mem_cons.1 hs with hs | hs
        · exact absurd hs (by decide)
        · have hs' : (1 : Int) ∈ Q1 ++ Q2 := hs
          rw [hq] at hs'; cases hs'
    have hP : P.map Prod.fst = [1] := by
      match hPm : P.map Prod.fst, h1P, hnd, hre with
      | [], h1P, _, _ => cases h1P
      | [a], h1P, _, _ => rw [List.mem_singleton.1 h1P]
      | a :: b :: T, _, hnd, hre =>
        exfalso
        have hx : ∀ x ∈ a :: b :: T, x = 1 := fun x hx => by
          rcases hr x (hre x (List.mem_append_left _ hx)) with e | e
          · exact e
          · exact absurd e (hnd.2.2 x hx 2 List.mem_cons_self)
        have e1 := hx a (by simp)
        have e2 := hx b (by simp)
        exact (List.nodup_cons.1 hnd.1).1 (by rw [e1, e2]; simp)
    rw [show Q1 ++ Q2 = [] from hq]
    have hl1 : P.length = 1 := by have := congrArg List.length hP; simpa using this
    obtain ⟨p, rfl⟩ := List.length_eq_one_iff.1 hl1
    obtain ⟨k, e1, _, e3⟩ := hI.pd p (by simp)
    have e4 : p.1 = 1 := by simpa using hP
    rw [e4] at e3
    have e5 := Dist.same succ 1 e3 d0
    subst e5
    have : p = (1, 0) := by rw [← e4]; exact Prod.ext rfl e1
    rw [this]; rfl
end
end Go.Proofs.YtpmphefmmcbpaaaGreat
