/- The walk depth first with a stack: the plain law. -/
import Derived.Test.YtanbhibllilccaaGreatTarjanLaw
namespace Go.Proofs.YtanbhibllilccaaGreat

section
variable (succ : Int → List Int)

/-- The stack in its frames: for each node that was visited (the last one first) what is left of its successors. -/
def FR (V : List Int) : List Int → List Int → Prop
  | [], S => S = []
  | x :: VR, S => ∃ f S', S = f ++ S' ∧ (∀ y ∈ f, y ∈ succ x) ∧ (∀ y ∈ succ x, y ∈ V ∨ y ∈ f) ∧ FR V VR S'

theorem FR.mono {V V' : List Int} (hv : ∀ x ∈ V, x ∈ V') : ∀ {VR S : List Int}, FR succ V VR S → FR succ V' VR S
  | [], _, h => h
  | _ :: _, _, ⟨f, S', e, h1, h2, h3⟩ => ⟨f, S', e, h1, fun y hy => (h2 y hy).imp (hv y) id, h3.mono hv⟩

theorem FR.pop {V : List Int} : ∀ {VR S : List Int} {y : Int}, FR succ V VR (y :: S) →
    ∃ A x B, VR = A ++ x :: B ∧ (∀ a ∈ A, ∀ z ∈ succ a, z ∈ V) ∧ y ∈ succ x ∧ ∀ V', (∀ z ∈ V, z ∈ V') → y ∈ V' → FR succ V' VR S
  | [], _, _, h => by cases h
  | a :: VR, S, y, ⟨f, S', e, h1, h2, h3⟩ => by
    match f, e, h1, h2 with
    | [], e, _, h2 =>
      have e' : S' = y :: S := e.symm
      subst e'
      obtain ⟨A, x, B, hv, hA, hx, hF⟩ := FR.pop h3
      refine ⟨a :: A, x, B, by rw [hv]; rfl, fun b hb => ?_, hx, fun V' hV hy => ⟨[], S, rfl, by simp, fun z hz => ?_, hF V' hV hy⟩⟩
      · rcases List.mem_cons.1 hb with rfl | hb
        · exact fun z hz => (h2 z hz).resolve_right (by simp)
        · exact hA b hb
      · exact .inl (hV z ((h2 z hz).resolve_right (by simp)))
    | z :: f, e, h1, h2 =>
      injection e with e1 e2
      subst e1
      refine ⟨[], a, VR, rfl, by simp, h1 y List.mem_cons_self, fun V' hV hy => ⟨f, S', e2, fun z hz => h1 z (List.mem_cons_of_mem _ hz), fun z hz => ?_, h3.mono succ hV⟩⟩
      rcases h2 z hz with h | h
      · exact .inl (hV z h)
      · rcases List.mem_cons.1 h with rfl | h
        · exact .inl hy
        · exact .inr h

theorem FR.done {V : List Int} : ∀ {VR : List Int}, FR succ V VR [] → ∀ x ∈ VR, ∀ y ∈ succ x, y ∈ V
  | [], _, x, hx => by cases hx
  | a :: VR, ⟨f, S', e, _, h2, h3⟩, x, hx => by
    obtain ⟨rfl, rfl⟩ := List.append_eq_nil_iff.1 e.symm
    rcases List.mem_cons.1 hx with rfl | hx
    · exact fun y hy => (h2 y hy).resolve_right (by simp)
    · exact FR.done h3 x hx

/-- Each node is an end of an edge from the last node ahead of it that had one to a node not yet visited. -/
def DeepL (V : List Int) : Prop :=
  ∀ i (hi : i < V.length), 0 < i → ∃ j, ∃ hj : j < i, V[i] ∈ succ (V[j]'(by omega)) ∧ ∀ k (hk : k < i), j < k → ∀ z ∈ succ (V[k]'(by omega)), z ∈ V.take i

/-- The state of a walk from u: what was visited, and the stack. -/
structure DInv (u : Int) (V S : List Int) : Prop where
  nd : V.Nodup
  head : V = [] → S = [u]
  first : V ≠ [] → V.headD 0 = u
  fr : V ≠ [] → FR succ V V.reverse S
  deep : DeepL succ V
  reach : ∀ x ∈ V, Reach succ u x
  reachS : ∀ x ∈ S, Reach succ u x

theorem DInv.start (u : Int) : DInv succ u [] [u] :=
  ⟨List.nodup_nil, fun _ => rfl, fun h => absurd rfl h, fun h => absurd rfl h, fun i hi => by simp at hi, by simp, fun x hx => by rw [List.mem_singleton.1 hx]; exact .refl⟩

/-- A node that was visited is left out. -/
theorem DInv.skip {u y : Int} {V S : List Int} (h : DInv succ u V (y :: S)) (hy : y ∈ V) : DInv succ u V S := by
  have hne : V ≠ [] := fun e => by rw [e] at hy; cases hy
  obtain ⟨A, x, B, _, _, _, hF⟩ := FR.pop succ (h.fr hne)
  exact ⟨h.nd, fun e => absurd e hne, h.first, fun _ => hF V (fun _ hz => hz) hy, h.deep, h.reach, fun x hx => h.reachS x (List.mem_cons_of_mem _ hx)⟩

/-- A node that was not visited. -/
theorem DInv.visit {u y : Int} {V S : List Int} (h : DInv succ u V (y :: S)) (hy : y ∉ V) : DInv succ u (V ++ [y]) ((succ y).reverse ++ S) := by
  have hr := h.reachS y List.mem_cons_self
  have hsr : ∀ z ∈ (succ y).reverse ++ S, Reach succ u z := fun z hz => by
    rcases List.mem_append.1 hz with hz | hz
    · exact hr.step (List.mem_reverse.1 hz)
    · exact h.reachS z (List.mem_cons_of_mem _ hz)
  have hvr : ∀ x ∈ V ++ [y], Reach succ u x := fun x hx => by
    rcases List.mem_append.1 hx with hx | hx
    · exact h.reach x hx
    · rw [List.mem_singleton.1 hx]; exact hr
  have hnd : (V ++ [y]).Nodup := by
    rw [List.nodup_append]
    exact ⟨h.nd, by simp, fun a ha b hb e => hy (by rw [List.mem_singleton.1 hb] at e; exact e ▸ ha)⟩
  by_cases hne : V = []
  · subst hne
    have hs := h.head rfl
    injection hs with h1 h2
    subst h1; subst h2
    refine ⟨hnd, fun e => by simp at e, fun _ => rfl, fun _ => ?_, fun i hi h0 => by simp at hi; omega, hvr, hsr⟩
    exact ⟨(succ y).reverse, [], rfl, fun z hz => List.mem_reverse.1 hz, fun z hz => .inr (List.mem_reverse.2 hz), rfl⟩
  · obtain ⟨A, x, B, hv, hA, hx, hF⟩ := FR.pop succ (h.fr hne)
    refine ⟨hnd, fun e => by simp at e, fun _ => ?_, fun _ => ?_, ?_, hvr, hsr⟩
    · have := h.first hne
      match V, hne with
      | a :: V, _ => exact this
    · rw [List.reverse_append]
      exact ⟨(succ y).reverse, S, rfl, fun z hz => List.mem_reverse.1 hz, fun z hz => .inr (List.mem_reverse.2 hz), hF _ (fun z hz => List.mem_append_left _ hz) (by simp)⟩
    · intro i hi h0
      rw [List.length_append, List.length_singleton] at hi
      by_cases hil : i < V.length
      · obtain ⟨j, hj, h1, h2⟩ := h.deep i hil h0
        refine ⟨j, hj, ?_, fun k hk hjk z hz => ?_⟩
        · rw [List.getElem_append_left hil, List.getElem_append_left (by omega)]; exact h1
        · rw [List.getElem_append_left (by omega)] at hz
          rw [List.take_append_of_le_length (by omega)]
          exact h2 k hk hjk z hz
      · have hie : i = V.length := by omega
        subst hie
        have hV : V = B.reverse ++ x :: A.reverse := by
          have := congrArg List.reverse hv
          rw [List.reverse_reverse, List.reverse_append, List.reverse_cons, List.append_assoc] at this
          exact this
        have hlen : V.length = B.length + 1 + A.length := by rw [hV]; simp; omega
        refine ⟨B.length, by omega, ?_, fun k hk hjk z hz => ?_⟩
        · rw [List.getElem_append_right (Nat.le_refl _), List.getElem_append_left (by omega)]
          have e : V[B.length]'(by omega) = x := by
            simp only [hV]
            rw [List.getElem_append_right (by simp)]
            simp
          simp only [Nat.sub_self, List.getElem_singleton, e]
          exact hx
        · rw [List.getElem_append_left hk] at hz
          rw [List.take_left']
          · refine hA (V[k]) ?_ z hz
            have e : V[k] ∈ A.reverse := by
              have h2 : V[k]'hk = (B.reverse ++ x :: A.reverse)[k]'(by rw [← hV]; exact hk) := by simp only [← hV]
              rw [h2, List.getElem_append_right (by simp; omega)]
              rw [List.getElem_cons, dif_neg (by simp; omega)]
              exact List.getElem_mem _
            exact List.mem_reverse.1 e
          · rfl

/-- What a walk has found. -/
structure DWalk (u : Int) (V : List Int) : Prop where
  nd : V.Nodup
  ne : V ≠ []
  first : V.headD 0 = u
  deep : DeepL succ V
  reach : ∀ x ∈ V, Reach succ u x
  shut : ∀ x ∈ V, ∀ y ∈ succ x, y ∈ V

theorem DInv.done {u : Int} {V : List Int} (h : DInv succ u V []) : DWalk succ u V := by
  have hne : V ≠ [] := fun e => by have := h.head e; cases this
  exact ⟨h.nd, hne, h.first hne, h.deep, h.reach, fun x hx => FR.done succ (h.fr hne) x (List.mem_reverse.2 hx)⟩

/-- What the walks through all have found so far: lists of nodes, of which the walk is through the first nodes of a list. -/
structure DAll (ids : List Int) (k : Nat) (L : List (List Int)) : Prop where
  nd : L.flatten.Nodup
  walk : ∀ l ∈ L, DWalk succ (l.headD 0) l
  sub : ∀ x ∈ L.flatten, x ∈ ids
  all : ∀ x ∈ ids.take k, x ∈ L.flatten
  heads : (L.map fun l => l.headD 0).Sublist (ids.take k)

theorem DAll.start (ids : List Int) : DAll succ ids 0 [] := ⟨List.nodup_nil, by simp, by simp, by simp, by simp⟩

theorem DAll.shut {ids : List Int} {k : Nat} {L : List (List Int)} (h : DAll succ ids k L) {x y : Int} (hx : x ∈ L.flatten) (hy : y ∈ succ x) : y ∈ L.flatten := by
  obtain ⟨l, hl, hxl⟩ := List.mem_flatten.1 hx
  exact List.mem_flatten.2 ⟨l, hl, (h.walk l hl).shut x hxl y hy⟩

/-- What is not yet visited leads to nothing that was, where edges lead both ways. -/
theorem DAll.apart {ids : List Int} {k : Nat} {L : List (List Int)} (h : DAll succ ids k L) (hsym : ∀ x ∈ ids, ∀ y ∈ succ x, y ∈ ids ∧ x ∈ succ y) {u x : Int} (hu : u ∈ ids) (hn : u ∉ L.flatten) (hr : Reach succ u x) : x ∈ ids ∧ x ∉ L.flatten := by
  induction hr with
  | refl => exact ⟨hu, hn⟩
  | step _ hy ih =>
    have := hsym _ ih.1 _ hy
    exact ⟨this.1, fun hm => ih.2 (h.shut succ hm this.2)⟩

theorem DAll.skip {ids : List Int} {k : Nat} {L : List (List Int)} (h : DAll succ ids k L) (hk : k < ids.length) (hm : ids[k] ∈ L.flatten) : DAll succ ids (k + 1) L :=
  ⟨h.nd, h.walk, h.sub, fun x hx => by
    rw [List.take_succ_eq_append_getElem hk, List.mem_append, List.mem_singleton] at hx
    rcases hx with hx | rfl
    · exact h.all x hx
    · exact hm, h.heads.trans (by rw [List.take_succ_eq_append_getElem hk]; exact List.sublist_append_left _ _)⟩

theorem DAll.more {ids : List Int} {k : Nat} {L : List (List Int)} {V : List Int} (h : DAll succ ids k L) (hsym : ∀ x ∈ ids, ∀ y ∈ succ x, y ∈ ids ∧ x ∈ succ y) (hk : k < ids.length) (hm : ids[k] ∉ L.flatten) (hw : DWalk succ ids[k] V) : DAll succ ids (k + 1) (L ++ [V]) := by
  have hap : ∀ x ∈ V, x ∈ ids ∧ x ∉ L.flatten := fun x hx => h.apart succ hsym (List.getElem_mem hk) hm (hw.reach x hx)
  have hfl : (L ++ [V]).flatten = L.flatten ++ V := by simp
  have hh : ids[k] ∈ V := by
    have h1 := hw.first
    have h2 := hw.ne
    match V, h1, h2 with
    | a :: V, h1, _ => exact h1 ▸ List.mem_cons_self
  refine ⟨?_, fun l hl => ?_, fun x hx => ?_, fun x hx => ?_, ?_⟩
  · rw [hfl, List.nodup_append]
    exact ⟨h.nd, hw.nd, fun a ha b hb e => (hap b hb).2 (e ▸ ha)⟩
  · rcases List.mem_append.1 hl with hl | hl
    · exact h.walk l hl
    · rw [List.mem_singleton.1 hl, hw.first]; exact hw
  · rw [hfl, List.mem_append] at hx
    rcases hx with hx | hx
    · exact h.sub x hx
    · exact (hap x hx).1
  · rw [hfl, List.mem_append]
    rw [List.take_succ_eq_append_getElem hk, List.mem_append, List.mem_singleton] at hx
    rcases hx with hx | rfl
    · exact .inl (h.all x hx)
    · exact .inr hh
  · rw [List.take_succ_eq_append_getElem hk, List.map_append, List.map_singleton, hw.first]
    exact h.heads.append (List.Sublist.refl _)

/-- All walks together visit all nodes. -/
theorem DAll.perm {ids : List Int} {L : List (List Int)} (h : DAll succ ids ids.length L) (hnd : ids.Nodup) : L.flatten.Perm ids := by
  refine (List.perm_ext_iff_of_nodup h.nd hnd).2 fun x => ⟨h.sub x, fun hx => h.all x ?_⟩
  rw [List.take_length]; exact hx
end
end Go.Proofs.YtanbhibllilccaaGreat
