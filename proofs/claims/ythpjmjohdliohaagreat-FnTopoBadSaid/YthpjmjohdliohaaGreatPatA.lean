/- Paton's walk for a basis of cycles: what is known of the tree that it makes. No program in sight.
   Blocks by the parts that they play: what stands in each, and that no two are one.
   Blocks by their parts, and rows beside them: what stands in each, and that no two lie in one block.
   Paton's walk: its maps, its stack and its cycles in memory.
   Paton's walk: what is done to its maps, its stack and its cycles.
   Paton's walk: the methods of its maps, and of its stack. -/
import Derived.Test.YthpjmjohdliohaaGreatBase
import Derived.Test.YthpjmjohdliohaaGreatKA
import Derived.Test.YthpjmjohdliohaaGreatIntsA
import Derived.Laws.OwnMore
import Derived.Test.YthpjmjohdliohaaGreatOpenA
import Derived.Deep.QuietTactic
import Derived.BigRegion
namespace Go.Proofs.YthpjmjohdliohaaGreat

/-- k steps up. -/
def iterP (par : Int → Int) : Nat → Int → Int
  | 0, x => x
  | k + 1, x => iterP par k (par x)
theorem iterP_succ (par : Int → Int) (k : Nat) (x : Int) : iterP par (k + 1) x = par (iterP par k x) := by
  induction k generalizing x with
  | zero => rfl
  | succ k ih => exact ih (par x)

/-- a is above x, or x itself. -/
def Above (par : Int → Int) (x a : Int) : Prop := ∃ k, iterP par k x = a
theorem Above.refl (par : Int → Int) (x : Int) : Above par x x := ⟨0, rfl⟩
theorem Above.up {par : Int → Int} {x a : Int} (h : Above par (par x) a) : Above par x a := by
  obtain ⟨k, hk⟩ := h
  exact ⟨k + 1, hk⟩

/-- f, but y at x. -/
def updF {α : Type} (f : Int → α) (x : Int) (y : α) : Int → α := fun z => if z = x then y else f z
theorem updF_self {α : Type} (f : Int → α) (x : Int) (y : α) : updF f x y x = y := if_pos rfl
theorem updF_other {α : Type} (f : Int → α) {x z : Int} (y : α) (h : z ≠ x) : updF f x y z = f z := if_neg h

/-- The tree: T its nodes, par their parents, tm when they came to it, fr over which edges one has come to them, st the stack, P those that have been left. -/
structure Pat (S : Int → List Int) (ids : List Int) (root : Int) (T : List Int) (par : Int → Int) (tm : Int → Nat) (fr : Int → List Int) (st P : List Int) : Prop where
  sub : ∀ x ∈ T, x ∈ ids
  rT : root ∈ T
  prt : par root = root
  pT : ∀ x ∈ T, par x ∈ T
  tl : ∀ x ∈ T, tm x < T.length
  tp : ∀ x ∈ T, x ≠ root → tm (par x) < tm x
  tn : T.Nodup
  snd : st.Nodup
  sT : ∀ x ∈ st, x ∈ T
  pst : ∀ x ∈ T, x ∈ st ∨ x ∈ P
  dis : ∀ x ∈ st, x ∉ P
  pnd : P.Nodup
  PT : ∀ x ∈ P, x ∈ T
  root0 : root ∈ st → st = [root]
  fp : ∀ x ∈ T, x ≠ root → par x ∈ fr x
  f1 : ∀ x z, z ∈ fr x → x ∈ T ∧ z ∈ P ∧ x ∈ S z
  f3 : ∀ x ∈ P, ∀ y ∈ S x, y ∈ T ∧ (x ∈ fr y ∨ y ∈ fr x)
  anc : st.Pairwise fun a b => Above par (par a) (par b)

/-- The same while the edges from u are gone over, of which k are done. -/
structure PatU (S : Int → List Int) (ids : List Int) (root : Int) (T : List Int) (par : Int → Int) (tm : Int → Nat) (fr : Int → List Int) (st P : List Int) (u : Int) (k : Nat) : Prop where
  sub : ∀ x ∈ T, x ∈ ids
  rT : root ∈ T
  prt : par root = root
  pT : ∀ x ∈ T, par x ∈ T
  tl : ∀ x ∈ T, tm x < T.length
  tp : ∀ x ∈ T, x ≠ root → tm (par x) < tm x
  tn : T.Nodup
  snd : st.Nodup
  sT : ∀ x ∈ st, x ∈ T
  pst : ∀ x ∈ T, x ∈ st ∨ x ∈ P ∨ x = u
  dis : ∀ x ∈ st, x ∉ P
  pnd : P.Nodup
  PT : ∀ x ∈ P, x ∈ T
  uT : u ∈ T
  us : u ∉ st
  uP : u ∉ P
  root0 : root ∉ st
  fp : ∀ x ∈ T, x ≠ root → par x ∈ fr x
  f1 : ∀ x z, z ∈ fr x → x ∈ T ∧ (z ∈ P ∨ (z = u ∧ x ∈ (S u).take k)) ∧ x ∈ S z
  f3 : ∀ x ∈ P, ∀ y ∈ S x, y ∈ T ∧ (x ∈ fr y ∨ y ∈ fr x)
  f3u : ∀ y ∈ (S u).take k, y ∈ T ∧ (u ∈ fr y ∨ y ∈ fr u)
  anc : st.Pairwise fun a b => Above par (par a) (par b)
  au : ∀ b ∈ st, Above par u (par b)

section
variable {S : Int → List Int} {ids : List Int} {root : Int} {T : List Int} {par : Int → Int} {tm : Int → Nat} {fr : Int → List Int} {st P : List Int} {u : Int} {k : Nat}

/-- The tree at its start. -/
theorem Pat.start (hr : root ∈ ids) : Pat S ids root [root] (fun _ => root) (fun _ => 0) (fun _ => []) [root] [] := by
  refine ⟨fun x hx => by rw [List.mem_singleton.1 hx]; exact hr, List.mem_singleton.2 rfl, rfl, fun _ _ => List.mem_singleton.2 rfl, fun _ _ => by simp, fun x hx hn => absurd (List.mem_singleton.1 hx) hn, by simp, by simp, fun x hx => hx, fun x hx => .inl hx, fun _ _ h => by simp at h, by simp, fun _ h => by simp at h, fun _ => rfl, fun x hx hn => absurd (List.mem_singleton.1 hx) hn, fun _ _ h => by simp at h, fun _ h => by simp at h, by simp⟩

theorem Pat.pop (h : Pat S ids root T par tm fr (u :: st) P) : PatU S ids root T par tm fr st P u 0 := by
  have hs := List.nodup_cons.1 h.snd
  have ha := List.pairwise_cons.1 h.anc
  refine ⟨h.sub, h.rT, h.prt, h.pT, h.tl, h.tp, h.tn, hs.2, fun x hx => h.sT x (List.mem_cons_of_mem _ hx), fun x hx => ?_, fun x hx => h.dis x (List.mem_cons_of_mem _ hx), h.pnd, h.PT, h.sT u List.mem_cons_self, hs.1, h.dis u List.mem_cons_self, fun hr => ?_, h.fp, fun x z hz => ?_, h.f3, fun y hy => by simp at hy, ha.2, fun b hb => (ha.1 b hb).up⟩
  · rcases h.pst x hx with h1 | h1
    · rcases List.mem_cons.1 h1 with h2 | h2
      · exact .inr (.inr h2)
      · exact .inl h2
    · exact .inr (.inl h1)
  · have := h.root0 (List.mem_cons_of_mem _ hr)
    injection this with h1 h2
    rw [h2] at hr
    simp at hr
  · obtain ⟨h1, h2, h3⟩ := h.f1 x z hz
    exact ⟨h1, .inl h2, h3⟩

/-- What an iterate of parents of tree nodes is when a node is added. -/
theorem iter_upd {v u : Int} (hp : ∀ x ∈ T, par x ∈ T) (hv : v ∉ T) (j : Nat) {x : Int} (hx : x ∈ T) : iterP (updF par v u) j x = iterP par j x ∧ iterP par j x ∈ T := by
  induction j generalizing x with
  | zero => exact ⟨rfl, hx⟩
  | succ j ih =>
    have e : updF par v u x = par x := updF_other _ _ (fun e => hv (e ▸ hx))
    show iterP (updF par v u) j (updF par v u x) = iterP par j (par x) ∧ _
    rw [e]
    exact ih (hp x hx)

theorem Above.upd {v u x a : Int} (hp : ∀ x ∈ T, par x ∈ T) (hv : v ∉ T) (hx : x ∈ T) (h : Above par x a) : Above (updF par v u) x a := by
  obtain ⟨j, hj⟩ := h
  exact ⟨j, ((iter_upd hp hv j hx).1).trans hj⟩

theorem take_succ_mem {l : List Int} {k : Nat} {v y : Int} (hk : k < l.length) (hv : v = l[k]) : y ∈ l.take (k + 1) ↔ y ∈ l.take k ∨ y = v := by
  rw [List.take_succ_eq_append_getElem hk, List.mem_append, List.mem_singleton, ← hv]
theorem take_fresh {l : List Int} {k : Nat} {v : Int} (hn : l.Nodup) (hk : k < l.length) (hv : v = l[k]) : v ∉ l.take k := fun h => by
  obtain ⟨j, hj, e⟩ := List.mem_iff_getElem.1 h
  rw [List.length_take] at hj
  rw [List.getElem_take] at e
  have hj' : j < k := by omega
  have := List.pairwise_iff_getElem.1 hn j k (by omega) hk hj'
  exact this (e.trans hv)

/-- A node that is new. -/
theorem PatU.new {v : Int} (h : PatU S ids root T par tm fr st P u k) (hS : ∀ x ∈ ids, ∀ y ∈ S x, y ∈ ids) (hk : k < (S u).length) (hv : v = (S u)[k]) (hvT : v ∉ T) :
    PatU S ids root (T ++ [v]) (updF par v u) (updF tm v T.length) (updF fr v [u]) (v :: st) P u (k + 1) := by
  have hvS : v ∈ S u := by rw [hv]; exact List.getElem_mem hk
  have hne : ∀ x ∈ T, x ≠ v := fun x hx e => hvT (e ▸ hx)
  have hmem : ∀ x, x ∈ T ++ [v] ↔ x ∈ T ∨ x = v := fun x => by rw [List.mem_append, List.mem_singleton]
  have hpar : ∀ x ∈ T, updF par v u x = par x := fun x hx => updF_other _ _ (hne x hx)
  have hpv : updF par v u v = u := updF_self _ _ _
  have hrv : root ≠ v := hne root h.rT
  have huv : u ≠ v := hne u h.uT
  refine ⟨fun x hx => ?_, (hmem _).2 (.inl h.rT), ?_, fun x hx => ?_, fun x hx => ?_, fun x hx hn => ?_, ?_, ?_, fun x hx => ?_, fun x hx => ?_, fun x hx => ?_, h.pnd, fun x hx => (hmem x).2 (.inl (h.PT x hx)), (hmem _).2 (.inl h.uT), ?_, h.uP, ?_, fun x hx hn => ?_, fun x z hz => ?_, fun x hx y hy => ?_, fun y hy => ?_, ?_, fun b hb => ?_⟩
  · rcases (hmem x).1 hx with h1 | h1
    · exact h.sub x h1
    · rw [h1]; exact hS u (h.sub u h.uT) v hvS
  · rw [hpar root h.rT]; exact h.prt
  · rcases (hmem x).1 hx with h1 | h1
    · rw [hpar x h1]; exact (hmem _).2 (.inl (h.pT x h1))
    · rw [h1, hpv]; exact (hmem _).2 (.inl h.uT)
  · rw [List.length_append, List.length_singleton]
    rcases (hmem x).1 hx with h1 | h1
    · rw [updF_other _ _ (hne x h1)]; have := h.tl x h1; omega
    · rw [h1, updF_self]; omega
  · rcases (hmem x).1 hx with h1 | h1
    · rw [hpar x h1, updF_other _ _ (hne _ (h.pT x h1)), updF_other _ _ (hne x h1)]; exact h.tp x h1 hn
    · rw [h1, hpv, updF_self, updF_other _ _ huv]; exact h.tl u h.uT
  · exact List.nodup_append.2 ⟨h.tn, by simp, fun a ha b hb e => by rw [List.mem_singleton.1 hb] at e; exact hne a ha e⟩
  · exact List.nodup_cons.2 ⟨fun hm => hvT (h.sT v hm), h.snd⟩
  · rcases List.mem_cons.1 hx with h1 | h1
    · exact (hmem x).2 (.inr h1)
    · exact (hmem x).2 (.inl (h.sT x h1))
  · rcases (hmem x).1 hx with h1 | h1
    · rcases h.pst x h1 with h2 | h2
      · exact .inl (List.mem_cons_of_mem _ h2)
      · exact .inr h2
    · exact .inl (by rw [h1]; exact List.mem_cons_self)
  · rcases List.mem_cons.1 hx with h1 | h1
    · rw [h1]; exact fun hP => hvT (h.PT v hP)
    · exact h.dis x h1
  · intro hm
    rcases List.mem_cons.1 hm with h1 | h1
    · exact huv h1
    · exact h.us h1
  · intro hm
    rcases List.mem_cons.1 hm with h1 | h1
    · exact hrv h1
    · exact h.root0 h1
  · rcases (hmem x).1 hx with h1 | h1
    · rw [hpar x h1, updF_other _ _ (hne x h1)]; exact h.fp x h1 hn
    · rw [h1, hpv, updF_self]; exact List.mem_singleton.2 rfl
  · by_cases e : x = v
    · rw [e, updF_self] at hz
      have hzu := List.mem_singleton.1 hz
      rw [hzu, e]
      exact ⟨(hmem v).2 (.inr rfl), .inr ⟨rfl, (take_succ_mem hk hv).2 (.inr rfl)⟩, hvS⟩
    · rw [updF_other _ _ e] at hz
      obtain ⟨h1, h2, h3⟩ := h.f1 x z hz
      refine ⟨(hmem x).2 (.inl h1), ?_, h3⟩
      rcases h2 with h2 | ⟨h2, h4⟩
      · exact .inl h2
      · exact .inr ⟨h2, (take_succ_mem hk hv).2 (.inl h4)⟩
  · obtain ⟨h1, h2⟩ := h.f3 x hx y hy
    refine ⟨(hmem y).2 (.inl h1), ?_⟩
    rw [updF_other _ _ (hne y h1), updF_other _ _ (hne x (h.PT x hx))]
    exact h2
  · rcases (take_succ_mem hk hv).1 hy with h1 | h1
    · obtain ⟨h2, h3⟩ := h.f3u y h1
      refine ⟨(hmem y).2 (.inl h2), ?_⟩
      rw [updF_other _ _ (hne y h2), updF_other _ _ huv]
      exact h3
    · rw [h1]
      exact ⟨(hmem v).2 (.inr rfl), .inl (by rw [updF_self]; exact List.mem_singleton.2 rfl)⟩
  · refine List.pairwise_cons.2 ⟨fun b hb => ?_, ?_⟩
    · rw [hpv, hpar b (h.sT b hb)]
      exact (h.au b hb).upd h.pT hvT h.uT
    · refine h.anc.imp_of_mem fun {a b} ha hb hab => ?_
      rw [hpar a (h.sT a ha), hpar b (h.sT b hb)]
      exact hab.upd h.pT hvT (h.pT a (h.sT a ha))
  · rcases List.mem_cons.1 hb with h1 | h1
    · rw [h1, hpv]; exact Above.refl _ _
    · rw [hpar b (h.sT b h1)]
      exact (h.au b h1).upd h.pT hvT h.uT

/-- An edge over which one has come. -/
theorem PatU.skip {v : Int} (h : PatU S ids root T par tm fr st P u k) (hk : k < (S u).length) (hv : v = (S u)[k]) (hvT : v ∈ T) (hvf : v ∈ fr u) : PatU S ids root T par tm fr st P u (k + 1) := by
  refine ⟨h.sub, h.rT, h.prt, h.pT, h.tl, h.tp, h.tn, h.snd, h.sT, h.pst, h.dis, h.pnd, h.PT, h.uT, h.us, h.uP, h.root0, h.fp, fun x z hz => ?_, h.f3, fun y hy => ?_, h.anc, h.au⟩
  · obtain ⟨h1, h2, h3⟩ := h.f1 x z hz
    refine ⟨h1, ?_, h3⟩
    rcases h2 with h2 | ⟨h2, h4⟩
    · exact .inl h2
    · exact .inr ⟨h2, (take_succ_mem hk hv).2 (.inl h4)⟩
  · rcases (take_succ_mem hk hv).1 hy with h1 | h1
    · exact h.f3u y h1
    · rw [h1]; exact ⟨hvT, .inr hvf⟩

/-- An edge that closes a cycle: where it leads stands on the stack, and its parent is above u's. -/
theorem PatU.chord {v : Int} (h : PatU S ids root T par tm fr st P u k) (hsym : ∀ x ∈ ids, ∀ y ∈ S x, x ∈ S y) (hno : ∀ x ∈ ids, x ∉ S x) (hn : (S u).Nodup) (hk : k < (S u).length) (hv : v = (S u)[k]) (hvT : v ∈ T) (hvf : v ∉ fr u) :
    v ∈ st ∧ v ≠ root ∧ v ≠ u ∧ u ∉ fr v ∧ par v ∈ fr v ∧ ∃ r, iterP par r (par u) = par v := by
  have hvS : v ∈ S u := by rw [hv]; exact List.getElem_mem hk
  have hui := h.sub u h.uT
  have hvu : v ≠ u := fun e => hno u hui (e ▸ hvS)
  have hfresh := take_fresh hn hk hv
  have hufv : u ∉ fr v := fun hm => by
    obtain ⟨_, h2, _⟩ := h.f1 v u hm
    rcases h2 with h2 | h2
    · exact h.uP h2
    · exact hfresh h2.2
  have hvs : v ∈ st := by
    rcases h.pst v hvT with h1 | h1 | h1
    · exact h1
    · obtain ⟨_, h3⟩ := h.f3 v h1 u (hsym u hui v hvS)
      rcases h3 with h3 | h3
      · exact absurd h3 hvf
      · exact absurd h3 hufv
    · exact absurd h1 hvu
  have hvr : v ≠ root := fun e => h.root0 (e ▸ hvs)
  have hpf := h.fp v hvT hvr
  refine ⟨hvs, hvr, hvu, hufv, hpf, ?_⟩
  obtain ⟨r, hr⟩ := h.au v hvs
  cases r with
  | zero =>
    have e : u = par v := hr
    exact absurd (by rw [e]; exact hpf) hufv
  | succ r => exact ⟨r, hr⟩

theorem PatU.close {v : Int} (h : PatU S ids root T par tm fr st P u k) (hk : k < (S u).length) (hv : v = (S u)[k]) (hvT : v ∈ T) : PatU S ids root T par tm (updF fr v (u :: fr v)) st P u (k + 1) := by
  have hvS : v ∈ S u := by rw [hv]; exact List.getElem_mem hk
  have hup : ∀ x z, z ∈ fr x → z ∈ updF fr v (u :: fr v) x := fun x z hz => by
    by_cases e : x = v
    · rw [e, updF_self]; rw [e] at hz; exact List.mem_cons_of_mem _ hz
    · rw [updF_other _ _ e]; exact hz
  refine ⟨h.sub, h.rT, h.prt, h.pT, h.tl, h.tp, h.tn, h.snd, h.sT, h.pst, h.dis, h.pnd, h.PT, h.uT, h.us, h.uP, h.root0, fun x hx hn => hup _ _ (h.fp x hx hn), fun x z hz => ?_, fun x hx y hy => ?_, fun y hy => ?_, h.anc, h.au⟩
  · have old : z ∈ fr x → x ∈ T ∧ (z ∈ P ∨ (z = u ∧ x ∈ (S u).take (k + 1))) ∧ x ∈ S z := fun hz => by
      obtain ⟨h1, h2, h3⟩ := h.f1 x z hz
      refine ⟨h1, ?_, h3⟩
      rcases h2 with h2 | ⟨h2, h4⟩
      · exact .inl h2
      · exact .inr ⟨h2, (take_succ_mem hk hv).2 (.inl h4)⟩
    by_cases e : x = v
    · rw [e, updF_self] at hz
      rcases List.mem_cons.1 hz with h1 | h1
      · rw [h1, e]; exact ⟨hvT, .inr ⟨rfl, (take_succ_mem hk hv).2 (.inr rfl)⟩, hvS⟩
      · exact old (by rw [e]; exact h1)
    · rw [updF_other _ _ e] at hz; exact old hz
  · obtain ⟨h1, h2⟩ := h.f3 x hx y hy
    exact ⟨h1, h2.imp (hup _ _) (hup _ _)⟩
  · rcases (take_succ_mem hk hv).1 hy with h1 | h1
    · obtain ⟨h2, h3⟩ := h.f3u y h1
      exact ⟨h2, h3.imp (hup _ _) (hup _ _)⟩
    · rw [h1]; exact ⟨hvT, .inl (by rw [updF_self]; exact List.mem_cons_self)⟩

/-- All edges from u are done. -/
theorem PatU.done (h : PatU S ids root T par tm fr st P u k) (hk : (S u).length ≤ k) : Pat S ids root T par tm fr st (u :: P) := by
  have ht : (S u).take k = S u := List.take_of_length_le hk
  refine ⟨h.sub, h.rT, h.prt, h.pT, h.tl, h.tp, h.tn, h.snd, h.sT, fun x hx => ?_, fun x hx hm => ?_, List.nodup_cons.2 ⟨h.uP, h.pnd⟩, fun x hx => ?_, fun hr => absurd hr h.root0, h.fp, fun x z hz => ?_, fun x hx y hy => ?_, h.anc⟩
  · rcases h.pst x hx with h1 | h1 | h1
    · exact .inl h1
    · exact .inr (List.mem_cons_of_mem _ h1)
    · exact .inr (by rw [h1]; exact List.mem_cons_self)
  · rcases List.mem_cons.1 hm with h1 | h1
    · exact h.us (h1 ▸ hx)
    · exact h.dis x hx h1
  · rcases List.mem_cons.1 hx with h1 | h1
    · rw [h1]; exact h.uT
    · exact h.PT x h1
  · obtain ⟨h1, h2, h3⟩ := h.f1 x z hz
    refine ⟨h1, ?_, h3⟩
    rcases h2 with h2 | h2
    · exact List.mem_cons_of_mem _ h2
    · rw [h2.1]; exact List.mem_cons_self
  · rcases List.mem_cons.1 hx with h1 | h1
    · subst h1
      exact h.f3u y (by rw [ht]; exact hy)
    · exact h.f3 x h1 y hy

/-- How far up: the steps are fewer than the nodes. -/
theorem iter_tm (hp : ∀ x ∈ T, par x ∈ T) (ht : ∀ x ∈ T, x ≠ root → tm (par x) < tm x) (j : Nat) : ∀ {x : Int}, x ∈ T → (∀ i, i < j → iterP par i x ≠ root) → iterP par j x ∈ T ∧ tm (iterP par j x) + j ≤ tm x := by
  induction j with
  | zero => intro x hx _; exact ⟨hx, Nat.le_refl _⟩
  | succ j ih =>
    intro x hx hr
    have h0 : x ≠ root := hr 0 (by omega)
    obtain ⟨h1, h2⟩ := ih (hp x hx) (fun i hi => hr (i + 1) (by omega))
    have h3 := ht x hx h0
    exact ⟨h1, by show tm (iterP par j (par x)) + (j + 1) ≤ tm x; omega⟩
theorem iter_root (hp : par root = root) (j : Nat) : iterP par j root = root := by
  induction j with
  | zero => rfl
  | succ j ih => show iterP par j (par root) = root; rw [hp]; exact ih
end
end Go.Proofs.YthpjmjohdliohaaGreat

namespace Go.Proofs.YthpjmjohdliohaaGreat
open Go.RowKit Go.Maps

/-- What stands in a block: a map by numbers of nodes, or cells. -/
inductive Cont
  | map (f : Int → Option Value)
  | cells (l : List Value)

def CHolds (w : World) (ids : List Int) (j : Nat) : Cont → Prop
  | .map f => VMap w ids j f
  | .cells l => ∃ t, w.heap[j]? = some (.cells l.toArray t (0, 0))

theorem CHolds.same {w w' : World} {ids : List Int} {j : Nat} {k : Cont} (h : CHolds w ids j k) (e : w'.heap[j]? = w.heap[j]?) : CHolds w' ids j k := by
  cases k with
  | map f => exact VMap.same h e
  | cells l => obtain ⟨t, ht⟩ := h; exact ⟨t, e.trans ht⟩
theorem CHolds.lt {w : World} {ids : List Int} {j : Nat} {k : Cont} (h : CHolds w ids j k) : j < w.heap.size := by
  cases k with
  | map f => exact VMap.lt h
  | cells l => obtain ⟨t, ht⟩ := h; exact lt_of_block ht

/-- Blocks that are none of B's are as they were. -/
structure Keeps (B : Nat → Prop) (w w' : World) : Prop where
  os : w'.os = w.os
  tape : w'.tape = w.tape
  output : w'.output = w.output
  size : w.heap.size ≤ w'.heap.size
  block : ∀ j, j < w.heap.size → ¬ B j → w'.heap[j]? = w.heap[j]?

theorem Keeps.refl (B : Nat → Prop) (w : World) : Keeps B w w := ⟨rfl, rfl, rfl, Nat.le_refl _, fun _ _ _ => rfl⟩
theorem Keeps.trans {B : Nat → Prop} {w w' w'' : World} (h : Keeps B w w') (k : Keeps B w' w'') : Keeps B w w'' :=
  ⟨k.os.trans h.os, k.tape.trans h.tape, k.output.trans h.output, Nat.le_trans h.size k.size, fun j hj hn => (k.block j (Nat.lt_of_lt_of_le hj h.size) hn).trans (h.block j hj hn)⟩
theorem Keeps.of {B : Nat → Prop} {w w' : World} (h : Below w.heap.size w w') : Keeps B w w' := ⟨h.os, h.tape, h.output, h.size, fun j hj _ => h.block j hj⟩
theorem Keeps.drew {B : Nat → Prop} {w w' : World} (h : Keeps B w w') : Keeps B w w'.drew := ⟨h.os, h.tape, h.output, h.size, h.block⟩
theorem Keeps.grow {B : Nat → Prop} {w w' : World} {j : Nat} (hg : w.grownBy w' (some j)) (hj : B j) : Keeps B w w' :=
  ⟨hg.os, hg.tape, hg.output, hg.size, fun k hk hn => hg.block k hk (by intro e; injection e with e; subst e; exact hn hj)⟩
theorem Keeps.setCell {B : Nat → Prop} {w w' : World} (h : Keeps B w w') {j k : Nat} (hj : B j) (v : Value) : Keeps B w (w'.setCell ⟨j, k, none⟩ v) :=
  h.trans (Keeps.grow (j := j) ⟨rfl, rfl, rfl, Nat.le_of_eq (size_setCell _ _ _).symm, fun i _ hn => Below.heap_setCell w' ⟨j, k, none⟩ v i (fun e => hn (by rw [e]))⟩ hj)
/-- All that is turned lies from B on. -/
theorem Keeps.from {B : Nat} {w w' : World} (h : Keeps (fun j => B ≤ j) w w') (hB : B ≤ w.heap.size) : Below B w w' :=
  ⟨h.os, h.tape, h.output, h.size, fun j hj => h.block j (by omega) (by show ¬ B ≤ j; omega)⟩

/-- The parts R, where they lie, and what stands there. -/
structure Roles {R : Type} (w : World) (ids : List Int) (B : Nat → Prop) (ad : R → Option Nat) (c : R → Cont) : Prop where
  holds : ∀ r j, ad r = some j → CHolds w ids j (c r)
  lo : ∀ r j, ad r = some j → B j
  inj : ∀ r r' j, ad r = some j → ad r' = some j → r = r'
  new : ∀ j, w.heap.size ≤ j → B j

open Classical in
/-- f, but y at r. -/
noncomputable def updR {R α : Type} (f : R → α) (r : R) (y : α) : R → α := fun x => if x = r then y else f x
theorem updR_self {R α : Type} (f : R → α) (r : R) (y : α) : updR f r y r = y := if_pos rfl
theorem updR_other {R α : Type} (f : R → α) {r x : R} (y : α) (h : x ≠ r) : updR f r y x = f x := if_neg h

section
variable {R : Type} {w w' : World} {ids : List Int} {B : Nat → Prop} {ad : R → Option Nat} {c : R → Cont}

theorem Roles.none (w : World) (ids : List Int) (B : Nat → Prop) (hn : ∀ j, w.heap.size ≤ j → B j) (c : R → Cont) : Roles w ids B (fun _ => Option.none) c :=
  ⟨fun _ _ h => (by simp at h), fun _ _ h => (by simp at h), fun _ _ _ h => (by simp at h), hn⟩

theorem Roles.lt (h : Roles w ids B ad c) {r : R} {j : Nat} (hr : ad r = some j) : j < w.heap.size := (h.holds r j hr).lt

/-- One part is turned. -/
theorem Roles.turn (h : Roles w ids B ad c) {r : R} {j : Nat} (hr : ad r = some j) (hg : w.grownBy w' (some j)) {k : Cont} (hk : CHolds w' ids j k) : Roles w' ids B ad (updR c r k) := by
  refine ⟨fun x i hx => ?_, h.lo, h.inj, fun i hi => h.new i (Nat.le_trans hg.size hi)⟩
  by_cases e : x = r
  · subst e
    rw [hr] at hx
    injection hx with hx
    subst hx
    rw [updR_self]; exact hk
  · rw [updR_other _ _ e]
    refine (h.holds x i hx).same (hg.block i (h.lt hx) fun e' => ?_)
    injection e' with e'
    subst e'
    exact e (h.inj x r i hx hr)

/-- A part more, in a new block. -/
theorem Roles.add (h : Roles w ids B ad c) {r : R} {j : Nat} (hg : w.grownBy w' Option.none) (hj : w.heap.size ≤ j) {k : Cont} (hk : CHolds w' ids j k) : Roles w' ids B (updR ad r (some j)) (updR c r k) := by
  have key : ∀ x i, updR ad r (some j) x = some i → (x = r ∧ i = j) ∨ (x ≠ r ∧ ad x = some i ∧ i < w.heap.size) := fun x i hx => by
    by_cases e : x = r
    · subst e
      rw [updR_self] at hx
      injection hx with hx
      exact .inl ⟨rfl, hx.symm⟩
    · rw [updR_other _ _ e] at hx
      exact .inr ⟨e, hx, h.lt hx⟩
  refine ⟨fun x i hx => ?_, fun x i hx => ?_, fun x y i hx hy => ?_, fun i hi => h.new i (Nat.le_trans hg.size hi)⟩
  · rcases key x i hx with ⟨rfl, rfl⟩ | ⟨e, h1, h2⟩
    · rw [updR_self]; exact hk
    · rw [updR_other _ _ e]
      exact (h.holds x i h1).same (hg.block i h2 (by simp))
  · rcases key x i hx with ⟨rfl, rfl⟩ | ⟨e, h1, h2⟩
    · exact h.new _ hj
    · exact h.lo x i h1
  · rcases key x i hx with ⟨rfl, rfl⟩ | ⟨e, h1, h2⟩
    · rcases key y i hy with ⟨rfl, _⟩ | ⟨e', h3, h4⟩
      · rfl
      · omega
    · rcases key y i hy with ⟨rfl, rfl⟩ | ⟨e', h3, h4⟩
      · omega
      · exact h.inj x y i h1 h3

/-- What lies elsewhere is turned. -/
theorem Roles.far (h : Roles w ids B ad c) {row : Option Nat} (hg : w.grownBy w' row) (hn : ∀ r j, ad r = some j → row ≠ some j) : Roles w' ids B ad c :=
  ⟨fun x i hx => (h.holds x i hx).same (hg.block i (h.lt hx) fun e => hn x i hx e.symm), h.lo, h.inj, fun i hi => h.new i (Nat.le_trans hg.size hi)⟩

theorem Roles.grown (h : Roles w ids B ad c) (hg : w.grownBy w' Option.none) : Roles w' ids B ad c := h.far hg fun _ _ _ => by simp
theorem Roles.below (h : Roles w ids B ad c) (hb : Below w.heap.size w w') : Roles w' ids B ad c :=
  h.grown ⟨hb.os, hb.tape, hb.output, hb.size, fun j hj _ => hb.block j hj⟩

/-- The same in a narrower zone. -/
theorem Roles.zone (h : Roles w ids B ad c) {B' : Nat → Prop} (hl : ∀ r j, ad r = some j → B' j) (hn : ∀ j, w.heap.size ≤ j → B' j) : Roles w ids B' ad c := ⟨h.holds, hl, h.inj, hn⟩

/-- The map of a part. -/
theorem Roles.map (h : Roles w ids B ad c) {r : R} {j : Nat} {f : Int → Option Value} (hr : ad r = some j) (hc : c r = .map f) : VMap w ids j f := by
  have := h.holds r j hr
  rw [hc] at this
  exact this
theorem Roles.cell (h : Roles w ids B ad c) {r : R} {j k : Nat} {l : List Value} {v : Value} (hr : ad r = some j) (hc : c r = .cells l) (hv : l[k]? = some v) : w.cell? ⟨j, k, Option.none⟩ = some v := by
  have := h.holds r j hr
  rw [hc] at this
  obtain ⟨t, ht⟩ := this
  simp [World.cell?, ht, hv]
theorem Roles.free (h : Roles w ids B ad c) {r : R} {j : Nat} {l : List Value} (hr : ad r = some j) (hc : c r = .cells l) (k : Nat) : w.frozen? ⟨j, k, Option.none⟩ = false := by
  have := h.holds r j hr
  rw [hc] at this
  obtain ⟨t, ht⟩ := this
  simp [World.frozen?, ht]
/-- A cell is set. -/
theorem Roles.setCell (h : Roles w ids B ad c) {r : R} {j k : Nat} {l : List Value} (hr : ad r = some j) (hc : c r = .cells l) (v : Value) : Roles (w.setCell ⟨j, k, Option.none⟩ v) ids B ad (updR c r (.cells (l.set k v))) := by
  have hg : w.grownBy (w.setCell ⟨j, k, Option.none⟩ v) (some j) := ⟨rfl, rfl, rfl, Nat.le_of_eq (size_setCell _ _ _).symm, fun i hi hn => Below.heap_setCell w ⟨j, k, Option.none⟩ v i (fun e => hn (by rw [e]))⟩
  refine h.turn hr hg ?_
  have := h.holds r j hr
  rw [hc] at this
  obtain ⟨t, ht⟩ := this
  exact ⟨t, by simp [World.setCell, Array.getElem?_modify, ht]⟩
/-- An element is laid into a map. -/
theorem Roles.put (h : Roles w ids B ad c) {r : R} {j : Nat} {f : Int → Option Value} {t e : TypeId} (hr : ad r = some j) (hc : c r = .map f) (ht : Tryz.prog.underlying t = some (.map 2 e)) {x : Int} (hx : In64 x) (hm : x ∈ ids) (hids : ids.length ≤ 1048576) (v : Value) :
    ∃ w', (Instr.mapUpdate t (.map (some j)) (.int .i64 x) v).run Tryz.prog w = .ok () w' ∧ Roles w' ids B ad (updR c r (.map (updV f x (some v)))) ∧ w.grownBy w' (some j) := by
  obtain ⟨w', h1, h2, h3⟩ := vmap_put (h.map hr hc) ht hx hm hids v
  exact ⟨w', h1, h.turn hr h3 h2, h3⟩
end
end Go.Proofs.YthpjmjohdliohaaGreat

namespace Go.Proofs.YthpjmjohdliohaaGreat
open Go.RowKit Go.Maps

/-- The blocks of Z are as they were. -/
structure Rests (Z : Nat → Prop) (w w' : World) : Prop where
  os : w'.os = w.os
  tape : w'.tape = w.tape
  output : w'.output = w.output
  size : w.heap.size ≤ w'.heap.size
  blk : ∀ j, Z j → w'.heap[j]? = w.heap[j]?
theorem Rests.refl (Z : Nat → Prop) (w : World) : Rests Z w w := ⟨rfl, rfl, rfl, Nat.le_refl _, fun _ _ => rfl⟩
theorem Rests.trans {Z : Nat → Prop} {w w' w'' : World} (h : Rests Z w w') (k : Rests Z w' w'') : Rests Z w w'' :=
  ⟨k.os.trans h.os, k.tape.trans h.tape, k.output.trans h.output, Nat.le_trans h.size k.size, fun j hj => (k.blk j hj).trans (h.blk j hj)⟩
theorem Rests.less {Z Z' : Nat → Prop} {w w' : World} (h : Rests Z w w') (hs : ∀ j, Z' j → Z j) : Rests Z' w w' := ⟨h.os, h.tape, h.output, h.size, fun j hj => h.blk j (hs j hj)⟩
theorem Rests.grown {Z : Nat → Prop} {w w' : World} {row : Option Nat} (hg : w.grownBy w' row) (hz : ∀ j, Z j → j < w.heap.size) (hn : ∀ j, Z j → row ≠ some j) : Rests Z w w' :=
  ⟨hg.os, hg.tape, hg.output, hg.size, fun j hj => hg.block j (hz j hj) fun e => hn j hj e.symm⟩
theorem Rests.of {Z : Nat → Prop} {w w' : World} (hb : Below w.heap.size w w') (hz : ∀ j, Z j → j < w.heap.size) : Rests Z w w' := ⟨hb.os, hb.tape, hb.output, hb.size, fun j hj => hb.block j (hz j hj)⟩
theorem Rests.bel {w w' : World} {B : Nat} {Z : Nat → Prop} (h : Rests Z w w') (hz : ∀ j, j < B → Z j) : Below B w w' := ⟨h.os, h.tape, h.output, h.size, fun j hj => h.blk j (hz j hj)⟩

/-- Parts R (maps, cells) and rows Q; the blocks of Z are none of them, and are as they were in w0. -/
structure Mem {R Q : Type} (Z : Nat → Prop) (lo : Nat) (w0 w : World) (ids : List Int) (ad : R → Option Nat) (c : R → Cont) (rt : Q → TypeId) (rv : Q → Value) (rx : Q → List Value) : Prop where
  R : Roles w ids (fun _ => True) ad c
  rows : ∀ q, w.ownsRow lo (rt q) 1 (rv q) (rx q).length (rx q)
  ap : ∀ q r j, (rv q).ownBlock = some j → ad r = some j → False
  aq : ∀ q q' j, (rv q).ownBlock = some j → (rv q').ownBlock = some j → q = q'
  zr : ∀ r j, ad r = some j → ¬ Z j
  zq : ∀ q j, (rv q).ownBlock = some j → ¬ Z j
  zl : ∀ j, Z j → j < w0.heap.size
  kp : Rests Z w0 w
  lw : lo ≤ w0.heap.size

section
variable {R Q : Type} {Z : Nat → Prop} {lo : Nat} {w0 w w' : World} {ids : List Int} {ad : R → Option Nat} {c : R → Cont} {rt : Q → TypeId} {rv : Q → Value} {rx : Q → List Value}

theorem Mem.lz (h : Mem Z lo w0 w ids ad c rt rv rx) : lo ≤ w.heap.size := Nat.le_trans h.lw h.kp.size

theorem Mem.zw (h : Mem Z lo w0 w ids ad c rt rv rx) : ∀ j, Z j → j < w.heap.size := fun j hj => Nat.lt_of_lt_of_le (h.zl j hj) h.kp.size

theorem Mem.below (h : Mem Z lo w0 w ids ad c rt rv rx) (hb : Below w.heap.size w w') : Mem Z lo w0 w' ids ad c rt rv rx :=
  ⟨h.R.below hb, fun q => owns_same (h.rows q) fun j hj => hb.block j ((h.rows q).lt j hj).2, h.ap, h.aq, h.zr, h.zq, h.zl, h.kp.trans (Rests.of hb h.zw), h.lw⟩
theorem Mem.drew (h : Mem Z lo w0 w ids ad c rt rv rx) : Mem Z lo w0 w.drew ids ad c rt rv rx := h.below (drew_below w)
theorem Mem.alloc (h : Mem Z lo w0 w ids ad c rt rv rx) (o : Obj) : Mem Z lo w0 (w.alloc o) ids ad c rt rv rx := h.below (alloc_below w o)

/-- One part is turned. -/
theorem Mem.turn (h : Mem Z lo w0 w ids ad c rt rv rx) {r : R} {j : Nat} (hr : ad r = some j) (hg : w.grownBy w' (some j)) {k : Cont} (hk : CHolds w' ids j k) : Mem Z lo w0 w' ids ad (updR c r k) rt rv rx :=
  ⟨h.R.turn hr hg hk, fun q => (h.rows q).kept hg (.inr fun e => h.ap q r j e hr), h.ap, h.aq, h.zr, h.zq, h.zl, h.kp.trans (Rests.grown hg h.zw fun i hi e => by injection e with e; subst e; exact h.zr r _ hr hi), h.lw⟩

theorem Mem.put (h : Mem Z lo w0 w ids ad c rt rv rx) {r : R} {j : Nat} {f : Int → Option Value} {t e : TypeId} (hr : ad r = some j) (hc : c r = .map f) (ht : Tryz.prog.underlying t = some (.map 2 e)) {x : Int} (hx : In64 x) (hm : x ∈ ids) (hids : ids.length ≤ 1048576) (v : Value) :
    ∃ w', (Instr.mapUpdate t (.map (some j)) (.int .i64 x) v).run Tryz.prog w = .ok () w' ∧ Mem Z lo w0 w' ids ad (updR c r (.map (updV f x (some v)))) rt rv rx := by
  obtain ⟨w', h1, h2, h3⟩ := vmap_put (h.R.map hr hc) ht hx hm hids v
  exact ⟨w', h1, h.turn hr h3 h2⟩

theorem Mem.setCell (h : Mem Z lo w0 w ids ad c rt rv rx) {r : R} {j k : Nat} {l : List Value} (hr : ad r = some j) (hc : c r = .cells l) (v : Value) : Mem Z lo w0 (w.setCell ⟨j, k, none⟩ v) ids ad (updR c r (.cells (l.set k v))) rt rv rx := by
  have hg : w.grownBy (w.setCell ⟨j, k, none⟩ v) (some j) := ⟨rfl, rfl, rfl, Nat.le_of_eq (size_setCell _ _ _).symm, fun i _ hn => Below.heap_setCell w ⟨j, k, none⟩ v i (fun e => hn (by rw [e]))⟩
  have := h.R.holds r j hr
  rw [hc] at this
  obtain ⟨t, ht⟩ := this
  exact h.turn hr hg ⟨t, by simp [World.setCell, Array.getElem?_modify, ht]⟩

/-- A part more, in a new block. -/
theorem Mem.add (h : Mem Z lo w0 w ids ad c rt rv rx) {r : R} {j : Nat} (hg : w.grownBy w' none) (hj : w.heap.size ≤ j) {k : Cont} (hk : CHolds w' ids j k) : Mem Z lo w0 w' ids (updR ad r (some j)) (updR c r k) rt rv rx := by
  refine ⟨h.R.add hg hj hk, fun q => (h.rows q).kept hg (by
    rcases hq : (rv q).ownBlock with _ | i
    · exact .inl rfl
    · exact .inr (by simp)), fun q x i h1 h2 => ?_, h.aq, fun x i h2 hz => ?_, h.zq, h.zl, h.kp.trans (Rests.grown hg h.zw fun _ _ => by simp), h.lw⟩
  · by_cases e : x = r
    · subst e
      rw [updR_self] at h2
      injection h2 with h2
      have := ((h.rows q).lt i h1).2
      omega
    · rw [updR_other _ _ e] at h2
      exact h.ap q x i h1 h2
  · by_cases e : x = r
    · subst e
      rw [updR_self] at h2
      injection h2 with h2
      have := h.zw i hz
      omega
    · rw [updR_other _ _ e] at h2
      exact h.zr x i h2 hz

theorem Mem.addAlloc (h : Mem Z lo w0 w ids ad c rt rv rx) (r : R) {o : Obj} {k : Cont} (hk : CHolds (w.alloc o) ids w.heap.size k) : Mem Z lo w0 (w.alloc o) ids (updR ad r (some w.heap.size)) (updR c r k) rt rv rx :=
  h.add (w' := w.alloc o) (r := r) ⟨rfl, rfl, rfl, by simp, fun j hj _ => Below.heap_alloc _ _ _ hj⟩ (Nat.le_refl _) hk

/-- A row has grown by what was appended to it. -/
theorem Mem.app (h : Mem Z lo w0 w ids ad c rt rv rx) {q : Q} {b b1 : Option Addr} {n m cc c1 : Nat} {zs : List Value} {o : Obj} (hq : rv q = .slice b n cc) (hm : m = n + zs.length) (hg : (w.alloc o).grownBy w' (Value.slice b n cc).ownBlock)
    (ho : w'.ownsRow lo (rt q) 1 (.slice b1 m c1) m (rx q ++ zs)) (hat : b1 = b ∨ b1 = some ⟨(w.alloc o).heap.size, 0, none⟩) : Mem Z lo w0 w' ids ad c rt (updR rv q (.slice b1 m c1)) (updR rx q (rx q ++ zs)) := by
  have hz : (w.alloc o).heap.size = w.heap.size + 1 := by simp
  have hlen : (rx q ++ zs).length = m := by have := ho.1; omega
  have hg2 : w.grownBy w' (Value.slice b n cc).ownBlock := ⟨hg.os, hg.tape, hg.output, by have := hg.size; omega, fun j hj hn => (hg.block j (by omega) hn).trans (Below.heap_alloc _ _ _ hj)⟩
  have hnew : ∀ j, (Value.slice b1 m c1).ownBlock = some j → (rv q).ownBlock = some j ∨ w.heap.size ≤ j := fun j hj => by
    rcases hat with rfl | rfl
    · left; rw [hq]; cases b1 <;> exact hj
    · right
      simp only [Value.ownBlock] at hj
      injection hj with hj
      omega
  refine ⟨h.R.far hg2 (fun r j hr e => h.ap q r j (by rw [hq]; exact e) hr), fun x => ?_, fun x r j h1 h2 => ?_, fun x x' j h1 h2 => ?_, h.zr, fun x j h1 hz => ?_, h.zl, h.kp.trans (Rests.grown hg2 h.zw fun i hi e => h.zq q i (by rw [hq]; exact e) hi), h.lw⟩
  · by_cases e : x = q
    · subst e
      rw [updR_self, updR_self, hlen]; exact ho
    · rw [updR_other _ _ e, updR_other _ _ e]
      refine (h.rows x).kept hg2 ?_
      rcases hx : (rv x).ownBlock with _ | i
      · exact .inl rfl
      · exact .inr fun e' => e (h.aq x q i hx (by rw [hq]; exact e'.symm))
  · by_cases e : x = q
    · subst e
      rw [updR_self] at h1
      rcases hnew j h1 with h3 | h3
      · exact h.ap x r j h3 h2
      · have := h.R.lt h2; omega
    · rw [updR_other _ _ e] at h1
      exact h.ap x r j h1 h2
  · have key : ∀ y, y ≠ q → updR rv q (.slice b1 m c1) y = rv y := fun y hy => updR_other _ _ hy
    by_cases e : x = q
    · by_cases e' : x' = q
      · rw [e, e']
      · rw [e, updR_self] at h1
        rw [key x' e'] at h2
        rcases hnew j h1 with h3 | h3
        · exact e.trans (h.aq q x' j h3 h2)
        · have := ((h.rows x').lt j h2).2; omega
    · rw [key x e] at h1
      by_cases e' : x' = q
      · rw [e', updR_self] at h2
        rcases hnew j h2 with h3 | h3
        · exact (h.aq x q j h1 h3).trans e'.symm
        · have := ((h.rows x).lt j h1).2; omega
      · rw [key x' e'] at h2
        exact h.aq x x' j h1 h2
  · by_cases e : x = q
    · subst e
      rw [updR_self] at h1
      rcases hnew j h1 with h3 | h3
      · exact h.zq x j h3 hz
      · have := h.zw j hz; omega
    · rw [updR_other _ _ e] at h1
      exact h.zq x j h1 hz

/-- A row is cut short. -/
theorem Mem.cut (h : Mem Z lo w0 w ids ad c rt rv rx) {q : Q} {b : Option Addr} {n m cc : Nat} {zs : List Value} (hq : rv q = .slice b n cc) (hm : m = zs.length) (hmn : m ≤ n) (hz : zs = (rx q).take m) : Mem Z lo w0 w ids ad c rt (updR rv q (.slice b m cc)) (updR rx q zs) := by
  have hob : (Value.slice b m cc).ownBlock = (rv q).ownBlock := by rw [hq]; cases b <;> rfl
  have hrow : w.ownsRow lo (rt q) 1 (.slice b m cc) m zs := by
    have h0 := h.rows q
    rw [hq] at h0
    obtain ⟨h1, h2 | ⟨g, cap, cur, hv, hb, hh, hc, hcm, hcs, ht⟩⟩ := h0
    · obtain ⟨e1, e2⟩ := h2
      injection e1 with e1 e3 e4
      have hm0 : m = 0 := by omega
      subst hm0; subst e1; subst e4
      refine ⟨by omega, .inl ⟨rfl, rfl⟩⟩
    · injection hv with e1 e2 e3
      subst e1; subst e3
      refine ⟨by omega, .inr ⟨g, cc, cur, rfl, hb, hh, by omega, hcm, hcs, ?_⟩⟩
      rw [hz, ← ht, List.take_take]
      congr 1
      have := h1
      omega
  refine ⟨h.R, fun x => ?_, fun x r j h1 h2 => ?_, fun x x' j h1 h2 => ?_, h.zr, fun x j h1 hzz => ?_, h.zl, h.kp, h.lw⟩
  · by_cases e : x = q
    · subst e
      rw [updR_self, updR_self, ← hm]; exact hrow
    · rw [updR_other _ _ e, updR_other _ _ e]; exact h.rows x
  · by_cases e : x = q
    · subst e
      rw [updR_self, hob] at h1
      exact h.ap x r j h1 h2
    · rw [updR_other _ _ e] at h1
      exact h.ap x r j h1 h2
  · have key : ∀ y j, (updR rv q (.slice b m cc) y).ownBlock = some j → (rv y).ownBlock = some j := fun y j hy => by
      by_cases e : y = q
      · rw [e] at hy ⊢; rw [updR_self, hob] at hy; exact hy
      · rwa [updR_other _ _ e] at hy
    exact h.aq x x' j (key x j h1) (key x' j h2)
  · by_cases e : x = q
    · subst e
      rw [updR_self, hob] at h1
      exact h.zq x j h1 hzz
    · rw [updR_other _ _ e] at h1
      exact h.zq x j h1 hzz

/-- A row that is given up. -/
theorem Mem.drop (h : Mem Z lo w0 w ids ad c rt rv rx) (q : Q) : Mem Z lo w0 w ids ad c rt (updR rv q (.slice none 0 0)) (updR rx q []) := by
  refine ⟨h.R, fun x => ?_, fun x r j h1 h2 => ?_, fun x x' j h1 h2 => ?_, h.zr, fun x j h1 hz => ?_, h.zl, h.kp, h.lw⟩
  · by_cases e : x = q
    · subst e
      rw [updR_self, updR_self]; exact World.ownsRow_nil _ _ _ _
    · rw [updR_other _ _ e, updR_other _ _ e]; exact h.rows x
  · by_cases e : x = q
    · subst e
      rw [updR_self] at h1; cases h1
    · rw [updR_other _ _ e] at h1
      exact h.ap x r j h1 h2
  · have key : ∀ y j, (updR rv q (.slice none 0 0) y).ownBlock = some j → (rv y).ownBlock = some j := fun y j hy => by
      by_cases e : y = q
      · rw [e, updR_self] at hy; cases hy
      · rwa [updR_other _ _ e] at hy
    exact h.aq x x' j (key x j h1) (key x' j h2)
  · by_cases e : x = q
    · subst e
      rw [updR_self] at h1; cases h1
    · rw [updR_other _ _ e] at h1
      exact h.zq x j h1 hz

/-- A row of its own in a new block. -/
theorem Mem.fresh (h : Mem Z lo w0 w ids ad c rt rv rx) (q : Q) {zs : List Value} {n : Nat} (hn : n = zs.length) (hl : n ≤ 1000000) : Mem Z lo w0 (w.alloc (.cells zs.toArray (rt q))) ids ad c rt (updR rv q (.slice (some ⟨w.heap.size, 0, none⟩) n n)) (updR rx q zs) := by
  have h2 := h.alloc (.cells zs.toArray (rt q))
  have hrow : (w.alloc (.cells zs.toArray (rt q))).ownsRow lo (rt q) 1 (.slice (some ⟨w.heap.size, 0, none⟩) n n) n zs := by
    refine ⟨by omega, .inr ⟨w.heap.size, n, zs.toArray, rfl, h.lz, heap_alloc_new _ _, Nat.le_refl _, by unfold maxLen; omega, by simp; omega, ?_⟩⟩
    rw [Nat.mul_one, hn]; simp
  have hob : (Value.slice (some (⟨w.heap.size, 0, none⟩ : Addr)) n n).ownBlock = some w.heap.size := rfl
  refine ⟨h2.R, fun x => ?_, fun x r j h1 h3 => ?_, fun x x' j h1 h3 => ?_, h.zr, fun x j h1 hz => ?_, h.zl, h2.kp, h.lw⟩
  · by_cases e : x = q
    · subst e
      rw [updR_self, updR_self, ← hn]; exact hrow
    · rw [updR_other _ _ e, updR_other _ _ e]; exact h2.rows x
  · by_cases e : x = q
    · subst e
      rw [updR_self, hob] at h1
      injection h1 with h1
      have := h.R.lt h3; omega
    · rw [updR_other _ _ e] at h1
      exact h.ap x r j h1 h3
  · by_cases e : x = q
    · by_cases e' : x' = q
      · rw [e, e']
      · rw [e, updR_self, hob] at h1
        rw [updR_other _ _ e'] at h3
        injection h1 with h1
        have := ((h.rows x').lt j h3).2; omega
    · rw [updR_other _ _ e] at h1
      by_cases e' : x' = q
      · rw [e', updR_self, hob] at h3
        injection h3 with h3
        have := ((h.rows x).lt j h1).2; omega
      · rw [updR_other _ _ e'] at h3
        exact h.aq x x' j h1 h3
  · by_cases e : x = q
    · subst e
      rw [updR_self, hob] at h1
      injection h1 with h1
      have := h.zw j hz; omega
    · rw [updR_other _ _ e] at h1
      exact h.zq x j h1 hz

/-- A row under another name, which had none. -/
theorem Mem.name (h : Mem Z lo w0 w ids ad c rt rv rx) {q q' : Q} (hne : q ≠ q') (ht : rt q = rt q') : Mem Z lo w0 w ids ad c rt (updR (updR rv q' (rv q)) q (.slice none 0 0)) (updR (updR rx q' (rx q)) q []) := by
  have key : ∀ y j, (updR (updR rv q' (rv q)) q (.slice none 0 0) y).ownBlock = some j → (y = q' ∧ (rv q).ownBlock = some j) ∨ (y ≠ q ∧ y ≠ q' ∧ (rv y).ownBlock = some j) := fun y j hy => by
    by_cases e : y = q
    · rw [e, updR_self] at hy; cases hy
    · rw [updR_other _ _ e] at hy
      by_cases e' : y = q'
      · rw [e', updR_self] at hy; exact .inl ⟨e', hy⟩
      · rw [updR_other _ _ e'] at hy; exact .inr ⟨e, e', hy⟩
  refine ⟨h.R, fun x => ?_, fun x r j h1 h2 => ?_, fun x x' j h1 h2 => ?_, h.zr, fun x j h1 hz => ?_, h.zl, h.kp, h.lw⟩
  · by_cases e : x = q
    · subst e
      rw [updR_self, updR_self]; exact World.ownsRow_nil _ _ _ _
    · rw [updR_other _ _ e, updR_other _ _ e]
      by_cases e' : x = q'
      · subst e'
        rw [updR_self, updR_self, ← ht]; exact h.rows q
      · rw [updR_other _ _ e', updR_other _ _ e']; exact h.rows x
  · rcases key x j h1 with ⟨_, h3⟩ | ⟨_, _, h3⟩
    · exact h.ap q r j h3 h2
    · exact h.ap x r j h3 h2
  · rcases key x j h1 with ⟨e1, h3⟩ | ⟨n1, n2, h3⟩
    · rcases key x' j h2 with ⟨e2, _⟩ | ⟨n3, _, h4⟩
      · rw [e1, e2]
      · exact absurd (h.aq q x' j h3 h4) (Ne.symm n3)
    · rcases key x' j h2 with ⟨_, h4⟩ | ⟨_, _, h4⟩
      · exact absurd (h.aq x q j h3 h4) n1
      · exact h.aq x x' j h3 h4
  · rcases key x j h1 with ⟨_, h3⟩ | ⟨_, _, h3⟩
    · exact h.zq q j h3 hz
    · exact h.zq x j h3 hz

/-- Values and contents that are the same by another name. -/
theorem Mem.congr (h : Mem Z lo w0 w ids ad c rt rv rx) {ad' : R → Option Nat} {c' : R → Cont} {rv' : Q → Value} {rx' : Q → List Value} (h1 : ∀ r, ad r = ad' r) (h2 : ∀ r, c r = c' r) (h3 : ∀ q, rv q = rv' q) (h4 : ∀ q, rx q = rx' q) : Mem Z lo w0 w ids ad' c' rt rv' rx' := by
  obtain rfl : ad = ad' := funext h1
  obtain rfl : c = c' := funext h2
  obtain rfl : rv = rv' := funext h3
  obtain rfl : rx = rx' := funext h4
  exact h
/-- The contents of parts that are not there do not matter. -/
theorem Mem.cont (h : Mem Z lo w0 w ids ad c rt rv rx) {c' : R → Cont} (h2 : ∀ r j, ad r = some j → c r = c' r) : Mem Z lo w0 w ids ad c' rt rv rx :=
  ⟨⟨fun r j hr => by rw [← h2 r j hr]; exact h.R.holds r j hr, h.R.lo, h.R.inj, h.R.new⟩, h.rows, h.ap, h.aq, h.zr, h.zq, h.zl, h.kp, h.lw⟩
/-- Parts that are given up. -/
theorem Mem.less (h : Mem Z lo w0 w ids ad c rt rv rx) {ad' : R → Option Nat} (h2 : ∀ r j, ad' r = some j → ad r = some j) : Mem Z lo w0 w ids ad' c rt rv rx :=
  ⟨⟨fun r j hr => h.R.holds r j (h2 r j hr), fun r j hr => h.R.lo r j (h2 r j hr), fun r r' j h1 h3 => h.R.inj r r' j (h2 r j h1) (h2 r' j h3), h.R.new⟩, h.rows, fun q r j h1 h3 => h.ap q r j h1 (h2 r j h3), h.aq, fun r j hr => h.zr r j (h2 r j hr), h.zq, h.zl, h.kp, h.lw⟩
/-- Another block is turned, one of Z: what lies there is told anew. -/
theorem Mem.other (h : Mem Z lo w0 w ids ad c rt rv rx) {j : Nat} (hg : w.grownBy w' (some j)) (hz : Z j) : Mem Z lo w' w' ids ad c rt rv rx :=
  ⟨h.R.far hg (fun r i hr e => by injection e with e; subst e; exact h.zr r _ hr hz), fun q => (h.rows q).kept hg (by
    rcases hq : (rv q).ownBlock with _ | i
    · exact .inl rfl
    · exact .inr fun e => by injection e with e; subst e; exact h.zq q _ hq hz), h.ap, h.aq, h.zr, h.zq, fun i hi => Nat.lt_of_lt_of_le (h.zw i hi) hg.size, Rests.refl _ _, Nat.le_trans h.lz hg.size⟩
/-- All that a call has made besides is reserved. -/
theorem Mem.reserve (h : Mem Z lo w0 w ids ad c rt rv rx) (hb : Below w.heap.size w w') : Mem (fun j => Z j ∨ (w.heap.size ≤ j ∧ j < w'.heap.size)) lo w' w' ids ad c rt rv rx := by
  have h2 := h.below hb
  refine ⟨h2.R, h2.rows, h2.ap, h2.aq, fun r j hr hz => ?_, fun q j hq hz => ?_, fun j hj => ?_, Rests.refl _ _, Nat.le_trans h.lz hb.size⟩
  · rcases hz with hz | hz
    · exact h.zr r j hr hz
    · have := h.R.lt hr; omega
  · rcases hz with hz | hz
    · exact h.zq q j hq hz
    · have := ((h.rows q).lt j hq).2; omega
  · rcases hj with hj | hj
    · exact Nat.lt_of_lt_of_le (h.zw j hj) hb.size
    · exact hj.2
/-- Back to what was reserved before. -/
theorem Mem.back {Z' : Nat → Prop} {w1 : World} (h : Mem Z' lo w1 w ids ad c rt rv rx) (hs : ∀ j, Z j → Z' j) (hk : Rests Z w0 w1) (hz : ∀ j, Z j → j < w0.heap.size) (hl : lo ≤ w0.heap.size) : Mem Z lo w0 w ids ad c rt rv rx :=
  ⟨h.R, h.rows, h.ap, h.aq, fun r j hr hz => h.zr r j hr (hs j hz), fun q j hq hz => h.zq q j hq (hs j hz), hz, hk.trans (h.kp.less hs), hl⟩
end
end Go.Proofs.YthpjmjohdliohaaGreat

namespace Go.Proofs.YthpjmjohdliohaaGreat
open Go.RowKit Go.Maps

/-- The parts: the nodes that have been come to, the trees' maps (over which edges one has come to a node, and from where), the stack's cell, and the sets. -/
inductive PRo
  | done | frm | tom | cell
  | inn (x : Int)
/-- The rows: the stack, the cycles, the one in the making, and those that are made. -/
inductive PQ
  | stk | cyc | cur
  | fin (i : Nat)

/-- A set as a map. -/
def sfun (l : List Int) : Int → Option Value := fun x => if x ∈ l then some (.agg #[]) else none
def tfun (T : List Int) (par : Int → Int) : Int → Option Value := fun x => if x ∈ T then some (nodev (par x)) else none

theorem sfun_put (l : List Int) (y : Int) : updV (sfun l) y (some (.agg #[])) = sfun (y :: l) := by
  funext x
  unfold updV sfun
  by_cases e : x = y <;> simp [e]
theorem sfun_some (l : List Int) (x : Int) : (sfun l x).isSome = decide (x ∈ l) := by
  unfold sfun
  by_cases h : x ∈ l <;> simp [h]
theorem tfun_put {T : List Int} {par : Int → Int} {v u : Int} (hv : v ∉ T) : updV (tfun T par) v (some (nodev u)) = tfun (T ++ [v]) (updF par v u) := by
  funext x
  unfold updV tfun updF
  by_cases e : x = v
  · subst e; simp
  · simp [e]

def patC (ad : PRo → Option Nat) (D : List Int) (tp : Int → Option Value) (fr : Int → List Int) (sv : Value) : PRo → Cont
  | .done => .map (sfun D)
  | .frm => .map fun x => (ad (.inn x)).map fun j => .map (some j)
  | .tom => .map tp
  | .cell => .cells [sv]
  | .inn x => .map (sfun (fr x))
def patT : PQ → TypeId
  | .cyc => 50
  | _ => 85
def patV (sv cv uv : Value) (vs : Nat → Value) : PQ → Value
  | .stk => sv
  | .cyc => cv
  | .cur => uv
  | .fin i => vs i
def patX (st : List Int) (cy : List (List Int)) (vs : Nat → Value) (cur : List Int) : PQ → List Value
  | .stk => nodes st.reverse
  | .cyc => (List.range cy.length).map vs
  | .cur => nodes cur
  | .fin i => nodes (cy.getD i [])

/-- The whole of it. -/
structure PM (Z : Nat → Prop) (lo : Nat) (w0 w : World) (ids : List Int) (jd : Nat) (jf jt : Option Nat) (jc : Nat) (ad : PRo → Option Nat) (D T : List Int) (tp : Int → Option Value) (fr : Int → List Int) (st : List Int) (cy : List (List Int)) (cur : List Int) (sv cv uv : Value) (vs : Nat → Value) : Prop where
  m : Mem Z lo w0 w ids ad (patC ad D tp fr sv) patT (patV sv cv uv vs) (patX st cy vs cur)
  dom : ∀ x, ad (.inn x) ≠ none ↔ x ∈ T
  a1 : ad .done = some jd
  a2 : ad .frm = jf
  a3 : ad .tom = jt
  a4 : ad .cell = some jc
  ve : ∀ i, cy.length ≤ i → vs i = .slice none 0 0

set_option maxRecDepth 100000 in
set_option maxHeartbeats 1000000 in
theorem pHas_any {w : World} {ids : List Int} {j : Nat} {l : List Int} (h : VMap w ids j (sfun l)) {x : Int} (hx : In64 x) :
    Calls Tryz.prog 52 #[.map (some j), .int .i64 x] w fun e w' => e = .returned (.bool (decide (x ∈ l))) ∧ Below w.heap.size w w' := by
  have hl := vmap_look_ok h Tryz.underlying103 (Tryz.zeroValue162 w) hx
  rw [sfun_some] at hl
  have hv : (sfun l x).getD (.agg #[]) = .agg #[] := by
    unfold sfun
    by_cases e : x ∈ l <;> simp [e]
  obtain ⟨b, hb⟩ : ∃ b, b = decide (x ∈ l) := ⟨_, rfl⟩
  rw [hv, ← hb] at hl
  rw [← hb]
  have hbl := Lib.hid (alloc_below w (.cells #[] 162))
  clear hv hb h
  go_enter Tryz.func52, Tryz.ntmps52
  go_wp2_with fail
  go_ret
  exact ⟨rfl, hbl.out⟩

set_option maxHeartbeats 1000000 in
theorem pAdd_any {w : World} {ids : List Int} {j : Nat} {l : List Int} (h : VMap w ids j (sfun l)) {x : Int} (hx : In64 x) (hm : x ∈ ids) (hl : ids.length ≤ 1000) :
    Calls Tryz.prog 53 #[.map (some j), .int .i64 x] w fun e w' => e = .returned (.tuple #[]) ∧ VMap w' ids j (sfun (x :: l)) ∧ w.grownBy w' (some j) := by
  obtain ⟨w7, hrun, hm7, hg7⟩ := vmap_put h Tryz.underlying103 hx hm (by omega) (.agg #[])
  rw [sfun_put] at hm7
  go_enter Tryz.func53, Tryz.ntmps53
  go_wp2_with fail
  go_end0
  exact ⟨rfl, hm7, hg7⟩
end Go.Proofs.YthpjmjohdliohaaGreat

namespace Go.Proofs.YthpjmjohdliohaaGreat
open Go.RowKit Go.Maps

/-- f, but y at i. -/
def updCy (f : Nat → Value) (i : Nat) (y : Value) : Nat → Value := fun j => if j = i then y else f j

section
variable {Z : Nat → Prop} {lo : Nat} {w0 w w' : World} {ids : List Int} {jd jc : Nat} {jf jt : Option Nat} {ad : PRo → Option Nat} {D T : List Int} {tp : Int → Option Value} {fr : Int → List Int} {st : List Int} {cy : List (List Int)} {cur : List Int} {sv cv uv : Value} {vs : Nat → Value}

theorem patC_done (D' : List Int) (r : PRo) : updR (patC ad D tp fr sv) .done (.map (sfun D')) r = patC ad D' tp fr sv r := by cases r <;> simp [updR, patC]
theorem patC_to (tp' : Int → Option Value) (r : PRo) : updR (patC ad D tp fr sv) .tom (.map tp') r = patC ad D tp' fr sv r := by cases r <;> simp [updR, patC]
theorem patC_cell (sv' : Value) (r : PRo) : updR (patC ad D tp fr sv) .cell (.cells [sv']) r = patC ad D tp fr sv' r := by cases r <;> simp [updR, patC]
theorem patC_inn (x : Int) (l : List Int) (r : PRo) : updR (patC ad D tp fr sv) (.inn x) (.map (sfun l)) r = patC ad D tp (updF fr x l) sv r := by
  cases r with
  | inn y =>
    by_cases e : y = x
    · subst e; simp [updR, patC, updF]
    · simp [updR, patC, updF, e]
  | _ => simp [updR, patC]
theorem patV_stk (sv' : Value) (q : PQ) : updR (patV sv cv uv vs) .stk sv' q = patV sv' cv uv vs q := by cases q <;> simp [updR, patV]
theorem patV_cyc (v' : Value) (q : PQ) : updR (patV sv cv uv vs) .cyc v' q = patV sv v' uv vs q := by cases q <;> simp [updR, patV]
theorem patV_cur (v' : Value) (q : PQ) : updR (patV sv cv uv vs) .cur v' q = patV sv cv v' vs q := by cases q <;> simp [updR, patV]
theorem patX_stk {st' : List Int} {x : List Value} (h : x = nodes st'.reverse) (q : PQ) : updR (patX st cy vs cur) .stk x q = patX st' cy vs cur q := by cases q <;> simp [updR, patX, h]
theorem patX_cur {cur' : List Int} {x : List Value} (h : x = nodes cur') (q : PQ) : updR (patX st cy vs cur) .cur x q = patX st cy vs cur' q := by cases q <;> simp [updR, patX, h]

theorem PM.below (h : PM Z lo w0 w ids jd jf jt jc ad D T tp fr st cy cur sv cv uv vs) (hb : Below w.heap.size w w') : PM Z lo w0 w' ids jd jf jt jc ad D T tp fr st cy cur sv cv uv vs := { h with m := h.m.below hb }
theorem PM.other (h : PM Z lo w0 w ids jd jf jt jc ad D T tp fr st cy cur sv cv uv vs) {j : Nat} (hg : w.grownBy w' (some j)) (hz : Z j) : PM Z lo w' w' ids jd jf jt jc ad D T tp fr st cy cur sv cv uv vs := { h with m := h.m.other hg hz }
theorem PM.reserve (h : PM Z lo w0 w ids jd jf jt jc ad D T tp fr st cy cur sv cv uv vs) (hb : Below w.heap.size w w') : PM (fun j => Z j ∨ (w.heap.size ≤ j ∧ j < w'.heap.size)) lo w' w' ids jd jf jt jc ad D T tp fr st cy cur sv cv uv vs := { h with m := h.m.reserve hb }
theorem PM.back {Z' : Nat → Prop} {w1 : World} (h : PM Z' lo w1 w ids jd jf jt jc ad D T tp fr st cy cur sv cv uv vs) (hs : ∀ j, Z j → Z' j) (hk : Rests Z w0 w1) (hz : ∀ j, Z j → j < w0.heap.size) (hl : lo ≤ w0.heap.size) : PM Z lo w0 w ids jd jf jt jc ad D T tp fr st cy cur sv cv uv vs := { h with m := h.m.back hs hk hz hl }

theorem PM.dmap (h : PM Z lo w0 w ids jd jf jt jc ad D T tp fr st cy cur sv cv uv vs) : VMap w ids jd (sfun D) := h.m.R.map (r := .done) h.a1 rfl
theorem PM.fmap {kf : Nat} (h : PM Z lo w0 w ids jd (some kf) jt jc ad D T tp fr st cy cur sv cv uv vs) : VMap w ids kf (fun x => (ad (.inn x)).map fun j => .map (some j)) := h.m.R.map (r := .frm) h.a2 rfl
theorem PM.tmap {kt : Nat} (h : PM Z lo w0 w ids jd jf (some kt) jc ad D T tp fr st cy cur sv cv uv vs) : VMap w ids kt tp := h.m.R.map (r := .tom) h.a3 rfl
theorem PM.imap (h : PM Z lo w0 w ids jd jf jt jc ad D T tp fr st cy cur sv cv uv vs) {x : Int} {j : Nat} (hj : ad (.inn x) = some j) : VMap w ids j (sfun (fr x)) := h.m.R.map (r := .inn x) hj rfl
theorem PM.at_ (h : PM Z lo w0 w ids jd jf jt jc ad D T tp fr st cy cur sv cv uv vs) {x : Int} (hx : x ∈ T) : ∃ j, ad (.inn x) = some j := by
  cases hj : ad (.inn x) with
  | none => exact absurd hj ((h.dom x).2 hx)
  | some j => exact ⟨j, rfl⟩
theorem PM.ccell (h : PM Z lo w0 w ids jd jf jt jc ad D T tp fr st cy cur sv cv uv vs) : w.cell? ⟨jc, 0, none⟩ = some sv := h.m.R.cell (r := .cell) h.a4 rfl rfl
theorem PM.cfree (h : PM Z lo w0 w ids jd jf jt jc ad D T tp fr st cy cur sv cv uv vs) : w.frozen? ⟨jc, 0, none⟩ = false := h.m.R.free (r := .cell) h.a4 rfl 0
theorem PM.lz (h : PM Z lo w0 w ids jd jf jt jc ad D T tp fr st cy cur sv cv uv vs) : lo ≤ w.heap.size := h.m.lz

theorem PM.doneAdd (h : PM Z lo w0 w ids jd jf jt jc ad D T tp fr st cy cur sv cv uv vs) {x : Int} (hm : VMap w' ids jd (sfun (x :: D))) (hg : w.grownBy w' (some jd)) : PM Z lo w0 w' ids jd jf jt jc ad (x :: D) T tp fr st cy cur sv cv uv vs :=
  { h with m := (h.m.turn (r := .done) (k := .map (sfun (x :: D))) h.a1 hg hm).congr (fun _ => rfl) (patC_done _) (fun _ => rfl) (fun _ => rfl) }
theorem PM.toPut {kt : Nat} (h : PM Z lo w0 w ids jd jf (some kt) jc ad D T tp fr st cy cur sv cv uv vs) {t e : TypeId} (ht : Tryz.prog.underlying t = some (.map 2 e)) {x : Int} (hx : In64 x) (hm : x ∈ ids) (hids : ids.length ≤ 1048576) (v : Value) :
    ∃ w', (Instr.mapUpdate t (.map (some kt)) (.int .i64 x) v).run Tryz.prog w = .ok () w' ∧ PM Z lo w0 w' ids jd jf (some kt) jc ad D T (updV tp x (some v)) fr st cy cur sv cv uv vs := by
  obtain ⟨w', h1, h2⟩ := h.m.put (r := .tom) h.a3 rfl ht hx hm hids v
  exact ⟨w', h1, { h with m := h2.congr (fun _ => rfl) (patC_to _) (fun _ => rfl) (fun _ => rfl) }⟩
theorem PM.innAdd (h : PM Z lo w0 w ids jd jf jt jc ad D T tp fr st cy cur sv cv uv vs) {x : Int} {j : Nat} {l : List Int} (hj : ad (.inn x) = some j) (hm : VMap w' ids j (sfun l)) (hg : w.grownBy w' (some j)) : PM Z lo w0 w' ids jd jf jt jc ad D T tp (updF fr x l) st cy cur sv cv uv vs :=
  { h with m := (h.m.turn (r := .inn x) (k := .map (sfun l)) hj hg hm).congr (fun _ => rfl) (patC_inn x l) (fun _ => rfl) (fun _ => rfl) }

/-- A set of a node that is new. -/
theorem PM.newInn {kf : Nat} (h : PM Z lo w0 w ids jd (some kf) jt jc ad D T tp fr st cy cur sv cv uv vs) {t e : TypeId} (ht : Tryz.prog.underlying t = some (.map 2 e)) {x : Int} (hx : In64 x) (hm : x ∈ ids) (hids : ids.length ≤ 1048576) (hn : x ∉ T) :
    ∃ w', (Instr.mapUpdate t (.map (some kf)) (.int .i64 x) (.map (some w.heap.size))).run Tryz.prog (w.alloc (.map #[] 0)) = .ok () w' ∧
      PM Z lo w0 w' ids jd (some kf) jt jc (updR ad (.inn x) (some w.heap.size)) D (T ++ [x]) tp (updF fr x []) st cy cur sv cv uv vs ∧ updR ad (.inn x) (some w.heap.size) (.inn x) = some w.heap.size := by
  have h1 := h.m.addAlloc (.inn x) (o := .map #[] 0) (k := .map (sfun [])) (by
    have := vmap_new w ids
    exact this.congr fun y => by simp [sfun])
  have e2 : updR ad (.inn x) (some w.heap.size) .frm = some kf := by rw [updR_other _ _ (by simp)]; exact h.a2
  obtain ⟨w', r1, r2⟩ := h1.put (r := .frm) (f := fun x => (ad (.inn x)).map fun j => .map (some j)) e2 (by rw [updR_other _ _ (by simp)]; rfl) ht hx hm hids (.map (some w.heap.size))
  refine ⟨w', r1, ⟨r2.congr (fun _ => rfl) (fun r => ?_) (fun _ => rfl) (fun _ => rfl), fun y => ?_, ?_, e2, ?_, ?_, h.ve⟩, updR_self _ _ _⟩
  · cases r with
    | inn y =>
      rw [updR_other _ _ (by simp)]
      exact patC_inn x [] (.inn y)
    | frm =>
      rw [updR_self]
      refine congrArg Cont.map (funext fun y => ?_)
      by_cases ey : y = x
      · subst ey; rw [updV_self, updR_self]; rfl
      · rw [updV_other _ _ ey, updR_other _ _ (by simpa using ey)]
    | _ => simp [updR, patC]
  · by_cases ey : y = x
    · subst ey; rw [updR_self]; simp
    · rw [updR_other _ _ (by simpa using ey), h.dom y]; simp [ey]
  · rw [updR_other _ _ (by simp)]; exact h.a1
  · rw [updR_other _ _ (by simp)]; exact h.a3
  · rw [updR_other _ _ (by simp)]; exact h.a4

/-- A node is laid upon the stack. -/
theorem PM.push (h : PM Z lo w0 w ids jd jf jt jc ad D T tp fr st cy cur sv cv uv vs) {b b1 : Option Addr} {n cc c1 : Nat} {o : Obj} {w1 : World} (hq : sv = .slice b n cc) (x : Int) (hg : (w.alloc o).grownBy w1 (Value.slice b n cc).ownBlock)
    (ho : w1.ownsRow lo 85 1 (.slice b1 (n + 1) c1) (n + 1) (nodes st.reverse ++ [nodev x])) (hat : b1 = b ∨ b1 = some ⟨(w.alloc o).heap.size, 0, none⟩) :
    w1.cell? ⟨jc, 0, none⟩ = some sv ∧ w1.frozen? ⟨jc, 0, none⟩ = false ∧ Hid (PM Z lo w0 (w1.setCell ⟨jc, 0, none⟩ (.slice b1 (n + 1) c1)) ids jd jf jt jc ad D T tp fr (x :: st) cy cur (.slice b1 (n + 1) c1) cv uv vs) := by
  have h1 := h.m.app (q := .stk) (zs := [nodev x]) (m := n + 1) hq rfl hg ho hat
  refine ⟨h1.R.cell (r := .cell) h.a4 rfl rfl, h1.R.free (r := .cell) h.a4 rfl 0, ⟨?_, h.dom, h.a1, h.a2, h.a3, h.a4, h.ve⟩⟩
  exact (h1.setCell (r := .cell) (k := 0) (l := [sv]) h.a4 rfl (.slice b1 (n + 1) c1)).congr (fun _ => rfl) (patC_cell _) (patV_stk _) (patX_stk (by simp [patX, nodes]))

/-- The last node is taken from the stack. -/
theorem PM.pop {y : Int} {g n cc : Nat} (h : PM Z lo w0 w ids jd jf jt jc ad D T tp fr (y :: st) cy cur sv cv uv vs) (hq : sv = .slice (some ⟨g, 0, none⟩) (n + 1) cc) (hn : n = st.length) :
    w.cell? ⟨g, n, none⟩ = some (nodev y) ∧ Hid (PM Z lo w0 (w.setCell ⟨jc, 0, none⟩ (.slice (some ⟨g, 0, none⟩) n cc)) ids jd jf jt jc ad D T tp fr st cy cur (.slice (some ⟨g, 0, none⟩) n cc) cv uv vs) := by
  subst hn
  have hrow := h.m.rows .stk
  have hrev : nodes (y :: st).reverse = nodes st.reverse ++ [nodev y] := by simp [nodes]
  have hlen : (nodes (y :: st).reverse).length = st.length + 1 := by rw [nodes_length]; simp
  have hrow' : w.ownsRow lo 85 1 (.slice (some ⟨g, 0, none⟩) (st.length + 1) cc) (st.length + 1) (nodes (y :: st).reverse) := by
    have e : patV sv cv uv vs .stk = .slice (some ⟨g, 0, none⟩) (st.length + 1) cc := hq
    rw [e] at hrow
    have e2 : (patX (y :: st) cy vs cur .stk).length = st.length + 1 := hlen
    rw [e2] at hrow
    exact hrow
  refine ⟨owns_cell hrow' (by rw [hrev, List.getElem?_append_right (by rw [nodes_length, List.length_reverse]; exact Nat.le_refl _)]; simp [nodes_length]), ⟨?_, h.dom, h.a1, h.a2, h.a3, h.a4, h.ve⟩⟩
  have h1 := h.m.cut (q := .stk) (m := st.length) (zs := nodes st.reverse) hq (by rw [nodes_length, List.length_reverse]) (by omega) (by
    show _ = (nodes (y :: st).reverse).take st.length
    rw [hrev, List.take_append_of_le_length (by rw [nodes_length, List.length_reverse]; exact Nat.le_refl _), List.take_of_length_le (by rw [nodes_length, List.length_reverse]; exact Nat.le_refl _)])
  exact (h1.setCell (r := .cell) (k := 0) (l := [sv]) h.a4 rfl (.slice (some ⟨g, 0, none⟩) st.length cc)).congr (fun _ => rfl) (patC_cell _) (patV_stk _) (patX_stk rfl)

/-- The stack's cell is written anew. -/
theorem PM.same (h : PM Z lo w0 w ids jd jf jt jc ad D T tp fr st cy cur sv cv uv vs) : PM Z lo w0 (w.setCell ⟨jc, 0, none⟩ sv) ids jd jf jt jc ad D T tp fr st cy cur sv cv uv vs :=
  { h with m := (h.m.setCell (r := .cell) (k := 0) (l := [sv]) h.a4 rfl sv).congr (fun _ => rfl) (patC_cell _) (fun _ => rfl) (fun _ => rfl) }

/-- A cycle is begun. -/
theorem PM.curNew (h : PM Z lo w0 w ids jd jf jt jc ad D T tp fr st cy cur sv cv uv vs) (x y : Int) : PM Z lo w0 (w.alloc (.cells #[nodev x, nodev y] 85)) ids jd jf jt jc ad D T tp fr st cy [x, y] sv cv (.slice (some ⟨w.heap.size, 0, none⟩) 2 2) vs :=
  { h with m := (h.m.fresh .cur (zs := [nodev x, nodev y]) (n := 2) rfl (by omega)).congr (fun _ => rfl) (fun _ => rfl) (patV_cur _) (patX_cur rfl) }

theorem PM.crow (h : PM Z lo w0 w ids jd jf jt jc ad D T tp fr st cy cur sv cv uv vs) : w.ownsRow lo 85 1 uv (nodes cur).length (nodes cur) := h.m.rows .cur
theorem PM.srow (h : PM Z lo w0 w ids jd jf jt jc ad D T tp fr st cy cur sv cv uv vs) : w.ownsRow lo 85 1 sv (nodes st.reverse).length (nodes st.reverse) := h.m.rows .stk
theorem PM.yrow (h : PM Z lo w0 w ids jd jf jt jc ad D T tp fr st cy cur sv cv uv vs) : w.ownsRow lo 50 1 cv ((List.range cy.length).map vs).length ((List.range cy.length).map vs) := h.m.rows .cyc

/-- Nodes are appended to it. -/
theorem PM.curApp (h : PM Z lo w0 w ids jd jf jt jc ad D T tp fr st cy cur sv cv uv vs) {b b1 : Option Addr} {n m cc c1 : Nat} {o : Obj} {w1 : World} {zs : List Int} (hq : uv = .slice b n cc) (hm : m = n + zs.length) (hg : (w.alloc o).grownBy w1 (Value.slice b n cc).ownBlock)
    (ho : w1.ownsRow lo 85 1 (.slice b1 m c1) m (nodes cur ++ nodes zs)) (hat : b1 = b ∨ b1 = some ⟨(w.alloc o).heap.size, 0, none⟩) :
    PM Z lo w0 w1 ids jd jf jt jc ad D T tp fr st cy (cur ++ zs) sv cv (.slice b1 m c1) vs :=
  { h with m := (h.m.app (q := .cur) (zs := nodes zs) (m := m) hq (by rw [nodes_length]; exact hm) hg ho hat).congr (fun _ => rfl) (fun _ => rfl) (patV_cur _) (patX_cur (by simp [patX, nodes])) }

/-- It is laid to the others. -/
theorem PM.cycApp (h : PM Z lo w0 w ids jd jf jt jc ad D T tp fr st cy cur sv cv uv vs) {b b1 : Option Addr} {n cc c1 : Nat} {o : Obj} {w1 : World} (hq : cv = .slice b n cc) (hg : (w.alloc o).grownBy w1 (Value.slice b n cc).ownBlock)
    (ho : w1.ownsRow lo 50 1 (.slice b1 (n + 1) c1) (n + 1) ((List.range cy.length).map vs ++ [uv])) (hat : b1 = b ∨ b1 = some ⟨(w.alloc o).heap.size, 0, none⟩) :
    PM Z lo w0 w1 ids jd jf jt jc ad D T tp fr st (cy ++ [cur]) [] sv (.slice b1 (n + 1) c1) (.slice none 0 0) (updCy vs cy.length uv) := by
  have h1 := h.m.app (q := .cyc) (zs := [uv]) (m := n + 1) hq rfl hg ho hat
  have h2 := h1.name (q := .cur) (q' := .fin cy.length) (by simp) rfl
  refine ⟨h2.congr (fun _ => rfl) (fun _ => rfl) (fun q => ?_) (fun q => ?_), h.dom, h.a1, h.a2, h.a3, h.a4, fun i hi => ?_⟩
  · cases q with
    | fin i =>
      by_cases e : i = cy.length
      · subst e; simp [updR, patV, updCy]
      · simp [updR, patV, updCy, e]
    | _ => simp [updR, patV]
  · cases q with
    | fin i =>
      by_cases e : i = cy.length
      · subst e; simp [updR, patX]
      · rcases Nat.lt_or_ge i cy.length with hl | hl
        · simp [updR, patX, e, List.getElem?_append_left hl]
        · have h3 : cy.length + 1 ≤ i := by omega
          simp [updR, patX, e, List.getElem?_eq_none hl, List.getElem?_eq_none (show (cy ++ [cur]).length ≤ i by simp; omega)]
    | cyc =>
      simp only [updR, patX, reduceCtorEq, if_false, if_true, List.length_append, List.length_singleton, List.range_succ, List.map_append, List.map_cons, List.map_nil]
      congr 1
      · refine List.map_congr_left fun i hi => ?_
        have := List.mem_range.1 hi
        simp [updCy, show i ≠ cy.length by omega]
      · simp [updCy]
    | _ => simp [updR, patX, nodes]
  · have hl : (cy ++ [cur]).length = cy.length + 1 := by simp
    rw [hl] at hi
    simp only [updCy, show i ≠ cy.length by omega, if_false]
    exact h.ve i (by omega)

/-- What stays of the parts when a new tree is begun. -/
def adRoot (jd jc : Nat) : PRo → Option Nat
  | .done => some jd
  | .cell => some jc
  | _ => none

/-- The maps of a new tree. -/
theorem PM.newRoot (h : PM Z lo w0 w ids jd jf jt jc ad D T tp fr st cy cur sv cv uv vs) {tF eF tT eT : TypeId} (htF : Tryz.prog.underlying tF = some (.map 2 eF)) (htT : Tryz.prog.underlying tT = some (.map 2 eT)) {x : Int} (hx : In64 x) (hm : x ∈ ids) (hids : ids.length ≤ 1048576) :
    ∃ w3 w5 ad', (Instr.mapUpdate tF (.map (some w.heap.size)) (.int .i64 x) (.map (some (w.heap.size + 1)))).run Tryz.prog ((w.alloc (.map #[] 0)).alloc (.map #[] 0)) = .ok () w3 ∧
      (Instr.mapUpdate tT (.map (some w3.heap.size)) (.int .i64 x) (nodev x)).run Tryz.prog (w3.alloc (.map #[] 0)) = .ok () w5 ∧
      PM Z lo w0 w5 ids jd (some w.heap.size) (some w3.heap.size) jc ad' D [x] (tfun [x] fun _ => x) (fun _ => []) st cy cur sv cv uv vs := by
  have h0 := h.m.less (ad' := adRoot jd jc) (fun r j hr => by
    cases r with
    | done => rw [h.a1]; exact hr
    | cell => rw [h.a4]; exact hr
    | _ => cases hr)
  have h1 := h0.addAlloc .frm (o := .map #[] 0) (k := .map (fun _ => none)) (vmap_new w ids)
  have z1 : (w.alloc (.map #[] 0)).heap.size = w.heap.size + 1 := by simp
  have h2 := h1.addAlloc (.inn x) (o := .map #[] 0) (k := .map (sfun [])) ((vmap_new _ ids).congr fun y => by simp [sfun])
  rw [z1] at h2
  obtain ⟨w3, r3, h3⟩ := h2.put (r := .frm) (f := fun _ => none) (by rw [updR_other _ _ (by simp), updR_self]) (by rw [updR_other _ _ (by simp), updR_self]) htF hx hm hids (.map (some (w.heap.size + 1)))
  have h4 := h3.addAlloc .tom (o := .map #[] 0) (k := .map (fun _ => none)) (vmap_new w3 ids)
  obtain ⟨w5, r5, h5⟩ := h4.put (r := .tom) (f := fun _ => none) (updR_self _ _ _) (updR_self _ _ _) htT hx hm hids (nodev x)
  refine ⟨w3, w5, updR (updR (updR (adRoot jd jc) .frm (some w.heap.size)) (.inn x) (some (w.heap.size + 1))) .tom (some w3.heap.size), r3, r5, ⟨?_, fun y => ?_, ?_, ?_, updR_self _ _ _, ?_, h.ve⟩⟩
  · refine Mem.cont h5 fun r j hr => ?_
    cases r with
    | done => simp [updR, patC]
    | cell => simp [updR, patC]
    | tom =>
      rw [updR_self]
      refine congrArg Cont.map (funext fun y => ?_)
      unfold updV tfun
      by_cases ey : y = x <;> simp [ey]
    | frm =>
      simp only [updR, patC, reduceCtorEq, if_false, if_true]
      refine congrArg Cont.map (funext fun y => ?_)
      unfold updV
      by_cases ey : y = x
      · subst ey; simp
      · simp [ey, adRoot]
    | inn y =>
      by_cases ey : y = x
      · subst ey; simp [updR, patC]
      · exfalso
        simp [updR, adRoot, ey] at hr
  · by_cases ey : y = x
    · subst ey; simp [updR]
    · simp [updR, adRoot, ey]
  · simp [updR, adRoot]
  · simp [updR]
  · simp [updR, adRoot]
theorem PM.rebase (h : PM Z lo w0 w ids jd jf jt jc ad D T tp fr st cy cur sv cv uv vs) : PM Z lo w w ids jd jf jt jc ad D T tp fr st cy cur sv cv uv vs :=
  { h with m := ⟨h.m.R, h.m.rows, h.m.ap, h.m.aq, h.m.zr, h.m.zq, h.m.zw, Rests.refl _ _, h.m.lz⟩ }

/-- All at its start. -/
theorem PM.init (w : World) (ids : List Int) (t : TypeId) : PM (fun j => j < w.heap.size) w.heap.size w ((w.alloc (.map #[] 0)).alloc (.cells #[.slice none 0 0] t)) ids w.heap.size none none (w.heap.size + 1) (adRoot w.heap.size (w.heap.size + 1)) [] [] (fun _ => none) (fun _ => []) [] [] [] (.slice none 0 0) (.slice none 0 0) (.slice none 0 0) (fun _ => .slice none 0 0) := by
  have h0 : Mem (R := PRo) (fun j => j < w.heap.size) w.heap.size w w ids (fun _ => none) (fun _ => .cells []) patT (fun _ => .slice none 0 0) (fun _ => []) :=
    ⟨Roles.none w ids _ (fun _ _ => trivial) _, fun q => World.ownsRow_nil _ _ _ _, fun q r j h _ => (by cases h), fun q q' j h _ => (by cases h), fun r j h => (by cases h), fun q j h => (by cases h), fun j hj => hj, Rests.refl _ _, Nat.le_refl _⟩
  have z1 : (w.alloc (.map #[] 0)).heap.size = w.heap.size + 1 := by simp
  have h1 := h0.addAlloc .done (o := .map #[] 0) (k := .map (sfun [])) ((vmap_new w ids).congr fun y => by simp [sfun])
  have h2 := h1.addAlloc .cell (o := .cells #[.slice none 0 0] t) (k := .cells [.slice none 0 0]) ⟨t, heap_alloc_new _ _⟩
  rw [z1] at h2
  refine ⟨(h2.congr (ad' := adRoot w.heap.size (w.heap.size + 1)) (rv' := patV (.slice none 0 0) (.slice none 0 0) (.slice none 0 0) fun _ => .slice none 0 0) (rx' := patX [] [] (fun _ => .slice none 0 0) []) (fun r => ?_) (fun _ => rfl) (fun q => ?_) (fun q => ?_)).cont fun r j hr => ?_, fun x => by simp [adRoot], rfl, rfl, rfl, rfl, fun _ _ => rfl⟩
  · cases r <;> simp [updR, adRoot]
  · cases q <;> rfl
  · cases q <;> simp [patX, nodes]
  · cases r with
    | done => simp [updR, patC]
    | cell => simp [updR, patC]
    | _ => cases hr

/-- A tree is given up. -/
theorem PM.close (h : PM Z lo w0 w ids jd jf jt jc ad D T tp fr st cy cur sv cv uv vs) : PM Z lo w0 w ids jd none none jc (adRoot jd jc) D [] tp fr st cy cur sv cv uv vs := by
  have h0 := h.m.less (ad' := adRoot jd jc) (fun r j hr => by
    cases r with
    | done => rw [h.a1]; exact hr
    | cell => rw [h.a4]; exact hr
    | _ => cases hr)
  refine ⟨h0.cont fun r j hr => ?_, fun x => by simp [adRoot], rfl, rfl, rfl, rfl, h.ve⟩
  cases r with
  | done => rfl
  | cell => rfl
  | _ => cases hr
end
end Go.Proofs.YthpjmjohdliohaaGreat

namespace Go.Proofs.YthpjmjohdliohaaGreat
open Go.RowKit Go.Maps

section
variable {Z : Nat → Prop} {lo : Nat} {w0 w w' : World} {ids : List Int} {jd jc : Nat} {jf jt : Option Nat} {ad : PRo → Option Nat} {D T : List Int} {tp : Int → Option Value} {fr : Int → List Int} {st : List Int} {cy : List (List Int)} {cur : List Int} {sv cv uv : Value} {vs : Nat → Value}

set_option maxRecDepth 100000 in
set_option maxHeartbeats 1000000 in
theorem pHasT_any {kf : Nat} (h : PM Z lo w0 w ids jd (some kf) jt jc ad D T tp fr st cy cur sv cv uv vs) {x : Int} (hx : In64 x) :
    Calls Tryz.prog 57 #[.map (some kf), .int .i64 x] w fun e w' => e = .returned (.bool (decide (x ∈ T))) ∧ w = w' := by
  have hl := vmap_look_ok h.fmap Tryz.underlying118 (Tryz.zeroValue103 w) hx
  obtain ⟨b, hb⟩ : ∃ b, b = decide (x ∈ T) := ⟨_, rfl⟩
  have hb2 : ((ad (.inn x)).map fun j => Value.map (some j)).isSome = b := by
    rw [hb, Option.isSome_map]
    cases hj : ad (.inn x) with
    | none =>
      have : x ∉ T := fun hx => (h.dom x).2 hx hj
      simp [this]
    | some j =>
      have : x ∈ T := (h.dom x).1 (by rw [hj]; simp)
      simp [this]
  rw [hb2] at hl
  obtain ⟨v, hv⟩ : ∃ v, v = ((ad (.inn x)).map fun j => Value.map (some j)).getD (.map none) := ⟨_, rfl⟩
  rw [← hv] at hl
  rw [← hb]
  clear hv hb hb2 h
  go_enter Tryz.func57, Tryz.ntmps57
  go_wp2_with fail
  go_ret
  exact ⟨by first | rfl | trivial, by first | rfl | trivial⟩

set_option maxRecDepth 100000 in
set_option maxHeartbeats 1000000 in
theorem pAddNew_any {kf : Nat} (h : PM Z lo w0 w ids jd (some kf) jt jc ad D T tp fr st cy cur sv cv uv vs) {u x : Int} (hu : In64 u) (hum : u ∈ ids) (hx : In64 x) (hm : x ∈ ids) (hids : ids.length ≤ 1000) (hn : x ∉ T) :
    Calls Tryz.prog 58 #[.map (some kf), .int .i64 u, .int .i64 x] w fun e w' => e = .returned (.tuple #[]) ∧ ∃ ad', (∀ y, y ≠ x → ad' (.inn y) = ad (.inn y)) ∧ PM Z lo w0 w' ids jd (some kf) jt jc ad' D (T ++ [x]) tp (updF fr x [u]) st cy cur sv cv uv vs := by
  have hl := vmap_look_ok h.fmap Tryz.underlying118 (Tryz.zeroValue103 w) hx
  have hno : ad (.inn x) = none := by
    cases hj : ad (.inn x) with
    | none => rfl
    | some j => exact absurd ((h.dom x).1 (by rw [hj]; simp)) hn
  simp only [hno, Option.map_none, Option.getD_none, Option.isSome_none] at hl
  obtain ⟨w2, hrun, hP2, hj2⟩ := h.newInn Tryz.underlying118 hx hm (by omega) hn
  have hadd := Lib.hid (pAdd_any (hP2.imap hj2) hu hum hids)
  have hP2h := Lib.hid hP2
  have hj2h := Lib.hid hj2
  have hmm := @run_makeMap Tryz.prog
  clear h hP2 hj2 hno
  go_enter Tryz.func58, Tryz.ntmps58
  go_wp2_with fail
  refine (unhide hadd).mono ?_
  rintro e w3 ⟨rfl, hV, hg⟩
  have h3 := hP2h.out.innAdd hj2h.out hV hg
  have hfin : Hid (∃ ad', (∀ y, y ≠ x → ad' (.inn y) = ad (.inn y)) ∧ PM Z lo w0 w3 ids jd (some kf) jt jc ad' D (T ++ [x]) tp (updF fr x [u]) st cy cur sv cv uv vs) := by
    refine ⟨updR ad (.inn x) (some w.heap.size), fun y hy => updR_other _ _ (by simpa using hy), ?_⟩
    have e : updF (updF fr x []) x (u :: updF fr x [] x) = updF fr x [u] := by
      funext y
      unfold updF
      by_cases ey : y = x <;> simp [ey]
    rw [e] at h3
    exact h3
  clear hV hg h3 hadd hmm
  go_wp2_with fail
  go_end0
  exact ⟨rfl, hfin.out⟩

set_option maxRecDepth 100000 in
set_option maxHeartbeats 1000000 in
theorem pPush_any (h : PM Z lo w0 w ids jd jf jt jc ad D T tp fr st cy cur sv cv uv vs) {a : Option Addr} {n c : Nat} (hs : sv = .slice a n c) (hn : n = st.length) (hS : n ≤ 2000) (x : Int) :
    Calls Tryz.prog 54 #[.pointer (some ⟨jc, 0, none⟩), .iface 127 (.int .i64 x)] w
      fun e w' => e = .returned (.tuple #[]) ∧ ∃ b1 c1, PM Z lo w0 w' ids jd jf jt jc ad D T tp fr (x :: st) cy cur (.slice b1 (n + 1) c1) cv uv vs := by
  subst hs
  have c2 := h.ccell
  have ho : Hid (∀ o, (w.alloc o).ownsRow lo 85 1 (.slice a n c) n (nodes st.reverse)) := fun o => by
    have := h.srow.alloc o
    rwa [nodes_length, List.length_reverse, ← hn] at this
  have hBz := h.lz
  have hh := Lib.hid h
  clear h hn
  go_enter Tryz.func54, Tryz.ntmps54
  go_wp2_with (at_builtin; refine append_law 101 85 .nilIface 1 16 Tryz.underlying101 info_node rfl (by omega) (by omega) rfl _ _ rfl lo a n c (nodes st.reverse) rfl (unhide ho _) ⟨w.heap.size, 0, none⟩ 1 1 [.iface 127 (.int .i64 x)] rfl rfl (new_one w _ _) (one_node _) (by omega) (by simp; omega) ?_; intro b2 c2' w2 hown2 hg2 hat2; obtain ⟨q1, q2, q3⟩ := hh.out.push rfl x hg2 hown2 hat2; clear hown2 hg2 hat2 ho hh)
  go_end0
  exact ⟨rfl, _, _, q3.out⟩

theorem pLen_any (h : PM Z lo w0 w ids jd jf jt jc ad D T tp fr st cy cur sv cv uv vs) {a : Option Addr} {n c : Nat} (hs : sv = .slice a n c) :
    Calls Tryz.prog 55 #[.pointer (some ⟨jc, 0, none⟩)] w fun e w' => e = .returned (.int .i64 n) ∧ w = w' := by
  subst hs
  have c2 := h.ccell
  clear h
  go_enter Tryz.func55, Tryz.ntmps55
  go_wp2
  go_ret
  exact ⟨by first | rfl | trivial, by first | rfl | trivial⟩

set_option maxRecDepth 100000 in
set_option maxHeartbeats 1000000 in
theorem pPop_any {y : Int} (h : PM Z lo w0 w ids jd jf jt jc ad D T tp fr (y :: st) cy cur sv cv uv vs) {a : Option Addr} {n c : Nat} (hs : sv = .slice a (n + 1) c) (hn : n = st.length) (hS : n ≤ 2000) :
    Calls Tryz.prog 56 #[.pointer (some ⟨jc, 0, none⟩)] w
      fun e w' => e = .returned (.iface 127 (.int .i64 y)) ∧ ∃ b1 c1, PM Z lo w0 w' ids jd jf jt jc ad D T tp fr st cy cur (.slice b1 n c1) cv uv vs := by
  subst hs
  have c2 := h.ccell
  have f2 := h.cfree
  have hos := h.srow
  rw [nodes_length, List.length_reverse, List.length_cons, ← hn] at hos
  obtain ⟨g, rfl, _, _, hcap⟩ := owns_at hos (by omega)
  have hP : Hid (∀ W, Below w.heap.size w W → W.cell? ⟨g, n, none⟩ = some (.iface 127 (.int .i64 y)) ∧ PM Z lo w0 (W.setCell ⟨jc, 0, none⟩ (.slice (some ⟨g, 0, none⟩) n c)) ids jd jf jt jc ad D T tp fr st cy cur (.slice (some ⟨g, 0, none⟩) n c) cv uv vs) := fun W hW => by
    obtain ⟨p1, p2⟩ := (h.below hW).pop rfl hn
    exact ⟨p1, p2.out⟩
  obtain ⟨p1, _⟩ := hP.out w (Below.refl _ _)
  have i1 : ((n + 1 : Nat) : Int) - 1 = (n : Int) := by omega
  have e2 : (n : Int) < ((n + 1 : Nat) : Int) := by omega
  have e3 : (n : Int) ≤ (c : Int) := by omega
  clear h hos hn
  go_enter Tryz.func56, Tryz.ntmps56
  go_wp2_with fail
  go_quiet (fail)
  obtain ⟨_, q1⟩ := hP.out (w.drewN nq) (drewN_below w nq)
  have q1h := Lib.hid q1
  clear q1 hP
  go_wp2_with fail
  go_ret
  exact ⟨rfl, _, _, q1h.out⟩
end
end Go.Proofs.YthpjmjohdliohaaGreat
