/- The plain law of FnEqual: what topo.Equal compares, in the words of the graphs. -/
import Derived.Test.YtaolfdmmadfncaaStepLaw
namespace Go.Proofs.Ytaolfdmmadfncaa

/-- What topo.Equal compares. -/
def eqP (idsA : List Int) (outsA : List (List Arc)) (idsB : List Int) (outsB : List (List Arc)) : Prop :=
  asc idsA = asc idsB ∧ ∀ x ∈ asc idsA, asc (succOf idsA outsA x) = asc (succOf idsB outsB x)

instance (idsA : List Int) (outsA : List (List Arc)) (idsB : List Int) (outsB : List (List Arc)) : Decidable (eqP idsA outsA idsB outsB) := by unfold eqP; exact inferInstance

theorem asc_asc (zs : List Int) : asc (asc zs) = asc zs := (asc_unique (zs := asc zs) (List.Perm.refl _) (asc_sorted zs)).symm

/-- Two lists of numbers have the same ones: in order they are the same, if none stands twice. -/
theorem asc_ext {xs ys : List Int} (hx : xs.Nodup) (hy : ys.Nodup) : asc xs = asc ys ↔ ∀ z, z ∈ xs ↔ z ∈ ys := by
  constructor
  · intro h z
    rw [← asc_mem (zs := xs), ← asc_mem (zs := ys), h]
  · intro h
    have hp : xs.Perm ys := (List.perm_ext_iff_of_nodup hx hy).2 h
    exact asc_unique ((asc_perm xs).trans hp) (asc_sorted xs)

/-- Where the ends of a row's arcs ascend none stands twice. -/
theorem succ_nodup {ids : List Int} {outs : List (List Arc)} (hup : ids.Pairwise (· < ·)) (hok : ∀ l ∈ outs, RowOk ids.length l) (x : Int) : (succOf ids outs x).Nodup := by
  unfold succOf endsOf
  have hrow : RowOk ids.length (outs.getD (posOf ids x) []) := by
    rcases Nat.lt_or_ge (posOf ids x) outs.length with hl | hl
    · have hm : outs.getD (posOf ids x) [] ∈ outs := by simp [hl]
      exact hok _ hm
    · rw [List.getD_eq_getElem?_getD, List.getElem?_eq_none hl]; exact RowOk.nil _
  generalize outs.getD (posOf ids x) [] = l at hrow
  show (l.map fun a => ids.getD a.1 0).Pairwise (· ≠ ·)
  rw [List.pairwise_map]
  refine hrow.1.imp_of_mem fun {a b} ha hb hab => ?_
  have h1 := hrow.2 a ha
  have h2 := hrow.2 b hb
  have := List.pairwise_iff_getElem.1 hup a.1 b.1 h1 h2 hab
  simp only [List.getD_eq_getElem?_getD, List.getElem?_eq_getElem h1, List.getElem?_eq_getElem h2, Option.getD_some]
  omega

/-- Two graphs have the same nodes, and the same edges but for weights. -/
def sameG (a b : Gr) : Prop := asc a.nodes = asc b.nodes ∧ ∀ x ∈ asc a.nodes, ∀ y ∈ asc a.nodes, arcB a x y = arcB b x y

theorem eqP_iff {a b : Gr} (ha : okGraph a = true) (hb : okGraph b = true) : eqP (asc a.nodes) (outsOf a) (asc b.nodes) (outsOf b) ↔ sameG a b := by
  have hta := graph_tabs ha
  have htb := graph_tabs hb
  have upA : (asc a.nodes).Pairwise (· < ·) := asc_incr (by unfold okGraph at ha; rw [Bool.and_eq_true] at ha; exact of_decide_eq_true ha.1)
  have upB : (asc b.nodes).Pairwise (· < ·) := asc_incr (by unfold okGraph at hb; rw [Bool.and_eq_true] at hb; exact of_decide_eq_true hb.1)
  have nA := fun x => succ_nodup (outs := outsOf a) upA hta.r1 x
  have nB := fun x => succ_nodup (outs := outsOf b) upB htb.r1 x
  unfold eqP sameG
  rw [asc_asc, asc_asc]
  constructor
  · rintro ⟨h1, h2⟩
    refine ⟨h1, fun x hx y hy => ?_⟩
    have h := (asc_ext (nA x) (nB x)).1 (h2 x hx) y
    have hxb : x ∈ asc b.nodes := h1 ▸ hx
    have hyb : y ∈ asc b.nodes := h1 ▸ hy
    have e1 := gSucc_mem ha (y := y) (asc_mem.1 hx)
    have e2 := gSucc_mem hb (y := y) (asc_mem.1 hxb)
    unfold gSucc at e1 e2
    rw [e1, e2] at h
    rw [Bool.eq_iff_iff]
    constructor
    · intro k; exact (h.1 ⟨asc_mem.1 hy, k⟩).2
    · intro k; exact (h.2 ⟨asc_mem.1 hyb, k⟩).2
  · rintro ⟨h1, h2⟩
    refine ⟨h1, fun x hx => (asc_ext (nA x) (nB x)).2 fun y => ?_⟩
    have hxb : x ∈ asc b.nodes := h1 ▸ hx
    have e1 := gSucc_mem ha (y := y) (asc_mem.1 hx)
    have e2 := gSucc_mem hb (y := y) (asc_mem.1 hxb)
    unfold gSucc at e1 e2
    rw [e1, e2]
    constructor
    · rintro ⟨k1, k2⟩
      have k1' : y ∈ asc a.nodes := asc_mem.2 k1
      exact ⟨asc_mem.1 (h1 ▸ k1'), by rw [← h2 x hx y k1']; exact k2⟩
    · rintro ⟨k1, k2⟩
      have k1' : y ∈ asc a.nodes := h1.symm ▸ asc_mem.2 k1
      exact ⟨asc_mem.1 k1', by rw [h2 x hx y k1']; exact k2⟩
end Go.Proofs.Ytaolfdmmadfncaa
