/- FnSortByNamed: what the walk needs to know of the two orders. -/
import Derived.Test.YtagnmdhdogaijaaGreatNameLaw
import Derived.Test.YtagnmdhdogaijaaGreatCond0
namespace Go.Proofs.YtagnmdhdogaijaaGreat
open Go.RowKit

section
variable {g : Gr} {pl : List Int} (h : PlOk g pl)
include h

theorem cycBy_nil : (cycBy pl (gBy g pl) (gBy g pl).length).length = (cycL (stComps (namG pl g.edges)) (stComps (namG pl g.edges)).length).length := by
  have e := congrArg List.length (cycs_name h)
  rw [List.length_map, List.length_map, List.length_reverse, List.length_reverse] at e
  exact e

theorem gBy_len : (gBy g pl).length = (stComps (namG pl g.edges)).length := by rw [nam_comps h, List.length_map]

/-- A place of both orders. -/
theorem top_at {k : Nat} (hk : k < (((stComps (namG pl g.edges)).map topO).reverse).length) :
    ∃ hk' : k < (((gBy g pl).map topO).reverse).length, (((gBy g pl).map topO).reverse)[k] = ((((stComps (namG pl g.edges)).map topO).reverse)[k]).map (nameAt pl) ∧
      ∀ x, (((stComps (namG pl g.edges)).map topO).reverse)[k] = some x → ∃ j : Nat, ∃ hj : j < pl.length, x = (j : Int) ∧ nameAt pl x = pl[j] := by
  have hk' : k < (((gBy g pl).map topO).reverse).length := by
    rw [List.length_reverse, List.length_map] at hk ⊢
    rw [gBy_len h]; exact hk
  refine ⟨hk', ?_, fun x hx => ?_⟩
  · simp only [tops_name h, List.getElem_map]
  · have hm : some x ∈ ((stComps (namG pl g.edges)).map topO).reverse := hx ▸ List.getElem_mem hk
    rw [List.mem_reverse, List.mem_map] at hm
    obtain ⟨c, hc, e⟩ := hm
    unfold topO at e
    by_cases h1 : c.length = 1
    · rw [if_pos h1] at e
      match c, h1, hc, e with
      | [a], _, hc, e =>
        injection e with e
        have ha : a = x := e
        subst ha
        obtain ⟨j, hj, rfl⟩ := condNodes_mem.1 (st_mem h hc (List.mem_singleton.2 rfl))
        exact ⟨j, hj, rfl, by unfold nameAt; simp [hj]⟩
    · rw [if_neg h1] at e; cases e

/-- A list of both. -/
theorem cyc_at {k : Nat} (hk : k < ((cycL (stComps (namG pl g.edges)) (stComps (namG pl g.edges)).length).reverse).length) :
    ∃ hk' : k < ((cycBy pl (gBy g pl) (gBy g pl).length).reverse).length, asc ((cycBy pl (gBy g pl) (gBy g pl).length).reverse)[k] = asc ((((cycL (stComps (namG pl g.edges)) (stComps (namG pl g.edges)).length).reverse)[k]).map (nameAt pl)) ∧
      (∀ i (hi : i < (((cycL (stComps (namG pl g.edges)) (stComps (namG pl g.edges)).length).reverse)[k]).length), ∃ j : Nat, ∃ hj : j < pl.length, (((cycL (stComps (namG pl g.edges)) (stComps (namG pl g.edges)).length).reverse)[k])[i] = (j : Int) ∧ nameAt pl (((cycL (stComps (namG pl g.edges)) (stComps (namG pl g.edges)).length).reverse)[k])[i] = pl[j]) := by
  have hk' : k < ((cycBy pl (gBy g pl) (gBy g pl).length).reverse).length := by
    rw [List.length_reverse] at hk ⊢
    rw [cycBy_nil h]; exact hk
  refine ⟨hk', ?_, fun i hi => ?_⟩
  · have e := cycs_name h
    have e1 : (((cycBy pl (gBy g pl) (gBy g pl).length).reverse).map asc)[k]'(by rw [List.length_map]; exact hk') = (((cycL (stComps (namG pl g.edges)) (stComps (namG pl g.edges)).length).reverse).map fun d => asc (d.map (nameAt pl)))[k]'(by rw [List.length_map]; exact hk) := by
      simp only [e]
    rw [List.getElem_map, List.getElem_map] at e1
    exact e1
  · have hm := List.mem_reverse.1 (List.getElem_mem hk)
    obtain ⟨d, hd, e⟩ := cycL_mem hm
    have hx := List.getElem_mem hi
    obtain ⟨x, hxe⟩ : ∃ x, x = (((cycL (stComps (namG pl g.edges)) (stComps (namG pl g.edges)).length).reverse)[k])[i] := ⟨_, rfl⟩
    rw [← hxe] at hx ⊢
    rw [e, asc_mem] at hx
    rcases hd with rfl | hd
    · cases hx
    · obtain ⟨j, hj, rfl⟩ := condNodes_mem.1 (st_mem h hd hx)
      exact ⟨j, hj, rfl, by unfold nameAt; simp [hj]⟩

/-- The lists are not longer than the graph. -/
theorem cycN_len {k : Nat} (hk : k < ((cycBy pl (gBy g pl) (gBy g pl).length).reverse).length) (hk2 : k < ((cycL (stComps (namG pl g.edges)) (stComps (namG pl g.edges)).length).reverse).length) :
    (((cycBy pl (gBy g pl) (gBy g pl).length).reverse)[k]).length = (((cycL (stComps (namG pl g.edges)) (stComps (namG pl g.edges)).length).reverse)[k]).length := by
  obtain ⟨_, e, _⟩ := cyc_at h hk2
  have := congrArg List.length e
  rw [asc_length, asc_length, List.length_map] at this
  exact this
theorem st_len {k : Nat} (hk : k < ((cycL (stComps (namG pl g.edges)) (stComps (namG pl g.edges)).length).reverse).length) : (((cycL (stComps (namG pl g.edges)) (stComps (namG pl g.edges)).length).reverse)[k]).length ≤ pl.length := by
  have hm := List.mem_reverse.1 (List.getElem_mem hk)
  obtain ⟨d, hd, e⟩ := cycL_mem hm
  rw [e, asc_length]
  rcases hd with rfl | hd
  · exact Nat.zero_le _
  · have h1 := nodup_len (st_ok h).nd (fun x hx => ((st_ok h).mem x).1 hx)
    rw [List.length_reverse, condNodes_length] at h1
    exact Nat.le_trans (mem_len hd) h1
theorem st_cnt : (stComps (namG pl g.edges)).length ≤ pl.length := by
  have h1 := nodup_len (st_ok h).nd (fun x hx => ((st_ok h).mem x).1 hx)
  rw [List.length_reverse, condNodes_length] at h1
  exact Nat.le_trans (flatten_len (st_ok h).ne) h1
end
end Go.Proofs.YtagnmdhdogaijaaGreat
