/- FnSCCOrder: the plain law. -/
import Derived.Test.YtagnmdhdogaijaaGreatParts
namespace Go.Proofs.YtagnmdhdogaijaaGreat
open Go.RowKit

theorem flatten_asc (l : List (List Int)) : (l.map asc).flatten.Perm l.flatten := by
  induction l with
  | nil => exact List.Perm.refl _
  | cons c l ih => simp only [List.map_cons, List.flatten_cons]; exact (asc_perm c).append ih

theorem nodup_perm {l m : List Int} (hl : l.Nodup) (hm : m.Nodup) (h : ∀ x, x ∈ l ↔ x ∈ m) : l.Perm m := by
  induction l generalizing m with
  | nil =>
    have : m = [] := List.eq_nil_iff_forall_not_mem.2 fun x hx => by have := (h x).2 hx; cases this
    rw [this]
  | cons a l ih =>
    have hn := List.nodup_cons.1 hl
    have ha : a ∈ m := (h a).1 List.mem_cons_self
    have h1 : l.Perm (m.erase a) := ih hn.2 (hm.erase a) fun x => by
      rw [hm.mem_erase_iff]
      constructor
      · intro hx
        exact ⟨fun e => hn.1 (e ▸ hx), (h x).1 (List.mem_cons_of_mem _ hx)⟩
      · rintro ⟨h1, h2⟩
        rcases List.mem_cons.1 ((h x).2 h2) with e | e
        · exact absurd e h1
        · exact e
    exact (h1.cons a).trans (List.perm_cons_erase ha).symm

theorem asc_of_perm {l m : List Int} (h : l.Perm m) : asc l = asc m := asc_unique ((asc_perm l).trans h) (asc_sorted l)

structure OrderOk (g : Gr) (L : List (List Int)) : Prop where
  ne : ∀ x ∈ L, x ≠ []
  inc : ∀ x ∈ L, incr x = true
  perm : asc L.flatten = asc g.nodes
  len : L.flatten.length = g.nodes.length
  cnt : L.length ≤ g.nodes.length
  law : ∀ k (hk : k < L.length) i (hi : i < g.edges.length), g.edges[i].1 ∈ L[k] → (L.take (k + 1)).any (fun c => decide (g.edges[i].2.1 ∈ c)) = true

theorem order_ok {g : Gr} (hok : okGraph g = true) : OrderOk g (gSccs g) := by
  have hok' := hok
  unfold okGraph at hok'
  rw [Bool.and_eq_true, List.all_eq_true] at hok'
  have hnd : g.nodes.Nodup := of_decide_eq_true hok'.1
  have hs : SccOk (asc g.nodes) (gSucc g) (sccsOf (gSucc g) (asc g.nodes)) := sccs_ok fun x hx y hy => asc_mem.2 ((gSucc_mem hok (asc_mem.1 hx)).1 hy).1
  unfold gSccs
  obtain ⟨M, hM⟩ : ∃ M, M = sccsOf (gSucc g) (asc g.nodes) := ⟨_, rfl⟩
  rw [← hM] at hs ⊢
  have hp1 := flatten_asc M
  have hp2 : M.flatten.Perm g.nodes := nodup_perm hs.nd hnd fun x => by rw [hs.mem x, asc_mem]
  have hp := hp1.trans hp2
  have hcn : ∀ c ∈ M, c.Nodup := fun c hc => by
    have h1 := hs.nd
    have : ∀ (l : List (List Int)), l.flatten.Nodup → ∀ c ∈ l, c.Nodup := fun l => by
      induction l with
      | nil => intro _ c hc; cases hc
      | cons d l ih =>
        intro hl c hc
        rw [List.flatten_cons, List.nodup_append] at hl
        rcases List.mem_cons.1 hc with e | e
        · exact e ▸ hl.1
        · exact ih hl.2.1 c e
    exact this M h1 c hc
  have hne : ∀ x ∈ M.map asc, x ≠ [] := fun x hx e => by
    obtain ⟨c, hc, rfl⟩ := List.mem_map.1 hx
    have h1 := List.length_pos_iff.2 (hs.ne c hc)
    have h2 := asc_length c
    rw [e] at h2
    simp at h2; omega
  refine ⟨hne, fun x hx => ?_, asc_of_perm hp, hp.length_eq, ?_, fun k hk i hi hm => ?_⟩
  · obtain ⟨c, hc, rfl⟩ := List.mem_map.1 hx
    rw [incr_asc]; exact decide_eq_true (hcn c hc)
  · have := flatten_len hne
    rw [hp.length_eq] at this; exact this
  · have hk' : k < M.length := by rw [List.length_map] at hk; exact hk
    have hoke := of_decide_eq_true (hok'.2 _ (List.getElem_mem hi))
    rw [List.getElem_map, asc_mem] at hm
    have hsucc : g.edges[i].2.1 ∈ gSucc g g.edges[i].1 := (gSucc_mem hok hoke.2.1).2 ⟨hoke.2.2.1, arcB_true hi (by unfold hits; simp)⟩
    have h1 := hs.closed k hk' g.edges[i].1 (by simpa [hk'] using hm) _ hsucc
    obtain ⟨c, hc, hcm⟩ := List.mem_flatten.1 h1
    rw [← List.map_take, List.any_map, List.any_eq_true]
    exact ⟨c, hc, by simpa [asc_mem] using hcm⟩

/-- What the innermost loop has found. -/
def foundB (L : List (List Int)) (y : Int) (j : Nat) : Bool := (L.take j).any fun c => decide (y ∈ c)
theorem foundB_zero (L : List (List Int)) (y : Int) : foundB L y 0 = false := rfl
theorem foundB_succ (L : List (List Int)) (y : Int) (j : Nat) (hj : j < L.length) : foundB L y (j + 1) = (foundB L y j || decide (y ∈ L[j])) := by
  unfold foundB
  rw [List.take_succ_eq_append_getElem hj, List.any_append]; simp

/-- A row of a list of lists, as it is read. -/
theorem row_at {w : World} {D c : Nat} {a : Option Addr} {vs : List Value} {l : List (List Int)} (ho : w.ownsRow D 22 1 (.slice a l.length c) l.length vs) (hr : IRows w D vs l) (k : Nat) (hk : k < l.length) :
    ∃ g ag cg, a = some ⟨g, 0, none⟩ ∧ w.cell? ⟨g, k, none⟩ = some (.slice ag l[k].length cg) ∧ Cells w ag (ints l[k]) := by
  have hvl : vs.length = l.length := hr.1
  have hv : vs[k]? = some (vs[k]'(by omega)) := List.getElem?_eq_getElem _
  have hrow := hr.2 k _ _ hv (List.getElem?_eq_getElem hk)
  obtain ⟨ag, cg, e, _, hcs, _⟩ := owns_cells hrow
  rw [e] at hv
  obtain ⟨g, rfl, _⟩ := owns_at ho (by omega)
  exact ⟨g, ag, cg, rfl, owns_cell ho hv, hcs⟩
end Go.Proofs.YtagnmdhdogaijaaGreat
