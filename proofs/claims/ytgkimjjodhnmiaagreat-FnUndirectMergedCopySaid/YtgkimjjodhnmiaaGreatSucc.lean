/- The successors in a plain graph.
   The successors in a graph that was read. -/
import Derived.Test.YtgkimjjodhnmiaaGreatFrom
import Derived.Test.YtgkimjjodhnmiaaGreatTabs
namespace Go.Proofs.YtgkimjjodhnmiaaGreat
open Go.RowKit

/-- The successors in a plain graph. -/
def succOf (ids : List Int) (outs : List (List Arc)) (x : Int) : List Int := endsOf ids (outs.getD (posOf ids x) [])

theorem succ_mem {w : World} {pb : Nat} {ids : List Int} {outs ins : List (List Arc)} (h : PlainAt w pb ids outs ins) (x : Int) : ∀ y ∈ succOf ids outs x, y ∈ ids := by
  intro y hy
  obtain ⟨a, ha, rfl⟩ := List.mem_map.1 hy
  have : a.1 < ids.length := by
    rcases Nat.lt_or_ge (posOf ids x) outs.length with hl | hl
    · have hm : outs.getD (posOf ids x) [] ∈ outs := by
        simp [hl]
      exact (h.okOut _ hm).2 a ha
    · rw [List.getD_eq_getElem?_getD, List.getElem?_eq_none hl] at ha; simp at ha
  simp [this]
theorem succ_len {w : World} {pb : Nat} {ids : List Int} {outs ins : List (List Arc)} (h : PlainAt w pb ids outs ins) (x : Int) : (succOf ids outs x).length ≤ ids.length := by
  unfold succOf endsOf
  rw [List.length_map]
  rcases Nat.lt_or_ge (posOf ids x) outs.length with hl | hl
  · have hm : outs.getD (posOf ids x) [] ∈ outs := by simp [hl]
    exact asc_short (h.okOut _ hm)
  · rw [List.getD_eq_getElem?_getD, List.getElem?_eq_none hl]; simp
end Go.Proofs.YtgkimjjodhnmiaaGreat

namespace Go.Proofs.YtgkimjjodhnmiaaGreat

/-- The tables of a graph. -/
def outsOf (g : Gr) : List (List Arc) := (tabs bitsOf (asc g.nodes) g.dir g.edges).1
def gSucc (g : Gr) (x : Int) : List Int := succOf (asc g.nodes) (outsOf g) x

theorem gSucc_mem {g : Gr} (hok : okGraph g = true) {x y : Int} (hx : x ∈ g.nodes) : y ∈ gSucc g x ↔ y ∈ g.nodes ∧ arcB g x y = true := by
  have ht := graph_tabs hok
  have hup : (asc g.nodes).Pairwise (· < ·) := asc_incr (by
    unfold okGraph at hok
    rw [Bool.and_eq_true] at hok
    exact of_decide_eq_true hok.1)
  obtain ⟨hp, hpe⟩ := posOf_mem hup (asc_mem.2 hx)
  have hlen : posOf (asc g.nodes) x < (outsOf g).length := by rw [show (outsOf g).length = (asc g.nodes).length from ht.l1]; exact hp
  have hrow : RowOk (asc g.nodes).length ((outsOf g).getD (posOf (asc g.nodes) x) []) := by
    refine ht.r1 _ ?_
    show (outsOf g).getD _ [] ∈ outsOf g
    simp [hlen]
  unfold gSucc succOf endsOf
  rw [List.mem_map]
  constructor
  · rintro ⟨a, ha, rfl⟩
    have hal := hrow.2 a ha
    have h1 := ht.out (posOf (asc g.nodes) x) a.1 hp hal
    have h2 : arcHas ((outsOf g).getD (posOf (asc g.nodes) x) []) a.1 = true := List.any_eq_true.2 ⟨a, ha, by simp⟩
    have e : (asc g.nodes).getD a.1 0 = (asc g.nodes)[a.1] := by simp [hal]
    rw [e]
    refine ⟨asc_mem.1 (List.getElem_mem _), ?_⟩
    rw [show arcHas ((tabs bitsOf (asc g.nodes) g.dir g.edges).1.getD (posOf (asc g.nodes) x) []) a.1 = true from h2, hpe] at h1
    exact h1.symm
  · rintro ⟨hy, harc⟩
    obtain ⟨hq, hqe⟩ := posOf_mem hup (asc_mem.2 hy)
    have h1 := ht.out (posOf (asc g.nodes) x) (posOf (asc g.nodes) y) hp hq
    rw [hpe, hqe] at h1
    have h2 : arcHas ((outsOf g).getD (posOf (asc g.nodes) x) []) (posOf (asc g.nodes) y) = true := h1.trans harc
    obtain ⟨a, ha, hae⟩ := List.any_eq_true.1 h2
    refine ⟨a, ha, ?_⟩
    have : a.1 = posOf (asc g.nodes) y := by simpa using hae
    rw [this]
    simp [hq, hqe]
end Go.Proofs.YtgkimjjodhnmiaaGreat
