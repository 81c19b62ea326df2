/- The successors in a plain graph. -/
import Derived.Test.YtagnmdhdogaijaaGreatFrom
namespace Go.Proofs.YtagnmdhdogaijaaGreat
open Go.RowKit

/-- The successors in a plain graph. -/
def succOf (ids : List Int) (outs : List (List Arc)) (x : Int) : List Int := endsOf ids (outs.getD (posOf ids x) [])

theorem succ_mem {w : World} {pb : Nat} {ids : List Int} {outs ins : List (List Arc)} (h : PlainAt w pb ids outs ins) (x : Int) : ∀ y ∈ succOf ids outs x, y ∈ ids := by
  intro y hy
  obtain ⟨a, ha, rfl⟩ := List.mem_map.1 hy
  have : a.1 < ids.length := by
    rcases Nat.lt_or_ge (posOf ids x) outs.length with hl | hl
    · have hm : outs.getD (posOf ids x) [] ∈ outs := by
        simp [hl]
      exact (h.okOut _ hm).2 a ha
    · rw [List.getD_eq_getElem?_getD, List.getElem?_eq_none hl] at ha; simp at ha
  simp [this]
theorem succ_len {w : World} {pb : Nat} {ids : List Int} {outs ins : List (List Arc)} (h : PlainAt w pb ids outs ins) (x : Int) : (succOf ids outs x).length ≤ ids.length := by
  unfold succOf endsOf
  rw [List.length_map]
  rcases Nat.lt_or_ge (posOf ids x) outs.length with hl | hl
  · have hm : outs.getD (posOf ids x) [] ∈ outs := by simp [hl]
    exact asc_short (h.okOut _ hm)
  · rw [List.getD_eq_getElem?_getD, List.getElem?_eq_none hl]; simp
end Go.Proofs.YtagnmdhdogaijaaGreat
