/- slices.Sort, slices.Clone, slices.Compact at []int64: the shelf's contracts in the words of 'ownsRow'. -/
import Derived.Test.YtgkimjjodhnmiaaGreatShelf
import Derived.Test.YtgkimjjodhnmiaaGreatInts2
import Derived.Sort.OwnSorted
namespace Go.Proofs.YtgkimjjodhnmiaaGreat
open Go.RowKit Go.Sort Go.Lib

theorem holds_owns {w : World} {base e n cap g : Nat} {zs : List Int} (h : w.ownsRow base e 1 (.slice (some ⟨g, 0, none⟩) n cap) n (ints zs)) : Holds (Value.int .i64) w g 0 zs.toArray := by
  intro j hj
  have hj' : j < zs.length := by simpa using hj
  rw [Nat.zero_add]
  refine ⟨?_, owns_free h j⟩
  have e : zs.toArray[j]! = zs[j] := by simp [hj']
  rw [e]
  exact owns_cell h (ints_get zs j hj')

theorem owns_put {w : World} {base e n cap g k : Nat} {os : Array Obj} {zs ys : List Int} (h : w.ownsRow base e 1 (.slice (some ⟨g, 0, none⟩) n cap) n (ints zs)) (hl : ys.length = zs.length) :
    (grow (putRow (Value.int .i64) (Sort.ahead w k) g 0 ys.toArray) os).ownsRow base e 1 (.slice (some ⟨g, 0, none⟩) n cap) n (ints ys) := by
  have hzl : (ints zs).length = n * 1 := h.1
  have hzs : zs.length = n := by simpa [ints] using hzl
  obtain ⟨_, h | ⟨g', cap', cur, hv, hg, hh, hn, hm, hs, ht⟩⟩ := h
  · simp at h
  · injection hv with hv _ hcap
    injection hv with hv
    injection hv with hv _ _
    subst hv; subst hcap
    refine ⟨by simp [ints, hl, hzs], .inr ⟨g, cap, putCells (Value.int .i64) 0 ys.toArray cur, rfl, hg, ?_, hn, hm, by simp [putCells, hs], ?_⟩⟩
    · have hgl : g < w.heap.size := lt_of_block hh
      rw [heap_grow_old _ _ (by simpa using hgl)]
      simp [putRow, mapBlock, Sort.ahead, Array.getElem?_modify, hh, onCells]
    · apply List.ext_getElem?
      intro j
      by_cases hj : j < n
      · rw [List.getElem?_take_of_lt (by omega), Array.getElem?_toList]
        simp [putCells, ints, hl, hzs, hj, show j < cur.size by omega]
      · rw [List.getElem?_take_eq_none (by omega), List.getElem?_eq_none (by simp [ints, hl, hzs]; omega)]

theorem grown_put {w : World} {g n : Nat} {os : Array Obj} (d : Array Int) : w.grownBy (grow (putRow (Value.int .i64) (Sort.ahead w n) g 0 d) os) (some g) := by
  refine ⟨rfl, rfl, rfl, by simp, fun k hk hne => ?_⟩
  rw [heap_grow_old _ _ (by simpa using hk)]
  have : g ≠ k := fun e => hne (by rw [e])
  simp [putRow, mapBlock, Sort.ahead, Array.getElem?_modify, this]

theorem sort64_any (base n cap : Nat) (a : Option Addr) (zs : List Int) (w : World) (hn : n ≤ 1048576) (hown : w.ownsRow base 2 1 (.slice a n cap) n (ints zs)) :
    Calls Tryz.prog 36 #[.slice a n cap] w fun e w' => e = .returned (.tuple #[]) ∧ w'.ownsRow base 2 1 (.slice a n cap) n (ints (asc zs)) ∧ w.grownBy w' (Value.slice a n cap).ownBlock := by
  have hl : zs.length = n := by have := hown.1; simpa [ints] using this
  by_cases h0 : n = 0
  · subst h0
    have hz : zs = [] := List.eq_nil_of_length_eq_zero hl
    subst hz
    refine (Tryz.slices_Sort_int_none_f36 a cap w).mono ?_
    rintro e w' ⟨rfl, rfl⟩
    exact ⟨rfl, by simpa [asc] using hown, World.grownBy.refl _ _⟩
  · obtain ⟨g, rfl, _, hg, _⟩ := owns_at hown (by omega)
    subst hl
    refine (Tryz.slices_Sort_int_f36 g 0 cap zs w (holds_owns hown) hg (by omega)).mono ?_
    rintro e w' ⟨rfl, k, os, rfl⟩
    exact ⟨rfl, owns_put (ys := asc zs) hown (asc_length zs), grown_put _⟩

theorem clone64_any (base n cap : Nat) (a : Option Addr) (zs : List Int) (w : World) (hn : n ≤ 1048576) (hown : w.ownsRow base 2 1 (.slice a n cap) n (ints zs)) :
    Calls Tryz.prog 38 #[.slice a n cap] w fun e w' => ∃ a' cap', e = .returned (.slice a' n cap') ∧ w'.ownsRow w.heap.size 2 1 (.slice a' n cap') n (ints zs) ∧ Below w.heap.size w w' := by
  have hl : zs.length = n := by have := hown.1; simpa [ints] using this
  rcases owns_head hown with rfl | ⟨g, rfl⟩
  · have hn0 : n = 0 := by
      rcases Nat.eq_zero_or_pos n with h | h
      · exact h
      · obtain ⟨g, h1, _⟩ := owns_at hown h; cases h1
    subst hn0
    have hz : zs = [] := List.eq_nil_of_length_eq_zero hl
    subst hz
    refine (Tryz.slices_Clone_nil_f38 0 cap w).mono ?_
    rintro e w' ⟨rfl, rfl⟩
    exact ⟨none, 0, rfl, World.ownsRow_nil _ _ _ _, Below.refl _ _⟩
  · obtain ⟨i0, hi0, hz0, hz1, hz2⟩ := info_parts info_int64
    refine (Tryz.slices_Clone_f38 i0 _ 1 8 hi0 hz0 hz1 hz2 rfl (by omega) Tryz.sizeOf2 g 0 n cap (ints zs) w (by simp [ints, hl]) (by unfold maxLen; omega) (by omega)
      (fun j u hj => by rw [Nat.zero_add]; exact owns_cell hown hj) (ints_one zs)).mono ?_
    rintro e w' ⟨v', rfl, hown', _, hb⟩
    obtain ⟨a', cap', rfl, _⟩ := owns_cells hown'
    exact ⟨a', cap', rfl, hown', hb⟩

theorem filter_full {α : Type} {p : α → Bool} {l : List α} : (l.filter p).length = l.length ↔ ∀ x ∈ l, p x = true := by
  rw [List.length_filter_eq_length_iff]

theorem compact_full (zs : List Int) (hs : zs.Pairwise (· ≤ ·)) : ((compactUpTo zs.toArray zs.length).length = zs.length) ↔ zs.Pairwise (· < ·) := by
  unfold compactUpTo
  rw [List.length_map]
  have h1 : ((List.range zs.length).filter (keeps zs.toArray)).length = zs.length ↔ ∀ j ∈ List.range zs.length, keeps zs.toArray j = true := by
    have := filter_full (p := keeps zs.toArray) (l := List.range zs.length)
    rwa [List.length_range] at this
  rw [h1]
  constructor
  · intro h
    refine pairwise_of_adj fun j hj h0 => ?_
    have h2 := h j (List.mem_range.2 hj)
    have e1 : zs.toArray[j]! = zs[j] := by simp [hj]
    have e2 : zs.toArray[j - 1]! = zs[j - 1] := by simp [show j - 1 < zs.length by omega]
    unfold keeps at h2
    rw [e1, e2] at h2
    have h3 := of_decide_eq_true h2
    have h4 := List.pairwise_iff_getElem.1 hs (j - 1) j (by omega) hj (by omega)
    omega
  · intro h j hj
    rw [List.mem_range] at hj
    have e1 : zs.toArray[j]! = zs[j] := by simp [hj]
    unfold keeps
    by_cases h0 : j = 0
    · exact decide_eq_true (.inl h0)
    · have e2 : zs.toArray[j - 1]! = zs[j - 1] := by simp [show j - 1 < zs.length by omega]
      have h4 := List.pairwise_iff_getElem.1 h (j - 1) j (by omega) hj (by omega)
      rw [e1, e2]
      exact decide_eq_true (.inr (by omega))

theorem compact_le (zs : List Int) : (compactUpTo zs.toArray zs.length).length ≤ zs.length := by
  unfold compactUpTo
  rw [List.length_map]
  exact Nat.le_trans (List.length_filter_le _ _) (by simp)

theorem compact64_any (base n cap : Nat) (a : Option Addr) (zs : List Int) (w : World) (hn : n ≤ 1048576) (hown : w.ownsRow base 2 1 (.slice a n cap) n (ints zs)) (hs : zs.Pairwise (· ≤ ·)) :
    Calls Tryz.prog 37 #[.slice a n cap] w fun e w' => ∃ a' m c', e = .returned (.slice a' m c') ∧ m ≤ n ∧ (m = n ↔ zs.Pairwise (· < ·)) ∧ w.grownBy w' (Value.slice a n cap).ownBlock := by
  have hl : zs.length = n := by have := hown.1; simpa [ints] using this
  by_cases h0 : n = 0
  · subst h0
    have hz : zs = [] := List.eq_nil_of_length_eq_zero hl
    subst hz
    go_enter Tryz.func37, Tryz.ntmps37
    go_wp2
    go_ret
    exact ⟨a, 0, cap, rfl, Nat.le_refl _, by simp, World.grownBy.refl _ _⟩
  · obtain ⟨g, rfl, _, hg, hc⟩ := owns_at hown (by omega)
    subst hl
    refine (Tryz.slices_Compact (Value.int .i64) (fun _ => rfl) (EqlAt.intD _ _ .i64) (NeqAt.intD _ _ .i64) 0 Tryz.zeroValue2 g 0 cap zs.toArray w (holds_owns hown) (by simp; omega) (by simpa using hc)).mono ?_
    rintro e w' ⟨rfl, q, rfl⟩
    refine ⟨_, _, _, rfl, by simpa using compact_le zs, by simpa using compact_full zs hs, ?_⟩
    have := grown_put (w := w) (g := g) (n := q) (os := #[]) (compactUpTo zs.toArray zs.toArray.size ++ List.replicate (zs.toArray.size - (compactUpTo zs.toArray zs.toArray.size).length) 0).toArray
    rwa [grow_empty] at this
end Go.Proofs.YtgkimjjodhnmiaaGreat
