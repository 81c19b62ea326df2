/- slices.Clone at []int, and laws.sorted: a new row with the numbers in ascending order.
   slices.Sort, slices.Clone, slices.Compact at []int64: the shelf's contracts in the words of 'ownsRow'.
   impl.read: a graph laid into a plain one.
   Lists of numbers, each in a row of its own. -/
import Derived.Test.YthpjmjohdliohaaGreatBase
import Derived.BigRegion
import Derived.Test.YthpjmjohdliohaaGreatShelf
import Derived.Sort.OwnSorted
import Derived.Test.YthpjmjohdliohaaGreatLay
import Derived.Deep.OwnRows
namespace Go.Proofs.YthpjmjohdliohaaGreat
open Go.RowKit

set_option maxHeartbeats 400000 in
theorem cloneInt_any (a : Option Addr) (n cap : Nat) (zs : List Int) (w : World) (hl : n = zs.length) (hsm : zs.length ≤ 1048576) (hc : Cells w a (ints zs)) (h0 : a = none → cap = 0) :
    Calls Tryz.prog 36 #[.slice a n cap] w fun e w' => ∃ a' cap', e = .returned (.slice a' n cap') ∧ w'.ownsRow w.heap.size 3 1 (.slice a' n cap') n (ints zs) ∧ (a' = none → cap' = 0) ∧ Below w.heap.size w w' := by
  subst hl
  rcases a with _ | ⟨b, off, spot⟩
  · have hz : zs = [] := by
      rcases hc with h | ⟨b, off, h, _⟩
      · simpa [ints] using h
      · cases h
    subst hz
    obtain rfl := h0 rfl
    have hnil := @Lib.run_eql_slice_nil Tryz.prog
    go_enter Tryz.func36, Tryz.ntmps36
    go_wp2
    go_ret
    exact ⟨none, 0, rfl, World.ownsRow_nil _ _ _ _, fun _ => rfl, Below.refl _ _⟩
  · have hnil := @Lib.run_eql_slice_nil Tryz.prog
    obtain ⟨ad, had⟩ : ∃ ad : Addr, ad = ⟨b, off, spot⟩ := ⟨_, rfl⟩
    rw [← had] at hc ⊢
    have hown : (w.alloc (.cells #[] 3)).ownsRow w.heap.size 3 1 (.slice (some ⟨w.heap.size, 0, none⟩) 0 0) 0 [] :=
      World.ownsRow_made w #[] 0 (Nat.le_refl _) (by simp [maxLen]) (by simp)
    have hnews : Hid (∀ j u, (ints zs)[j]? = some u → (w.alloc (.cells #[] 3)).cell? (ad.add j) = some u) := fun j u hj => (hc.alloc _).add j u hj
    clear h0 had
    go_enter Tryz.func36, Tryz.ntmps36
    go_wp2_with (at_builtin; refine append_law 22 3 _ 1 8 Tryz.underlying22 info_int rfl (by omega) (by omega) rfl _ _ rfl w.heap.size (some ⟨w.heap.size, 0, none⟩) 0 0 [] rfl hown ad zs.length cap (ints zs) rfl (by simp) hnews.out (ints_one zs) (by omega) (by simp) ?_; intro b1 cap1 w1 hown1 hg1 hat1)
    go_ret
    rw [Nat.zero_add] at hown1
    obtain ⟨a', cap', hv', hn', _, _⟩ := owns_cells hown1
    injection hv' with e1 _ e3
    subst e1; subst e3
    exact ⟨b1, cap1, rfl, hown1, hn', (alloc_below w _).trans (owns_below hown hg1 (by simp))⟩

theorem ints_swap (ys : List Int) (i : Nat) (h0 : 0 < i) (hi : i < ys.length) : ((ints ys).set i (.int .i64 ys[i - 1])).set (i - 1) (.int .i64 ys[i]) = ints (swap1 ys i) := by
  have e1 : ys.getD i 0 = ys[i] := by simp [hi]
  have e2 : ys.getD (i - 1) 0 = ys[i - 1]'(by omega) := by simp [show i - 1 < ys.length by omega]
  unfold swap1 ints
  rw [e1, e2, List.map_set, List.map_set]

set_option maxHeartbeats 1000000 in
theorem sorted_any (a : Option Addr) (n cap : Nat) (zs : List Int) (w : World) (hl : n = zs.length) (hsm : zs.length ≤ 1048576) (hc : Cells w a (ints zs)) (h0 : a = none → cap = 0) :
    Calls Tryz.prog 17 #[.slice a n cap] w fun e w' => ∃ a' cap', e = .returned (.slice a' n cap') ∧
      w'.ownsRow w.heap.size 3 1 (.slice a' n cap') n (ints (asc zs)) ∧ (a' = none → cap' = 0) ∧ Below w.heap.size w w' := by
  subst hl
  have hclone := Lib.hid (cloneInt_any a _ cap zs w rfl hsm hc h0)
  clear hc h0
  go_enter Tryz.func17, Tryz.ntmps17
  go_wp2_with (go_at_call 36; refine (Calls.mono (unhide hclone) ?_); rintro e w1 ⟨a1, cap1, rfl, hown1, hn1, hb1⟩)
  go_loopw [4] (fun i wr => ∃ (k : Nat) (ys : List Int), 1 ≤ k ∧ i = .int .i64 k ∧ ys.length = zs.length ∧ ys.Perm zs ∧ SortedTo ys k ∧
      wr.ownsRow w.heap.size 3 1 (.slice a1 zs.length cap1) zs.length (ints ys) ∧ Below w.heap.size w wr) (fun i _ => zs.length - (intOf i).toNat)
  case atStart => exact ⟨1, zs, Nat.le_refl _, rfl, rfl, List.Perm.refl _, sortedTo_one _, hown1, hb1⟩
  case round =>
    obtain ⟨k, ys, hk, rfl, hl0, hp0, hs0, hown, hb⟩ := hrel
    have hl := Lib.hid hl0
    have hp := Lib.hid hp0
    have hs := Lib.hid hs0
    clear hl0 hp0 hs0 hown1 hb1 hclone
    by_cases hlt : k < zs.length
    · obtain ⟨wo, rfl⟩ : ∃ wo : World, wo = wr := ⟨_, rfl⟩
      go_wp2
      go_loopw [5] (fun i wr => ∃ (j : Nat) (ys : List Int), j ≤ k ∧ i = .int .i64 j ∧ ys.length = zs.length ∧ ys.Perm zs ∧ SortedBut ys j k ∧
        wr.ownsRow w.heap.size 3 1 (.slice a1 zs.length cap1) zs.length (ints ys) ∧ Below w.heap.size w wr) (fun i _ => (intOf i).toNat)
      case atStart => exact ⟨k, ys, Nat.le_refl _, rfl, hl.out, hp.out, hs.out.but, hown, hb⟩
      case round =>
        obtain ⟨j, yz, hj, rfl, hl1, hp1, hs1, hown1, hb1⟩ := hrel
        have hl1' := Lib.hid hl1
        have hp1' := Lib.hid hp1
        have hs1' := Lib.hid hs1
        clear hl1 hp1 hs1 hown hb hl hp hs
        have hjl : j < yz.length := by have := hl1'.out; omega
        obtain ⟨g, rfl, hg1, hg2, hg3⟩ := owns_at hown1 (by omega)
        have c1 : wr.cell? ⟨g, j, none⟩ = some (.int .i64 yz[j]) := owns_cell hown1 (ints_get _ _ hjl)
        have c2 : wr.cell? ⟨g, j - 1, none⟩ = some (.int .i64 (yz[j-1]'(by omega))) := owns_cell hown1 (ints_get _ _ _)
        have f1 := owns_free hown1 j
        have f2 := owns_free hown1 (j - 1)
        by_cases h0 : 0 < j
        · by_cases hlt2 : yz[j] < yz[j-1]
          · have hd : decide (0 < j) = true := by simpa using h0
            go_wp2
            go_quiet (fail)
            go_wp2
            go_region
            go_wp2
            go_roundw
            case rel => exact ⟨j - 1, swap1 yz j, by omega, by go_num, by rw [swap1_length]; exact hl1'.out, (swap1_perm yz j h0 hjl).trans hp1'.out, hs1'.out.swap h0 hj (by have := hl1'.out; omega) hlt2,
              by rw [← ints_swap yz j h0 hjl]; exact owns_set (owns_set (by exact hown1) _) _, Below.setCell (p := ⟨g, j - 1, none⟩) (Below.setCell (p := ⟨g, j, none⟩) (below_draws hb1 _) hg1 _) hg1 _⟩
            case measure => simp [intOf]; omega
          · have hs' : Hid (SortedTo yz (k + 1)) := hs1'.out.done fun _ _ => by omega
            go_wp2
            go_quiet (fail)
            go_wp2
            go_roundw
            case rel => exact ⟨k + 1, yz, by omega, by go_num, hl1'.out, hp1'.out, hs'.out, hown1, below_draws hb1 _⟩
            case measure => simp [intOf]; omega
        · have hs' : Hid (SortedTo yz (k + 1)) := hs1'.out.done fun h _ => absurd h h0
          have hd : decide (0 < j) = false := by simpa using h0
          go_wp2
          go_quiet (fail)
          go_wp2
          go_roundw
          case rel => exact ⟨k + 1, yz, by omega, by go_num, hl1'.out, hp1'.out, hs'.out, hown1, below_draws hb1 _⟩
          case measure => simp [intOf]; omega
    · have he : Hid (ys = asc zs) := asc_unique hp.out (hs.out.all (by have := hl.out; omega))
      go_wp2
      go_ret
      exact ⟨a1, cap1, rfl, by rw [← he.out]; exact hown, hn1, hb⟩
end Go.Proofs.YthpjmjohdliohaaGreat

namespace Go.Proofs.YthpjmjohdliohaaGreat
open Go.RowKit Go.Sort Go.Lib

theorem holds_owns {w : World} {base e n cap g : Nat} {zs : List Int} (h : w.ownsRow base e 1 (.slice (some ⟨g, 0, none⟩) n cap) n (ints zs)) : Holds (Value.int .i64) w g 0 zs.toArray := by
  intro j hj
  have hj' : j < zs.length := by simpa using hj
  rw [Nat.zero_add]
  refine ⟨?_, owns_free h j⟩
  have e : zs.toArray[j]! = zs[j] := by simp [hj']
  rw [e]
  exact owns_cell h (ints_get zs j hj')

theorem owns_put {w : World} {base e n cap g k : Nat} {os : Array Obj} {zs ys : List Int} (h : w.ownsRow base e 1 (.slice (some ⟨g, 0, none⟩) n cap) n (ints zs)) (hl : ys.length = zs.length) :
    (grow (putRow (Value.int .i64) (Sort.ahead w k) g 0 ys.toArray) os).ownsRow base e 1 (.slice (some ⟨g, 0, none⟩) n cap) n (ints ys) := by
  have hzl : (ints zs).length = n * 1 := h.1
  have hzs : zs.length = n := by simpa [ints] using hzl
  obtain ⟨_, h | ⟨g', cap', cur, hv, hg, hh, hn, hm, hs, ht⟩⟩ := h
  · simp at h
  · injection hv with hv _ hcap
    injection hv with hv
    injection hv with hv _ _
    subst hv; subst hcap
    refine ⟨by simp [ints, hl, hzs], .inr ⟨g, cap, putCells (Value.int .i64) 0 ys.toArray cur, rfl, hg, ?_, hn, hm, by simp [putCells, hs], ?_⟩⟩
    · have hgl : g < w.heap.size := lt_of_block hh
      rw [heap_grow_old _ _ (by simpa using hgl)]
      simp [putRow, mapBlock, Sort.ahead, Array.getElem?_modify, hh, onCells]
    · apply List.ext_getElem?
      intro j
      by_cases hj : j < n
      · rw [List.getElem?_take_of_lt (by omega), Array.getElem?_toList]
        simp [putCells, ints, hl, hzs, hj, show j < cur.size by omega]
      · rw [List.getElem?_take_eq_none (by omega), List.getElem?_eq_none (by simp [ints, hl, hzs]; omega)]

theorem grown_put {w : World} {g n : Nat} {os : Array Obj} (d : Array Int) : w.grownBy (grow (putRow (Value.int .i64) (Sort.ahead w n) g 0 d) os) (some g) := by
  refine ⟨rfl, rfl, rfl, by simp, fun k hk hne => ?_⟩
  rw [heap_grow_old _ _ (by simpa using hk)]
  have : g ≠ k := fun e => hne (by rw [e])
  simp [putRow, mapBlock, Sort.ahead, Array.getElem?_modify, this]

theorem sort64_any (base n cap : Nat) (a : Option Addr) (zs : List Int) (w : World) (hn : n ≤ 1048576) (hown : w.ownsRow base 2 1 (.slice a n cap) n (ints zs)) :
    Calls Tryz.prog 61 #[.slice a n cap] w fun e w' => e = .returned (.tuple #[]) ∧ w'.ownsRow base 2 1 (.slice a n cap) n (ints (asc zs)) ∧ w.grownBy w' (Value.slice a n cap).ownBlock := by
  have hl : zs.length = n := by have := hown.1; simpa [ints] using this
  by_cases h0 : n = 0
  · subst h0
    have hz : zs = [] := List.eq_nil_of_length_eq_zero hl
    subst hz
    refine (Tryz.slices_Sort_int_none_f61 a cap w).mono ?_
    rintro e w' ⟨rfl, rfl⟩
    exact ⟨rfl, by simpa [asc] using hown, World.grownBy.refl _ _⟩
  · obtain ⟨g, rfl, _, hg, _⟩ := owns_at hown (by omega)
    subst hl
    refine (Tryz.slices_Sort_int_f61 g 0 cap zs w (holds_owns hown) hg (by omega)).mono ?_
    rintro e w' ⟨rfl, k, os, rfl⟩
    exact ⟨rfl, owns_put (ys := asc zs) hown (asc_length zs), grown_put _⟩

theorem clone64_any (base n cap : Nat) (a : Option Addr) (zs : List Int) (w : World) (hn : n ≤ 1048576) (hown : w.ownsRow base 2 1 (.slice a n cap) n (ints zs)) :
    Calls Tryz.prog 63 #[.slice a n cap] w fun e w' => ∃ a' cap', e = .returned (.slice a' n cap') ∧ w'.ownsRow w.heap.size 2 1 (.slice a' n cap') n (ints zs) ∧ Below w.heap.size w w' := by
  have hl : zs.length = n := by have := hown.1; simpa [ints] using this
  rcases owns_head hown with rfl | ⟨g, rfl⟩
  · have hn0 : n = 0 := by
      rcases Nat.eq_zero_or_pos n with h | h
      · exact h
      · obtain ⟨g, h1, _⟩ := owns_at hown h; cases h1
    subst hn0
    have hz : zs = [] := List.eq_nil_of_length_eq_zero hl
    subst hz
    refine (Tryz.slices_Clone_nil_f63 0 cap w).mono ?_
    rintro e w' ⟨rfl, rfl⟩
    exact ⟨none, 0, rfl, World.ownsRow_nil _ _ _ _, Below.refl _ _⟩
  · obtain ⟨i0, hi0, hz0, hz1, hz2⟩ := info_parts info_int64
    refine (Tryz.slices_Clone_f63 i0 _ 1 8 hi0 hz0 hz1 hz2 rfl (by omega) Tryz.sizeOf2 g 0 n cap (ints zs) w (by simp [ints, hl]) (by unfold maxLen; omega) (by omega)
      (fun j u hj => by rw [Nat.zero_add]; exact owns_cell hown hj) (ints_one zs)).mono ?_
    rintro e w' ⟨v', rfl, hown', _, hb⟩
    obtain ⟨a', cap', rfl, _⟩ := owns_cells hown'
    exact ⟨a', cap', rfl, hown', hb⟩

theorem filter_full {α : Type} {p : α → Bool} {l : List α} : (l.filter p).length = l.length ↔ ∀ x ∈ l, p x = true := by
  rw [List.length_filter_eq_length_iff]

theorem compact_full (zs : List Int) (hs : zs.Pairwise (· ≤ ·)) : ((compactUpTo zs.toArray zs.length).length = zs.length) ↔ zs.Pairwise (· < ·) := by
  unfold compactUpTo
  rw [List.length_map]
  have h1 : ((List.range zs.length).filter (keeps zs.toArray)).length = zs.length ↔ ∀ j ∈ List.range zs.length, keeps zs.toArray j = true := by
    have := filter_full (p := keeps zs.toArray) (l := List.range zs.length)
    rwa [List.length_range] at this
  rw [h1]
  constructor
  · intro h
    refine pairwise_of_adj fun j hj h0 => ?_
    have h2 := h j (List.mem_range.2 hj)
    have e1 : zs.toArray[j]! = zs[j] := by simp [hj]
    have e2 : zs.toArray[j - 1]! = zs[j - 1] := by simp [show j - 1 < zs.length by omega]
    unfold keeps at h2
    rw [e1, e2] at h2
    have h3 := of_decide_eq_true h2
    have h4 := List.pairwise_iff_getElem.1 hs (j - 1) j (by omega) hj (by omega)
    omega
  · intro h j hj
    rw [List.mem_range] at hj
    have e1 : zs.toArray[j]! = zs[j] := by simp [hj]
    unfold keeps
    by_cases h0 : j = 0
    · exact decide_eq_true (.inl h0)
    · have e2 : zs.toArray[j - 1]! = zs[j - 1] := by simp [show j - 1 < zs.length by omega]
      have h4 := List.pairwise_iff_getElem.1 h (j - 1) j (by omega) hj (by omega)
      rw [e1, e2]
      exact decide_eq_true (.inr (by omega))

theorem compact_le (zs : List Int) : (compactUpTo zs.toArray zs.length).length ≤ zs.length := by
  unfold compactUpTo
  rw [List.length_map]
  exact Nat.le_trans (List.length_filter_le _ _) (by simp)

theorem compact64_any (base n cap : Nat) (a : Option Addr) (zs : List Int) (w : World) (hn : n ≤ 1048576) (hown : w.ownsRow base 2 1 (.slice a n cap) n (ints zs)) (hs : zs.Pairwise (· ≤ ·)) :
    Calls Tryz.prog 62 #[.slice a n cap] w fun e w' => ∃ a' m c', e = .returned (.slice a' m c') ∧ m ≤ n ∧ (m = n ↔ zs.Pairwise (· < ·)) ∧ w.grownBy w' (Value.slice a n cap).ownBlock := by
  have hl : zs.length = n := by have := hown.1; simpa [ints] using this
  by_cases h0 : n = 0
  · subst h0
    have hz : zs = [] := List.eq_nil_of_length_eq_zero hl
    subst hz
    go_enter Tryz.func62, Tryz.ntmps62
    go_wp2
    go_ret
    exact ⟨a, 0, cap, rfl, Nat.le_refl _, by simp, World.grownBy.refl _ _⟩
  · obtain ⟨g, rfl, _, hg, hc⟩ := owns_at hown (by omega)
    subst hl
    refine (Tryz.slices_Compact (Value.int .i64) (fun _ => rfl) (EqlAt.intD _ _ .i64) (NeqAt.intD _ _ .i64) 0 Tryz.zeroValue2 g 0 cap zs.toArray w (holds_owns hown) (by simp; omega) (by simpa using hc)).mono ?_
    rintro e w' ⟨rfl, q, rfl⟩
    refine ⟨_, _, _, rfl, by simpa using compact_le zs, by simpa using compact_full zs hs, ?_⟩
    have := grown_put (w := w) (g := g) (n := q) (os := #[]) (compactUpTo zs.toArray zs.toArray.size ++ List.replicate (zs.toArray.size - (compactUpTo zs.toArray zs.toArray.size).length) 0).toArray
    rwa [grow_empty] at this
end Go.Proofs.YthpjmjohdliohaaGreat

namespace Go.Proofs.YthpjmjohdliohaaGreat
open Go.RowKit

/-- The block of a plain graph's three fields. -/
def PBlock (w : World) (pb : Nat) (x y z : Value) : Prop := w.heap[pb]? = some (.cells #[x, y, z] 132 (0, 0))

theorem PBlock.lt {w : World} {pb : Nat} {x y z : Value} (h : PBlock w pb x y z) : pb < w.heap.size := lt_of_block h
theorem PBlock.c0 {w : World} {pb : Nat} {x y z : Value} (h : PBlock w pb x y z) : w.cell? ⟨pb, 0, none⟩ = some x := by
  unfold PBlock at h; simp [World.cell?, h]
theorem PBlock.c1 {w : World} {pb : Nat} {x y z : Value} (h : PBlock w pb x y z) : w.cell? ⟨pb, 1, none⟩ = some y := by
  unfold PBlock at h; simp [World.cell?, h]
theorem PBlock.c2 {w : World} {pb : Nat} {x y z : Value} (h : PBlock w pb x y z) : w.cell? ⟨pb, 2, none⟩ = some z := by
  unfold PBlock at h; simp [World.cell?, h]
theorem PBlock.free {w : World} {pb : Nat} {x y z : Value} (h : PBlock w pb x y z) (j : Nat) : w.frozen? ⟨pb, j, none⟩ = false := by
  unfold PBlock at h; simp [World.frozen?, h]
theorem PBlock.set0 {w : World} {pb : Nat} {x y z : Value} (h : PBlock w pb x y z) (u : Value) : PBlock (w.setCell ⟨pb, 0, none⟩ u) pb u y z := by
  unfold PBlock at h ⊢; simp [World.setCell, Array.getElem?_modify, h]
theorem PBlock.kept {w w' : World} {pb : Nat} {x y z : Value} {row : Option Nat} (h : PBlock w pb x y z) (hg : w.grownBy w' row) (hne : some pb ≠ row) : PBlock w' pb x y z := by
  unfold PBlock at h ⊢; rw [hg.block pb (lt_of_block h) hne]; exact h
theorem PBlock.below {w w' : World} {pb B : Nat} {x y z : Value} (h : PBlock w pb x y z) (hb : Below B w w') (hB : pb < B) : PBlock w' pb x y z := by
  unfold PBlock at h ⊢; rw [hb.block pb hB]; exact h

theorem ints_take (zs : List Int) (k : Nat) (hk : k < zs.length) : ints (zs.take k) ++ [.int .i64 zs[k]] = ints (zs.take (k + 1)) := by
  unfold ints
  rw [List.take_succ_eq_append_getElem hk, List.map_append]; rfl

theorem new_one (w : World) (x : Value) (e : TypeId) : ∀ (j : Nat) u, [x][j]? = some u → (w.alloc (.cells #[x] e)).cell? ((⟨w.heap.size, 0, none⟩ : Addr).add j) = some u := by
  intro j u hj
  rw [Addr.add_mid, Nat.zero_add]
  rcases j with _ | j
  · simp at hj; subst hj; unfold World.cell?; rw [heap_alloc_new]; rfl
  · simp at hj
theorem one_int (x : Int) : ∀ u ∈ [Value.int .i64 x], u.oneCell' = true := by
  intro u hu
  rw [List.mem_singleton] at hu
  subst hu; rfl
theorem take_all {α : Type} {l : List α} {k : Nat} (h1 : k ≤ l.length) (h2 : ¬ k < l.length) : l.take k = l := List.take_of_length_le (by omega)

/-- The two tables made and hung into the plain graph's block. -/
def MadeAt (w w' : World) (pb n : Nat) (x : Value) : Prop :=
  ∃ g1 g2, PBlock w' pb x (.slice (some ⟨g1, 0, none⟩) n n) (.slice (some ⟨g2, 0, none⟩) n n) ∧ w'.heap[g1]? = some (.cells (madeCells #[.slice none 0 0] n) 174 (0, 0)) ∧
    w'.heap[g2]? = some (.cells (madeCells #[.slice none 0 0] n) 174 (0, 0)) ∧ g1 ≠ g2 ∧ w.heap.size ≤ g1 ∧ w.heap.size ≤ g2 ∧ w.heap.size ≤ w'.heap.size ∧
    w'.os = w.os ∧ w'.tape = w.tape ∧ w'.output = w.output ∧ ∀ k, k < w.heap.size → k ≠ pb → w'.heap[k]? = w.heap[k]?

theorem PBlock.set1 {w : World} {pb : Nat} {x y z : Value} (h : PBlock w pb x y z) (u : Value) : PBlock (w.setCell ⟨pb, 1, none⟩ u) pb x u z := by
  unfold PBlock at h ⊢; simp [World.setCell, Array.getElem?_modify, h]
theorem PBlock.set2 {w : World} {pb : Nat} {x y z : Value} (h : PBlock w pb x y z) (u : Value) : PBlock (w.setCell ⟨pb, 2, none⟩ u) pb x y u := by
  unfold PBlock at h ⊢; simp [World.setCell, Array.getElem?_modify, h]
theorem PBlock.alloc {w : World} {pb : Nat} {x y z : Value} (h : PBlock w pb x y z) (o : Obj) : PBlock (w.alloc o) pb x y z := h.below (alloc_below w o) h.lt

theorem size_setCell (w : World) (p : Addr) (u : Value) : (w.setCell p u).heap.size = w.heap.size := by simp [World.setCell]

theorem made_12 {w : World} {pb n : Nat} {x y z : Value} (h : PBlock w pb x y z) (i j : Nat) (hij : (i = w.heap.size ∧ j = w.heap.size + 1) ∨ (i = w.heap.size + 1 ∧ j = w.heap.size)) :
    MadeAt w ((((w.alloc (.cells (madeCells #[.slice none 0 0] n) 174)).alloc (.cells (madeCells #[.slice none 0 0] n) 174)).setCell ⟨pb, 1, none⟩ (.slice (some ⟨i, 0, none⟩) n n)).setCell ⟨pb, 2, none⟩ (.slice (some ⟨j, 0, none⟩) n n)).drew pb n x := by
  have hlt := h.lt
  have h1 := ((h.alloc (.cells (madeCells #[.slice none 0 0] n) 174)).alloc (.cells (madeCells #[.slice none 0 0] n) 174))
  have hn : ((w.alloc (.cells (madeCells #[.slice none 0 0] n) 174)).alloc (.cells (madeCells #[.slice none 0 0] n) 174)).heap[w.heap.size]? = some (.cells (madeCells #[.slice none 0 0] n) 174 (0, 0)) := by
    rw [Below.heap_alloc _ _ _ (by simp), heap_alloc_new]
  have hm : ((w.alloc (.cells (madeCells #[.slice none 0 0] n) 174)).alloc (.cells (madeCells #[.slice none 0 0] n) 174)).heap[w.heap.size + 1]? = some (.cells (madeCells #[.slice none 0 0] n) 174 (0, 0)) := by
    have := heap_alloc_new (w.alloc (.cells (madeCells #[.slice none 0 0] n) 174)) (.cells (madeCells #[.slice none 0 0] n) 174)
    rwa [show (w.alloc (.cells (madeCells #[.slice none 0 0] n) 174)).heap.size = w.heap.size + 1 by simp] at this
  have hold : ∀ k, k < w.heap.size → ((w.alloc (.cells (madeCells #[.slice none 0 0] n) 174)).alloc (.cells (madeCells #[.slice none 0 0] n) 174)).heap[k]? = w.heap[k]? := fun k hk => by
    rw [Below.heap_alloc _ _ _ (by simp; omega), Below.heap_alloc _ _ _ hk]
  have hz : ((w.alloc (.cells (madeCells #[.slice none 0 0] n) 174)).alloc (.cells (madeCells #[.slice none 0 0] n) 174)).heap.size = w.heap.size + 2 := by simp
  have ho : ((w.alloc (.cells (madeCells #[.slice none 0 0] n) 174)).alloc (.cells (madeCells #[.slice none 0 0] n) 174)).os = w.os ∧ ((w.alloc (.cells (madeCells #[.slice none 0 0] n) 174)).alloc (.cells (madeCells #[.slice none 0 0] n) 174)).tape = w.tape ∧ ((w.alloc (.cells (madeCells #[.slice none 0 0] n) 174)).alloc (.cells (madeCells #[.slice none 0 0] n) 174)).output = w.output := ⟨rfl, rfl, rfl⟩
  generalize (w.alloc (.cells (madeCells #[.slice none 0 0] n) 174)).alloc (.cells (madeCells #[.slice none 0 0] n) 174) = v at *
  have hh : ∀ k, k ≠ pb → (((v.setCell ⟨pb, 1, none⟩ (.slice (some ⟨i, 0, none⟩) n n)).setCell ⟨pb, 2, none⟩ (.slice (some ⟨j, 0, none⟩) n n)).drew).heap[k]? = v.heap[k]? := fun k hk => by
    show ((v.setCell ⟨pb, 1, none⟩ (.slice (some ⟨i, 0, none⟩) n n)).setCell ⟨pb, 2, none⟩ (.slice (some ⟨j, 0, none⟩) n n)).heap[k]? = _
    rw [Below.heap_setCell _ _ _ _ hk, Below.heap_setCell _ _ _ _ hk]
  refine ⟨i, j, (h1.set1 _).set2 _, ?_, ?_, by omega, by omega, by omega, ?_, ho.1, ho.2.1, ho.2.2, fun k hk hp => (hh k hp).trans (hold k hk)⟩
  · rw [hh i (by omega)]
    rcases hij with ⟨rfl, _⟩ | ⟨rfl, _⟩
    · exact hn
    · exact hm
  · rw [hh j (by omega)]
    rcases hij with ⟨_, rfl⟩ | ⟨_, rfl⟩
    · exact hm
    · exact hn
  · show w.heap.size ≤ ((v.setCell ⟨pb, 1, none⟩ (.slice (some ⟨i, 0, none⟩) n n)).setCell ⟨pb, 2, none⟩ (.slice (some ⟨j, 0, none⟩) n n)).heap.size
    rw [size_setCell, size_setCell, hz]; omega

theorem made_mid {w : World} {pb n : Nat} {x y z : Value} (h : PBlock w pb x y z) :
    MadeAt w ((((w.alloc (.cells (madeCells #[.slice none 0 0] n) 174)).setCell ⟨pb, 1, none⟩ (.slice (some ⟨w.heap.size, 0, none⟩) n n)).alloc (.cells (madeCells #[.slice none 0 0] n) 174)).setCell ⟨pb, 2, none⟩ (.slice (some ⟨w.heap.size + 1, 0, none⟩) n n)).drew pb n x := by
  have e : ((w.alloc (.cells (madeCells #[.slice none 0 0] n) 174)).setCell ⟨pb, 1, none⟩ (.slice (some ⟨w.heap.size, 0, none⟩) n n)).alloc (.cells (madeCells #[.slice none 0 0] n) 174) =
      ((w.alloc (.cells (madeCells #[.slice none 0 0] n) 174)).alloc (.cells (madeCells #[.slice none 0 0] n) 174)).setCell ⟨pb, 1, none⟩ (.slice (some ⟨w.heap.size, 0, none⟩) n n) := by
    have hlt := h.lt
    unfold World.setCell World.alloc
    simp only
    congr 1
    apply Array.ext_getElem?
    intro k
    simp only [Array.getElem?_push, Array.getElem?_modify, Array.size_modify, Array.size_push]
    by_cases hk : pb = k
    · subst hk
      rw [if_neg (by omega), if_pos rfl, if_pos rfl, if_neg (by omega), if_neg (by omega)]
    · rw [if_neg hk, if_neg hk]
  rw [e]
  exact made_12 h _ _ (.inl ⟨rfl, rfl⟩)

theorem made_list (n : Nat) : (madeCells #[.slice none 0 0] n).toList = List.replicate n (Value.slice none 0 0) := by
  apply List.ext_getElem?
  intro j
  unfold madeCells
  rw [Array.getElem?_toList, Array.getElem?_map, List.getElem?_replicate]
  by_cases hj : j < n
  · simp [hj, Nat.mod_one]
  · simp [hj]

/-- What is in the two tables at the beginning. -/
theorem made_built {w w' : World} {pb n : Nat} {x : Value} (h : MadeAt w w' pb n x) (hpb : pb < w.heap.size) (hn : n ≤ 1048575) :
    ∃ g1 g2, Built w' w'.heap.size pb n 1 g1 (List.replicate n (.slice none 0 0)) (List.replicate n []) 2 g2 (List.replicate n (.slice none 0 0)) (List.replicate n []) ∧ w'.cell? ⟨pb, 0, none⟩ = some x ∧
      w.heap.size ≤ g1 ∧ w.heap.size ≤ g2 ∧ w.grownBy w' (some pb) := by
  obtain ⟨g1, g2, hp, h1, h2, hne, hg1, hg2, hz, ho, ht, hu, hk⟩ := h
  have own : ∀ g, w'.heap[g]? = some (.cells (madeCells #[.slice none 0 0] n) 174 (0, 0)) → w'.ownsRow 0 174 1 (.slice (some ⟨g, 0, none⟩) n n) n (List.replicate n (.slice none 0 0)) := fun g hg =>
    ⟨by simp, .inr ⟨g, n, _, rfl, Nat.zero_le _, hg, Nat.le_refl _, by unfold maxLen; omega, by rw [size_madeCells, Nat.mul_one], by rw [made_list, Nat.mul_one]; exact List.take_of_length_le (by simp)⟩⟩
  have rows : RowsOwn w' w'.heap.size (List.replicate n (.slice none 0 0)) (List.replicate n []) := by
    intro j v l hv hl
    rw [List.getElem?_replicate] at hv hl
    by_cases hj : j < n
    · rw [if_pos hj] at hv hl
      injection hv with hv; injection hl with hl
      subst hv; subst hl
      exact World.ownsRow_nil _ _ _ _
    · rw [if_neg hj] at hv; cases hv
  have ap : ∀ (i j : Nat) (u v : Value), (List.replicate n (Value.slice none 0 0))[i]? = some u → (List.replicate n (Value.slice none 0 0))[j]? = some v → Apart u v := by
    intro i j u v hu _
    rw [List.getElem?_replicate] at hu
    split at hu
    · injection hu with hu; subst hu
      intro k hk; cases hk
    · cases hu
  exact ⟨g1, g2, ⟨hp.c1, hp.c2, hp.lt, lt_of_block h1, lt_of_block h2, Nat.le_refl _, by omega, by omega, hne, own g1 h1, own g2 h2, by simp, by simp, rows, rows,
    fun i j u v hu hv _ => ap i j u v hu hv, fun i j u v hu hv _ => ap i j u v hu hv, ap⟩, hp.c0, hg1, hg2, ho, ht, hu, hz, fun k hk' hne' => hk k hk' (fun e => hne' (by rw [e]))⟩

theorem Built.alloc {w : World} {B pb n f g : Nat} {vs : List Value} {ls : List (List Arc)} {f' g' : Nat} {vs' : List Value} {ls' : List (List Arc)} (h : Built w B pb n f g vs ls f' g' vs' ls') (o : Obj) : Built (w.alloc o) B pb n f g vs ls f' g' vs' ls' :=
  ⟨cell_alloc h.cell o, cell_alloc h.cell' o, h.pbB, h.gB, h.gB', by have := h.hB; simp; omega, h.pg, h.pg', h.gg, h.own.alloc o, h.own'.alloc o, h.len, h.len',
    fun j v l hv hl => (h.rows j v l hv hl).alloc o, fun j v l hv hl => (h.rows' j v l hv hl).alloc o, h.dis, h.dis', h.cross⟩

/-- An edge laid into the tables. -/
def layE (bits : Int → Nat) (ids : List Int) (dir : Bool) (t : List (List Arc) × List (List Arc)) (e : Int × Int × Int) : List (List Arc) × List (List Arc) :=
  if dir then (turnRow t.1 (posOf ids e.1) (posOf ids e.2.1) (bits e.2.2), turnRow t.2 (posOf ids e.2.1) (posOf ids e.1) (bits e.2.2))
  else (turnRow (turnRow t.1 (posOf ids e.1) (posOf ids e.2.1) (bits e.2.2)) (posOf ids e.2.1) (posOf ids e.1) (bits e.2.2),
    turnRow (turnRow t.2 (posOf ids e.2.1) (posOf ids e.1) (bits e.2.2)) (posOf ids e.1) (posOf ids e.2.1) (bits e.2.2))

/-- The tables behind some edges. -/
def tabs (bits : Int → Nat) (ids : List Int) (dir : Bool) (es : List (Int × Int × Int)) : List (List Arc) × List (List Arc) :=
  es.foldl (layE bits ids dir) (List.replicate ids.length [], List.replicate ids.length [])

theorem tabs_step (bits : Int → Nat) (ids : List Int) (dir : Bool) (es : List (Int × Int × Int)) (k : Nat) (hk : k < es.length) : tabs bits ids dir (es.take (k + 1)) = layE bits ids dir (tabs bits ids dir (es.take k)) es[k] := by
  unfold tabs
  rw [List.take_succ_eq_append_getElem hk, List.foldl_append]; rfl

theorem owns_same {w w' : World} {B e size n : Nat} {u : Value} {xs : List Value} (hu : w.ownsRow B e size u n xs) (h : ∀ k, u.ownBlock = some k → w'.heap[k]? = w.heap[k]?) : w'.ownsRow B e size u n xs := by
  refine ⟨hu.1, ?_⟩
  rcases hu.2 with hn | ⟨g, cap, cur, rfl, hb, hg, r⟩
  · exact .inl hn
  · exact .inr ⟨g, cap, cur, rfl, hb, (h g rfl).trans hg, r⟩

/-- A weight as the program's float. -/
def bitsOf (x : Int) : Nat := floatOfInt FloatKind.f64 x

/-- A table of rows of arcs in memory. -/
def TableAt (w : World) (pb f n : Nat) (ls : List (List Arc)) : Prop :=
  ∃ g, w.cell? ⟨pb, f, none⟩ = some (.slice (some ⟨g, 0, none⟩) n n) ∧ ls.length = n ∧ ∀ (j : Nat) (l : List Arc), ls[j]? = some l → ∃ a c, w.cell? ⟨g, j, none⟩ = some (.slice a l.length c) ∧ Cells w a (arcCells l)

theorem TableAt.below {w w' : World} {pb f n : Nat} {ls : List (List Arc)} (h : TableAt w pb f n ls) (hb : Below w.heap.size w w') : TableAt w' pb f n ls := by
  obtain ⟨g, h1, h2, h3⟩ := h
  refine ⟨g, cell_below hb h1, h2, fun j l hl => ?_⟩
  obtain ⟨a, c, h4, h5⟩ := h3 j l hl
  exact ⟨a, c, cell_below hb h4, h5.below hb⟩

theorem Built.table {w : World} {B pb n f g : Nat} {vs : List Value} {ls : List (List Arc)} {f' g' : Nat} {vs' : List Value} {ls' : List (List Arc)} (h : Built w B pb n f g vs ls f' g' vs' ls') : TableAt w pb f n ls := by
  refine ⟨g, h.cell, h.len, fun j l hl => ?_⟩
  have hj := (List.getElem?_eq_some_iff.1 hl).1
  have hv : vs[j]? = some (vs[j]'(by have := h.vlen; have := h.len; omega)) := List.getElem?_eq_getElem _
  obtain ⟨a, c, e, _, hc, _⟩ := owns_cells (h.rows j _ l hv hl)
  rw [e] at hv
  exact ⟨a, c, owns_cell h.own hv, hc⟩

/-- A plain graph in memory. -/
structure PlainAt (w : World) (pb : Nat) (ids : List Int) (outs ins : List (List Arc)) : Prop where
  row : ∃ a c, w.cell? ⟨pb, 0, none⟩ = some (.slice a ids.length c) ∧ Cells w a (ints ids)
  up : ids.Pairwise (· < ·)
  out : TableAt w pb 1 ids.length outs
  inn : TableAt w pb 2 ids.length ins
  okOut : ∀ l ∈ outs, RowOk ids.length l
  okIn : ∀ l ∈ ins, RowOk ids.length l

theorem PlainAt.below {w w' : World} {pb : Nat} {ids : List Int} {outs ins : List (List Arc)} (h : PlainAt w pb ids outs ins) (hb : Below w.heap.size w w') : PlainAt w' pb ids outs ins := by
  obtain ⟨a, c, h1, h2⟩ := h.row
  exact ⟨⟨a, c, cell_below hb h1, h2.below hb⟩, h.up, h.out.below hb, h.inn.below hb, h.okOut, h.okIn⟩

/-- A plain graph that stays whatever is done to other blocks than those from lo on. -/
def FarAt (lo : Nat) (w : World) (pb : Nat) (ids : List Int) (outs ins : List (List Arc)) : Prop :=
  ∀ W : World, w.heap.size ≤ W.heap.size → (∀ j, lo ≤ j → j < w.heap.size → W.heap[j]? = w.heap[j]?) → PlainAt W pb ids outs ins

section
variable {lo : Nat} {w w' : World} {pb : Nat} {ids : List Int} {outs ins : List (List Arc)} (h : FarAt lo w pb ids outs ins)
include h
theorem FarAt.plain : PlainAt w pb ids outs ins := h w (Nat.le_refl _) (fun _ _ _ => rfl)
theorem FarAt.keep (hs : w.heap.size ≤ w'.heap.size) (hk : ∀ j, lo ≤ j → j < w.heap.size → w'.heap[j]? = w.heap[j]?) : FarAt lo w' pb ids outs ins :=
  fun W h1 h2 => h W (Nat.le_trans hs h1) fun j hj hl => (h2 j hj (Nat.lt_of_lt_of_le hl hs)).trans (hk j hj hl)
theorem FarAt.below (hb : Below w.heap.size w w') : FarAt lo w' pb ids outs ins := h.keep hb.size fun j _ hj => hb.block j hj
theorem FarAt.set {b o : Nat} (hb : b < lo) (v : Value) : FarAt lo (w.setCell ⟨b, o, none⟩ v) pb ids outs ins :=
  h.keep (by simp [World.setCell]) fun j hj _ => Below.heap_setCell _ _ _ _ (show j ≠ b by omega)
theorem FarAt.low {l : Nat} (hl : l ≤ lo) : FarAt l w pb ids outs ins := fun W h1 h2 => h W h1 fun j hj hs => h2 j (Nat.le_trans hl hj) hs
end

theorem Built.far {w W : World} {B pb n f g : Nat} {vs : List Value} {ls : List (List Arc)} {f' g' : Nat} {vs' : List Value} {ls' : List (List Arc)} (h : Built w B pb n f g vs ls f' g' vs' ls') {lo : Nat} (h1 : lo ≤ pb) (h2 : lo ≤ g) (h3 : lo ≤ g') (_h4 : lo ≤ B)
    (hz : w.heap.size ≤ W.heap.size) (hk : ∀ j, lo ≤ j → j < w.heap.size → W.heap[j]? = w.heap[j]?) : Built W B pb n f g vs ls f' g' vs' ls' := by
  have a1 := h.pbB
  have a2 := h.gB
  have a3 := h.gB'
  have a4 := h.hB
  have hrow : ∀ {e s k : Nat} {v : Value} {xs : List Value}, w.ownsRow B e s v k xs → W.ownsRow B e s v k xs := fun o => owns_same o fun j hj => by
    have := o.lt j hj
    exact hk j (by omega) this.2
  exact { h with
    cell := (World.cell?_of_block (hk pb h1 (by omega))).trans h.cell
    cell' := (World.cell?_of_block (hk pb h1 (by omega))).trans h.cell'
    hB := Nat.le_trans a4 hz
    own := owns_same h.own fun j hj => by
      have e : g = j := by injection hj
      subst e
      exact hk g h2 (by omega)
    own' := owns_same h.own' fun j hj => by
      have e : g' = j := by injection hj
      subst e
      exact hk g' h3 (by omega)
    rows := fun j v l hv hl => hrow (h.rows j v l hv hl)
    rows' := fun j v l hv hl => hrow (h.rows' j v l hv hl) }

/-- What read leaves. -/
def ReadPost (w : World) (g : Gr) (e : Ending) (w' : World) : Prop :=
  ∃ b, e = .returned (.tuple #[.pointer (some ⟨w.heap.size + 1, 0, none⟩), .bool b]) ∧ b = okGraph g ∧ Below w.heap.size w w' ∧ w.heap.size + 1 < w'.heap.size ∧
    (okGraph g = true → FarAt w.heap.size w' (w.heap.size + 1) (asc g.nodes) (tabs bitsOf (asc g.nodes) g.dir g.edges).1 (tabs bitsOf (asc g.nodes) g.dir g.edges).2)

theorem asc_incr {zs : List Int} (h : zs.Nodup) : (asc zs).Pairwise (· < ·) := by
  have h1 := incr_asc zs
  unfold incr at h1
  rw [decide_eq_true h] at h1
  exact of_decide_eq_true h1

theorem layE_ok {n : Nat} {bits : Int → Nat} {ids : List Int} {dir : Bool} {t : List (List Arc) × List (List Arc)} {e : Int × Int × Int} (h1 : ∀ l ∈ t.1, RowOk n l) (h2 : ∀ l ∈ t.2, RowOk n l) (hu : posOf ids e.1 < n) (hv : posOf ids e.2.1 < n) :
    (∀ l ∈ (layE bits ids dir t e).1, RowOk n l) ∧ (∀ l ∈ (layE bits ids dir t e).2, RowOk n l) := by
  unfold layE
  cases dir
  · exact ⟨turnRow_ok (turnRow_ok h1 hv) hu, turnRow_ok (turnRow_ok h2 hu) hv⟩
  · exact ⟨turnRow_ok h1 hv, turnRow_ok h2 hu⟩

theorem okGraph_true {g : Gr} (h : g.nodes.Nodup) (hok : ∀ j (hj : j < g.edges.length), okEdge g.nodes g.edges[j] = true) : okGraph g = true := by
  unfold okGraph
  rw [decide_eq_true h, Bool.true_and, List.all_eq_true]
  intro e he
  obtain ⟨j, hj, rfl⟩ := List.mem_iff_getElem.1 he
  exact hok j hj

theorem plain_of {w : World} {B pb g1 g2 : Nat} {ids : List Int} {v1 v2 : List Value} {l1 l2 : List (List Arc)} {a : Option Addr} {c n : Nat} (hn : ids.length = n) (h : Built w B pb n 1 g1 v1 l1 2 g2 v2 l2) (h0 : w.cell? ⟨pb, 0, none⟩ = some (.slice a n c)) (hc : Cells w a (ints ids))
    (hu : ids.Pairwise (· < ·)) (h1 : ∀ l ∈ l1, RowOk n l) (h2 : ∀ l ∈ l2, RowOk n l) : PlainAt w pb ids l1 l2 := by
  subst hn
  exact ⟨⟨a, c, h0, hc⟩, hu, h.table, h.swap.table, h1, h2⟩

theorem full_nodup {zs : List Int} {m n : Nat} (h : m = n ↔ (asc zs).Pairwise (· < ·)) : ((m : Int) != (n : Int)) = !decide zs.Nodup := by
  have h1 := incr_asc zs
  unfold incr at h1
  rw [← h1]
  by_cases e : m = n
  · have e2 := decide_eq_true (h.1 e)
    rw [e2]; simp [e]
  · have e2 := decide_eq_false (fun k => e (h.2 k))
    rw [e2]; simp; omega

end Go.Proofs.YthpjmjohdliohaaGreat

namespace Go.Proofs.YthpjmjohdliohaaGreat
open Go.RowKit

def blks (vs : List Value) : List Nat := vs.filterMap Value.ownBlock
theorem blks_mem {vs : List Value} {k : Nat} {v : Value} {j : Nat} (h : vs[k]? = some v) (hj : v.ownBlock = some j) : j ∈ blks vs := List.mem_filterMap.2 ⟨v, List.mem_of_getElem? h, hj⟩
theorem blks_apart {vs : List Value} (h : (blks vs).Nodup) : ∀ {i j : Nat} {u v : Value} {a : Nat}, vs[i]? = some u → vs[j]? = some v → u.ownBlock = some a → v.ownBlock = some a → i = j := by
  induction vs with
  | nil => intro i j u v a hi; simp at hi
  | cons x vs ih =>
    intro i j u v a hi hj hu hv
    have hnd : (blks vs).Nodup := by
      unfold blks at h ⊢
      rw [List.filterMap_cons] at h
      split at h
      · exact h
      · exact (List.nodup_cons.1 h).2
    have hx : ∀ {k : Nat} {y : Value}, x.ownBlock = some a → vs[k]? = some y → y.ownBlock = some a → False := fun {k y} hxa hk hy => by
      unfold blks at h
      rw [List.filterMap_cons, hxa] at h
      exact (List.nodup_cons.1 h).1 (blks_mem hk hy)
    rcases i with _ | i <;> rcases j with _ | j
    · rfl
    · rw [List.getElem?_cons_zero] at hi
      rw [List.getElem?_cons_succ] at hj
      injection hi with hi
      subst hi
      exact (hx hu hj hv).elim
    · rw [List.getElem?_cons_zero] at hj
      rw [List.getElem?_cons_succ] at hi
      injection hj with hj
      subst hj
      exact (hx hv hi hu).elim
    · rw [List.getElem?_cons_succ] at hi hj
      rw [ih hnd hi hj hu hv]


/-- Lists of numbers, each in a row of its own. -/
def IRows (w : World) (B : Nat) (vs : List Value) (l : List (List Int)) : Prop :=
  vs.length = l.length ∧ ∀ (k : Nat) (v : Value) (c : List Int), vs[k]? = some v → l[k]? = some c → w.ownsRow B 3 1 v c.length (ints c)
theorem IRows.lt {w : World} {B : Nat} {vs : List Value} {l : List (List Int)} (h : IRows w B vs l) : ∀ j ∈ blks vs, B ≤ j ∧ j < w.heap.size := by
  intro j hj
  obtain ⟨v, hv, hvj⟩ := List.mem_filterMap.1 hj
  obtain ⟨k, hk, rfl⟩ := List.mem_iff_getElem.1 hv
  have hl : k < l.length := by rw [← h.1]; exact hk
  exact (h.2 k _ _ (List.getElem?_eq_getElem hk) (List.getElem?_eq_getElem hl)).lt j hvj
theorem IRows.same {w w' : World} {B : Nat} {vs : List Value} {l : List (List Int)} (h : IRows w B vs l) (hs : ∀ j ∈ blks vs, w'.heap[j]? = w.heap[j]?) : IRows w' B vs l :=
  ⟨h.1, fun k v c hv hc => owns_same (h.2 k v c hv hc) fun j hj => hs j (blks_mem hv hj)⟩
theorem IRows.more {w : World} {B : Nat} {vs : List Value} {l : List (List Int)} {v : Value} {c : List Int} (h : IRows w B vs l) (hv : w.ownsRow B 3 1 v c.length (ints c)) : IRows w B (vs ++ [v]) (l ++ [c]) := by
  refine ⟨by simp [h.1], fun k v' c' hv' hc' => ?_⟩
  rcases Nat.lt_or_ge k vs.length with hk | hk
  · rw [List.getElem?_append_left hk] at hv'
    rw [List.getElem?_append_left (by rw [← h.1]; exact hk)] at hc'
    exact h.2 k v' c' hv' hc'
  · rw [List.getElem?_append_right hk] at hv'
    rw [List.getElem?_append_right (by rw [← h.1]; exact hk), ← h.1] at hc'
    rcases hj : k - vs.length with _ | m
    · rw [hj] at hv' hc'
      simp at hv' hc'
      subst hv'; subst hc'
      exact hv
    · rw [hj] at hv'; simp at hv'

theorem info_irow : (Tryz.prog.info? 22).map (fun i => (i.zero, i.size, i.bytes)) = some (some (.slice none 0 0), 1, 24) := by kernel_rfl
end Go.Proofs.YthpjmjohdliohaaGreat
