/- Lists of lists: laws.before, laws.sortedLists, laws.sameLists. -/
import Derived.Test.YtpmphefmmcbpaaaGreatInts2
import Derived.Test.YtpmphefmmcbpaaaGreatSameLists
import Derived.Test.YtpmphefmmcbpaaaGreatIStep
namespace Go.Proofs.YtpmphefmmcbpaaaGreat
open Go.RowKit

set_option maxHeartbeats 1000000 in
theorem before_any (aa ab : Option Addr) (na nb ca cb : Nat) (x y : Int) (s t : List Int) (w : World) (hxy : x ≠ y) (ha : na = (x :: s).length) (hb : nb = (y :: t).length) (hca : Cells w aa (ints (x :: s))) (hcb : Cells w ab (ints (y :: t))) (hla : na ≤ 1000000) (hlb : nb ≤ 1000000) :
    Calls Tryz.prog 67 #[.slice aa na ca, .slice ab nb cb] w fun e w' => e = .returned (.bool (decide (x < y))) ∧ ∃ q, w' = w.drewN q := by
  obtain ⟨ga, oa, rfl, _, hra⟩ := hca.at (by rw [ints_length]; simp)
  obtain ⟨gb, ob, rfl, _, hrb⟩ := hcb.at (by rw [ints_length]; simp)
  have x0 := hra 0 _ (show (ints (x :: s))[0]? = some (.int .i64 x) from rfl)
  have y0 := hrb 0 _ (show (ints (y :: t))[0]? = some (.int .i64 y) from rfl)
  rw [Nat.add_zero] at x0 y0
  have h1 : (0 : Int) < (na : Int) := by rw [ha]; simp
  have h2 : (0 : Int) < (nb : Int) := by rw [hb]; simp
  have h3 : 0 < na := by omega
  have h4 : 0 < nb := by omega
  have hdec : decide (x = y) = false := decide_eq_false hxy
  clear hca hcb hra hrb ha hb
  go_enter Tryz.func67, Tryz.ntmps67
  go_wp2
  go_loopw [5] (fun kv wr => kv = .int .i64 0 ∧ wr = w) (fun _ _ => 0)
  case atStart => exact ⟨rfl, rfl⟩
  case round =>
    obtain ⟨rfl, rfl⟩ := hrel
    go_wp2_with fail
    go_quiet (fail)
    go_wp2_with fail
    go_quiet (fail)
    go_wp2_with fail
    go_ret
    exact ⟨rfl, _, World.drewN_drewN _ _ _⟩

theorem map_swap (f : Int → Value) (ys : List Int) (i : Nat) (h0 : 0 < i) (hi : i < ys.length) : ((ys.map f).set i (f (ys[i - 1]'(by omega)))).set (i - 1) (f ys[i]) = (swap1 ys i).map f := by
  have e1 : ys.getD i 0 = ys[i] := by simp [hi]
  have e2 : ys.getD (i - 1) 0 = ys[i - 1]'(by omega) := by simp [show i - 1 < ys.length by omega]
  unfold swap1
  rw [e1, e2, List.map_set, List.map_set]

/-- The rows that the heads name. -/
def HRows (w : World) (hs : List Int) (fv : Int → Value) (fc : Int → List Int) : Prop :=
  ∀ x ∈ hs, ∃ (a : Option Addr) (c : Nat) (t : List Int), fv x = .slice a (fc x).length c ∧ Cells w a (ints (fc x)) ∧ fc x = x :: t ∧ (fc x).length ≤ 1000
theorem HRows.below {w w' : World} {hs : List Int} {fv : Int → Value} {fc : Int → List Int} (h : HRows w hs fv fc) (hb : Below w.heap.size w w') : HRows w' hs fv fc := fun x hx => by
  obtain ⟨a, c, t, h1, h2, h3⟩ := h x hx
  exact ⟨a, c, t, h1, h2.below hb, h3⟩
theorem HRows.one {w : World} {hs : List Int} {fv : Int → Value} {fc : Int → List Int} (h : HRows w hs fv fc) : ∀ u ∈ hs.map fv, u.oneCell' = true := fun u hu => by
  obtain ⟨x, hx, rfl⟩ := List.mem_map.1 hu
  obtain ⟨a, c, t, h1, _⟩ := h x hx
  rw [h1]; rfl

theorem cloneRows_any (B : Nat) (a : Option Addr) (n c : Nat) (xs : List Value) (w : World) (hl : n = xs.length) (hn : n ≤ 1048576) (hown : w.ownsRow B 22 1 (.slice a n c) n xs) (h1 : ∀ u ∈ xs, u.oneCell' = true) :
    Calls Tryz.prog 66 #[.slice a n c] w fun e w' => ∃ a' cap', e = .returned (.slice a' n cap') ∧ w'.ownsRow w.heap.size 22 1 (.slice a' n cap') n xs ∧ Below w.heap.size w w' := by
  subst hl
  rcases owns_head hown with rfl | ⟨g, rfl⟩
  · have hx : xs = [] := by
      by_cases h : 0 < xs.length
      · obtain ⟨g, e, _⟩ := owns_at hown h
        cases e
      · exact List.eq_nil_of_length_eq_zero (by omega)
    subst hx
    refine (Tryz.slices_Clone_nil_f66 0 c w).mono ?_
    rintro e w' ⟨rfl, rfl⟩
    exact ⟨none, 0, rfl, World.ownsRow_nil _ _ _ _, Below.refl _ _⟩
  · obtain ⟨i0, hi0, hz0, hz1, hz2⟩ := info_parts info_irow
    refine (Tryz.slices_Clone_f66 i0 _ 1 24 hi0 hz0 hz1 hz2 rfl (by omega) Tryz.sizeOf22 g 0 xs.length c xs w (by rw [Nat.mul_one]) (by unfold maxLen; omega) (by omega)
      (fun j u hj => by rw [Nat.zero_add]; exact owns_cell hown hj) h1).mono ?_
    rintro e w' ⟨v', rfl, hown', _, hb⟩
    obtain ⟨a', cap', rfl, _⟩ := owns_cells hown'
    exact ⟨a', cap', rfl, hown', hb⟩

set_option maxHeartbeats 1000000 in
theorem sortedLists_any (B : Nat) (a : Option Addr) (n cap : Nat) (hs : List Int) (fv : Int → Value) (fc : Int → List Int) (w : World) (hl : n = hs.length) (hsm : hs.length ≤ 1000) (hc : w.ownsRow B 22 1 (.slice a n cap) n (hs.map fv)) (hr : HRows w hs fv fc) (hnd : hs.Nodup) :
    Calls Tryz.prog 29 #[.slice a n cap] w fun e w' => ∃ a' cap', e = .returned (.slice a' n cap') ∧
      w'.ownsRow w.heap.size 22 1 (.slice a' n cap') n ((asc hs).map fv) ∧ Below w.heap.size w w' := by
  subst hl
  have hclone := Lib.hid (cloneRows_any B a _ cap (hs.map fv) w (by rw [List.length_map]) (by omega) hc hr.one)
  have hrh := Lib.hid hr
  clear hc hr
  go_enter Tryz.func29, Tryz.ntmps29
  go_wp2_with (go_at_call 66; refine (Calls.mono (unhide hclone) ?_); rintro e w1 ⟨a1, cap1, rfl, hown1, hb1⟩)
  go_loopw [4, 5] (fun i _ wr => ∃ (k : Nat) (ys : List Int), 1 ≤ k ∧ i = .int .i64 k ∧ ys.length = hs.length ∧ ys.Perm hs ∧ SortedTo ys k ∧
      wr.ownsRow w.heap.size 22 1 (.slice a1 hs.length cap1) hs.length (ys.map fv) ∧ Below w.heap.size w wr) (fun i _ _ => hs.length - (intOf i).toNat)
  case atStart => exact ⟨1, hs, Nat.le_refl _, rfl, rfl, List.Perm.refl _, sortedTo_one _, hown1, hb1⟩
  case round =>
    obtain ⟨k, ys, hk, rfl, hl0, hp0, hs0, hown, hb⟩ := hrel
    have hl := Lib.hid hl0
    have hp := Lib.hid hp0
    have hs' := Lib.hid hs0
    clear hl0 hp0 hs0 hown1 hb1 hclone
    by_cases hlt : k < hs.length
    · obtain ⟨wo, rfl⟩ : ∃ wo : World, wo = wr := ⟨_, rfl⟩
      go_wp2_with fail
      go_loopw [5] (fun i wr => ∃ (j : Nat) (ys : List Int), j ≤ k ∧ i = .int .i64 j ∧ ys.length = hs.length ∧ ys.Perm hs ∧ SortedBut ys j k ∧
        wr.ownsRow w.heap.size 22 1 (.slice a1 hs.length cap1) hs.length (ys.map fv) ∧ Below w.heap.size w wr) (fun i _ => (intOf i).toNat)
      case atStart => exact ⟨k, ys, Nat.le_refl _, rfl, hl.out, hp.out, hs'.out.but, hown, hb⟩
      case round =>
        obtain ⟨j, yz, hj, rfl, hl1, hp1, hs1, hown1, hb1⟩ := hrel
        have hl1' := Lib.hid hl1
        have hp1' := Lib.hid hp1
        have hs1' := Lib.hid hs1
        have hjl : j < yz.length := by omega
        have hj1 : j - 1 < yz.length := by omega
        have hrr := hrh.out.below hb1
        have hm1 : yz[j] ∈ hs := hp1.mem_iff.1 (List.getElem_mem hjl)
        have hm2 : yz[j - 1] ∈ hs := hp1.mem_iff.1 (List.getElem_mem hj1)
        obtain ⟨aj, cj, tj, ej, hcj, eqj, lj⟩ := hrr _ hm1
        obtain ⟨ai, ci, ti, ei, hci, eqi, li⟩ := hrr _ hm2
        obtain ⟨g, rfl, hg1, hg2, hg3⟩ := owns_at hown1 (by omega)
        have c1 : wr.cell? ⟨g, j, none⟩ = some (fv yz[j]) := owns_cell hown1 (by rw [List.getElem?_map, List.getElem?_eq_getElem hjl]; rfl)
        have c2 : wr.cell? ⟨g, j - 1, none⟩ = some (fv yz[j - 1]) := owns_cell hown1 (by rw [List.getElem?_map, List.getElem?_eq_getElem hj1]; rfl)
        have f1 := owns_free hown1 j
        have f2 := owns_free hown1 (j - 1)
        have hsw : Hid (0 < j → ∀ wm, (∃ q, wm = wr.drewN q) → ((wm.drew.setCell ⟨g, j, none⟩ (fv yz[j - 1])).setCell ⟨g, j - 1, none⟩ (fv yz[j])).ownsRow w.heap.size 22 1 (.slice (some ⟨g, 0, none⟩) hs.length cap1) hs.length ((swap1 yz j).map fv) ∧ Below w.heap.size w ((wm.drew.setCell ⟨g, j, none⟩ (fv yz[j - 1])).setCell ⟨g, j - 1, none⟩ (fv yz[j]))) := fun h0 wm ⟨q, hq⟩ => by
          subst hq
          have h1 : (wr.drewN q).drew.ownsRow w.heap.size 22 1 (.slice (some ⟨g, 0, none⟩) hs.length cap1) hs.length (yz.map fv) := owns_same hown1 fun _ _ => rfl
          refine ⟨?_, Below.setCell (p := ⟨g, j - 1, none⟩) (Below.setCell (p := ⟨g, j, none⟩) (below_draws hb1 q).drew hg1 _) hg1 _⟩
          rw [← map_swap fv yz j h0 hjl]
          exact owns_set (owns_set h1 _) _
        rw [ej, ei] at hsw
        rw [ej] at c1
        rw [ei] at c2
        have hown1h := Lib.hid hown1
        have hb1h := Lib.hid hb1
        obtain ⟨xj, hxj⟩ : ∃ xj, xj = yz[j] := ⟨_, rfl⟩
        obtain ⟨xi, hxi⟩ : ∃ xi, xi = yz[j - 1] := ⟨_, rfl⟩
        have hxjh := Lib.hid hxj
        have hxih := Lib.hid hxi
        rw [← hxj] at c1 hsw hcj eqj lj
        rw [← hxi] at c2 hsw hci eqi li
        by_cases h0 : 0 < j
        · have hne : xj ≠ xi := fun e => by
            rw [hxj, hxi] at e
            have := (List.getElem_inj (hp1.nodup_iff.2 hnd)).1 e
            omega
          have hbef : Hid (∀ q, Calls Tryz.prog 67 #[.slice aj (fc xj).length cj, .slice ai (fc xi).length ci] (wr.drewN q) fun e w' => e = .returned (.bool (decide (xj < xi))) ∧ ∃ m, w' = (wr.drewN q).drewN m) := fun q =>
            before_any aj ai _ _ cj ci xj xi tj ti (wr.drewN q) hne (by rw [eqj]) (by rw [eqi]) (by rw [← eqj]; exact hcj.drewN q) (by rw [← eqi]; exact hci.drewN q) (by omega) (by omega)
          obtain ⟨nj, hnj⟩ : ∃ nj, nj = (fc xj).length := ⟨_, rfl⟩
          obtain ⟨ni, hni⟩ : ∃ ni, ni = (fc xi).length := ⟨_, rfl⟩
          rw [← hnj] at c1 hbef hsw
          rw [← hni] at c2 hbef hsw
          have hd : decide (0 < j) = true := decide_eq_true h0
          have hlts : Hid (xj < xi → SortedBut (swap1 yz j) (j - 1) k) := fun h => hs1'.out.swap h0 hj (by rw [hl1]; exact hlt) (by rw [← hxjh.out, ← hxih.out]; exact h)
          have hges : Hid (¬ xj < xi → SortedTo yz (k + 1)) := fun h => hs1'.out.done fun _ _ => by rw [← hxjh.out, ← hxih.out]; omega
          have hsw2 := Lib.hid (hsw.out h0)
          have hi0 : (0 : Int) < (j : Int) := by omega
          clear hl1 hp1 hs1 hown hb hl hp hs' hown1 hb1 hrr hm1 hm2 ej ei hcj hci eqj eqi lj li hnj hni hxj hxi
          by_cases hlt2 : xj < xi
          · have hd2 : decide (xj < xi) = true := decide_eq_true hlt2
            rw [hd2] at hbef
            go_wp2_with fail
            go_quiet ((go_at_call 67; exact Calls.quiet_of (hbef.out _)))
            obtain ⟨wm, hwm⟩ : ∃ wm, wm = wr.drewN nq := ⟨_, rfl⟩
            have hf := Lib.hid (hsw2.out wm ⟨_, hwm⟩)
            have c1m : wm.cell? ⟨g, j, none⟩ = some (.slice aj nj cj) := by rw [hwm]; exact c1
            have c2m : wm.cell? ⟨g, j - 1, none⟩ = some (.slice ai ni ci) := by rw [hwm]; exact c2
            have f1m : wm.frozen? ⟨g, j, none⟩ = false := by rw [hwm]; exact f1
            have f2m : wm.frozen? ⟨g, j - 1, none⟩ = false := by rw [hwm]; exact f2
            rw [← hwm]
            clear hwm c1 c2 f1 f2 hbef hsw hsw2
            go_wp2_with fail
            go_region
            go_wp2_with fail
            go_roundw
            case rel => exact ⟨j - 1, swap1 yz j, by omega, by go_num, by rw [swap1_length]; exact hl1'.out, (swap1_perm yz j h0 hjl).trans hp1'.out, hlts.out hlt2, hf.out.1, hf.out.2⟩
            case measure => simp [intOf]; omega
          · have hd2 : decide (xj < xi) = false := decide_eq_false hlt2
            rw [hd2] at hbef
            go_wp2_with fail
            go_quiet ((go_at_call 67; exact Calls.quiet_of (hbef.out _)))
            clear c1 c2 f1 f2 hbef hsw hsw2
            go_wp2_with fail
            go_roundw
            case rel => exact ⟨k + 1, yz, by omega, by go_num, hl1'.out, hp1'.out, hges.out hlt2, owns_same hown1h.out fun _ _ => rfl, below_draws hb1h.out _⟩
            case measure => simp [intOf]; omega
        · have hs'' : Hid (SortedTo yz (k + 1)) := hs1'.out.done fun h _ => absurd h h0
          have hd : decide (0 < j) = false := decide_eq_false h0
          have hi0 : ¬ (0 : Int) < (j : Int) := by omega
          clear hl1 hp1 hs1 hown hb hl hp hs' hown1 hb1 hrr hm1 hm2 ej ei hcj hci eqj eqi lj li hxj hxi c1 c2 f1 f2 hsw
          go_wp2_with fail
          go_quiet (fail)
          go_wp2_with fail
          go_roundw
          case rel => exact ⟨k + 1, yz, by omega, by go_num, hl1'.out, hp1'.out, hs''.out, owns_same hown1h.out fun _ _ => rfl, below_draws hb1h.out _⟩
          case measure => simp [intOf]; omega
    · have he : ys = asc hs := asc_unique hp.out (hs'.out.all (by have := hl.out; omega))
      rw [he] at hown
      have hfin := Lib.hid (And.intro hown hb)
      clear hown hb
      go_wp2_with fail
      go_ret
      exact ⟨a1, cap1, rfl, hfin.out.1, hfin.out.2⟩

end Go.Proofs.YtpmphefmmcbpaaaGreat
