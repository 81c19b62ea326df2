/- laws.least, laws.allIn. -/
import Derived.Test.YtfihclhceakmdaaPeelLaw
import Derived.Test.YtfihclhceakmdaaLaws2
import Derived.Deep.RegionHeld3
namespace Go.Proofs.Ytfihclhceakmdaa
open Go.RowKit

/-- How many of the first m nodes of l an edge leads to from x. -/
def dgTo (g : Gr) (l : List Int) (x : Int) (m : Nat) : Nat := ((l.take m).filter fun y => arcB g x y).length
theorem dgTo_succ (g : Gr) (l : List Int) (x : Int) (m : Nat) (hm : m < l.length) : dgTo g l x (m + 1) = dgTo g l x m + if arcB g x l[m] = true then 1 else 0 := by
  unfold dgTo
  rw [List.take_succ_eq_append_getElem hm, List.filter_append, List.length_append]
  congr 1
  by_cases h : arcB g x l[m] = true
  · rw [if_pos h, List.filter_cons_of_pos h]; rfl
  · rw [if_neg h, List.filter_cons_of_neg h]; rfl
theorem dgTo_le (g : Gr) (l : List Int) (x : Int) (m : Nat) : dgTo g l x m ≤ l.length := by
  unfold dgTo
  refine Nat.le_trans (List.length_filter_le _ _) ?_
  rw [List.length_take]; omega
theorem dgTo_all (g : Gr) (l : List Int) (x : Int) : dgTo g l x l.length = dgIn g l x := by
  unfold dgTo dgIn
  rw [List.take_length]

set_option maxRecDepth 100000 in
set_option maxHeartbeats 4000000 in
theorem least_any (g : Gr) (an : Option Addr) (cn : Nat) (ae : Option Addr) (ce : Nat) (al : Option Addr) (n cl : Nat) (l : List Int) (w : World) (hl : n = l.length) (hn : n ≤ 1000) (he : g.edges.length ≤ 1048576) (hg : GrAt w g an cn ae) (hc : Cells w al (ints l)) :
    Calls Try.prog 8 #[.agg #[.bool g.dir, .slice an g.nodes.length cn, .slice ae g.edges.length ce], .slice al n cl] w fun e w' => e = .returned (.int .i64 (leastTo g l n : Nat)) ∧ Below w.heap.size w w' := by
  obtain ⟨w1, hw1⟩ : ∃ w1, w1 = w.alloc (.cells #[.bool g.dir, .slice an g.nodes.length cn, .slice ae g.edges.length ce] 25) := ⟨_, rfl⟩
  have hb1 : Below w.heap.size w w1 := by rw [hw1]; exact alloc_below w _
  have k0 : w1.cell? ⟨w.heap.size, 0, none⟩ = some (.bool g.dir) := by rw [hw1]; simp
  have k1 : w1.cell? ⟨w.heap.size, 1, none⟩ = some (.slice an g.nodes.length cn) := by rw [hw1]; simp
  have k2 : w1.cell? ⟨w.heap.size, 2, none⟩ = some (.slice ae g.edges.length ce) := by rw [hw1]; simp
  have hK : Hid (∀ W, Below w1.heap.size w1 W → (Below w.heap.size w W ∧ GrAt W g an cn ae ∧ Cells W al (ints l)) ∧ W.cell? ⟨w.heap.size, 0, none⟩ = some (.bool g.dir) ∧ W.cell? ⟨w.heap.size, 1, none⟩ = some (.slice an g.nodes.length cn) ∧ W.cell? ⟨w.heap.size, 2, none⟩ = some (.slice ae g.edges.length ce)) := fun W hW =>
    ⟨⟨hb1.trans (hW.mono hb1.size), hg.below (hb1.trans (hW.mono hb1.size)), hc.below (hb1.trans (hW.mono hb1.size))⟩, cell_below hW k0, cell_below hW k1, cell_below hW k2⟩
  have hw1h := Lib.hid hw1
  have hlh := Lib.hid hl
  clear hg hb1 hw1 k0 k1 k2 hc hl
  go_enter Try.func8, Try.ntmps8
  go_wp2_with fail
  rw [← hw1h.out]
  go_loopw [5, 6, 7, 8] (fun ov kv _ _ wr => ∃ k : Nat, k ≤ n ∧ kv = .int .i64 k ∧ ov = .int .i64 (leastTo g l k : Nat) ∧ Below w1.heap.size w1 wr) (fun _ kv _ _ _ => n - (intOf kv).toNat)
  case atStart => exact ⟨0, Nat.zero_le _, rfl, rfl, Below.refl _ _⟩
  case round =>
    obtain ⟨k, hk, rfl, rfl, hb⟩ := hrel
    have hbh := Lib.hid hb
    by_cases hlt : k < n
    · obtain ⟨x, hx⟩ : ∃ x, x = l[k]'(by have := hlh.out; omega) := ⟨_, rfl⟩
      have hxh := Lib.hid hx
      clear hx hb
      go_wp2_with fail
      go_loopw [7, 8] (fun nv iv wr => ∃ i : Nat, i ≤ n ∧ iv = .int .i64 i ∧ nv = .int .i64 (dgTo g l x i : Nat) ∧ Below w1.heap.size w1 wr) (fun _ iv _ => n - (intOf iv).toNat)
      case atStart => exact ⟨0, Nat.zero_le _, rfl, rfl, hbh.out⟩
      case round =>
        clear hbh
        obtain ⟨i, hi, rfl, rfl, hb⟩ := hrel
        have hbh := Lib.hid hb
        by_cases hli : i < n
        · obtain ⟨⟨hbw, hgr, hcr⟩, d0, d1, d2⟩ := hK.out wr hb
          have hkl : k < l.length := by have := hlh.out; omega
          have hil : i < l.length := by have := hlh.out; omega
          obtain ⟨b, off, rfl, _, hr⟩ := hcr.at (by rw [ints_length]; omega)
          have x0 := hr _ _ (ints_get l k hkl)
          have x1 := hr _ _ (ints_get l i hil)
          rw [← hxh.out] at x0
          have hst := dgTo_succ g l x i hil
          have hle := dgTo_le g l x i
          obtain ⟨y, hy⟩ : ∃ y, y = l[i] := ⟨_, rfl⟩
          rw [← hy] at x1 hst
          have hC : Hid (∀ W, Below wr.heap.size wr W → W.cell? ⟨w.heap.size, 0, none⟩ = some (.bool g.dir) ∧ W.cell? ⟨w.heap.size, 1, none⟩ = some (.slice an g.nodes.length cn) ∧ W.cell? ⟨w.heap.size, 2, none⟩ = some (.slice ae g.edges.length ce) ∧ W.cell? ⟨b, off + k, none⟩ = some (.int .i64 x) ∧ W.cell? ⟨b, off + i, none⟩ = some (.int .i64 y)) := fun W hW =>
            ⟨cell_below hW d0, cell_below hW d1, cell_below hW d2, cell_below hW x0, cell_below hW x1⟩
          have harc : Hid (∀ W, Below wr.heap.size wr W → Calls Try.prog 16 #[.agg #[.bool g.dir, .slice an g.nodes.length cn, .slice ae g.edges.length ce], .int .i64 x, .int .i64 y] W fun e w' => e = .returned (.bool (arcB g x y)) ∧ Below wr.heap.size wr w') := fun W hW =>
            (arc_any g an cn ae ce x y W he (hgr.below hW)).mono fun e w' ⟨h1, h2⟩ => ⟨h1, hW.trans (h2.mono hW.size)⟩
          obtain ⟨t, ht⟩ : ∃ t, t = arcB g x y := ⟨_, rfl⟩
          rw [← ht] at harc hst
          obtain ⟨d, hd⟩ : ∃ d, d = dgTo g l x i := ⟨_, rfl⟩
          rw [← hd] at hst hle ⊢
          have hnn := hlh.out
          have hdl : d ≤ 1000 := by omega
          have hbr : Hid (∀ W, Below wr.heap.size wr W → Below w1.heap.size w1 W) := fun W hW => hbh.out.trans (hW.mono hbh.out.size)
          clear hr hy ht hd hbw hgr hcr hnn hle hb
          cases t
          · have hst2 := Lib.hid (show dgTo g l x (i + 1) = d by rw [hst]; simp)
            clear hst
            go_wp2_with fail
            first
              | (go_region_law (go_simp; go_at_call 16; ((with_reducible refine (harc.out _ (by repeat (first | exact Below.refl _ _ | refine Below.drew ?_))).mono ?_)); rintro e w6 ⟨rfl, hb6⟩; obtain ⟨s0, s1, s2, s3, s4⟩ := hC.out w6 hb6))
              | fail
            all_goals
              go_wp2_with fail
              go_roundw
              case rel => exact ⟨i + 1, by omega, by go_num, by rw [hst2.out], hbr.out _ hb6⟩
              case measure => simp [intOf]; omega
          · have hst2 := Lib.hid (show dgTo g l x (i + 1) = d + 1 by rw [hst]; simp)
            clear hst
            go_wp2_with fail
            first
              | (go_region_law (go_simp; go_at_call 16; ((with_reducible refine (harc.out _ (by repeat (first | exact Below.refl _ _ | refine Below.drew ?_))).mono ?_)); rintro e w6 ⟨rfl, hb6⟩; obtain ⟨s0, s1, s2, s3, s4⟩ := hC.out w6 hb6))
              | fail
            all_goals
              go_wp2_with fail
              go_roundw
              case rel => exact ⟨i + 1, by omega, by go_num, by rw [hst2.out]; go_num, hbr.out _ hb6⟩
              case measure => simp [intOf]; omega
        · have hin : i = n := by omega
          subst hin
          have hkl : k < l.length := by have := hlh.out; omega
          have hls := leastTo_succ g l k hkl
          rw [← hxh.out] at hls
          have hda := dgTo_all g l x
          rw [← hlh.out] at hda
          obtain ⟨d, hd⟩ : ∃ d, d = dgTo g l x i := ⟨_, rfl⟩
          obtain ⟨m, hm⟩ : ∃ m, m = leastTo g l k := ⟨_, rfl⟩
          rw [← hd] at hda ⊢
          rw [← hm, ← hda] at hls
          rw [← hm]
          have hlsh : Hid ((.int .i64 ((leastTo g l (k + 1) : Nat) : Int) : Value) = .int .i64 (min (m : Int) (d : Int))) := by
            unfold Hid; rw [hls]
            congr 1
            omega
          clear hls hda hd hm hb
          go_wp2_with fail
          go_roundw
          case rel => exact ⟨k + 1, by omega, by go_num, by rw [hlsh.out], hbh.out⟩
          case measure => simp [intOf]; omega
    · have hkn : k = n := by omega
      subst hkn
      have hbw := Lib.hid (hK.out wr hb).1.1
      clear hb
      go_wp2_with fail
      go_ret
      exact ⟨rfl, hbw.out⟩

set_option maxHeartbeats 1000000 in
theorem allIn_any (al : Option Addr) (n cl : Nat) (l : List Int) (aa : Option Addr) (m ca : Nat) (all : List Int) (w : World) (hl : n = l.length) (hm : m = all.length) (hn : n ≤ 1000) (hmm : m ≤ 1000) (hc : Cells w al (ints l)) (hca : Cells w aa (ints all)) :
    Calls Try.prog 9 #[.slice al n cl, .slice aa m ca] w fun e w' => e = .returned (.bool (decide (∀ x ∈ l, x ∈ all))) ∧ w = w' := by
  have hhas : Hid (∀ x, Calls Try.prog 17 #[.slice aa m ca, .int .i64 x] w fun e w' => e = .returned (.bool (decide (x ∈ all))) ∧ w = w') := fun x =>
    has_any aa m ca all x w hm (by omega) hca
  have hlh := Lib.hid hl
  have hch := Lib.hid hc
  clear hl hc hca hm
  go_enter Try.func9, Try.ntmps9
  go_wp2_with fail
  go_loopw [5] (fun kv wr => ∃ k : Nat, k ≤ n ∧ kv = .int .i64 k ∧ (∀ j (hj : j < l.length), j < k → l[j] ∈ all) ∧ wr = w) (fun kv _ => n - (intOf kv).toNat)
  case atStart => exact ⟨0, Nat.zero_le _, rfl, fun j _ h => absurd h (Nat.not_lt_zero j), rfl⟩
  case round =>
    obtain ⟨k, hk, rfl, hno, rfl⟩ := hrel
    have hnoh := Lib.hid hno
    clear hno
    by_cases hlt : k < n
    · have hkl : k < l.length := by have := hlh.out; omega
      obtain ⟨b, off, rfl, _, hr⟩ := hch.out.at (by rw [ints_length]; omega)
      have x0 := hr _ _ (ints_get l k hkl)
      obtain ⟨x, hx⟩ : ∃ x, x = l[k] := ⟨_, rfl⟩
      rw [← hx] at x0
      have hx1 := Lib.hid (hhas.out x)
      obtain ⟨q, hq⟩ : ∃ q, q = decide (x ∈ all) := ⟨_, rfl⟩
      rw [← hq] at hx1
      have hqh := Lib.hid hq
      have hxh := Lib.hid hx
      clear hr hq hx
      cases q
      · have hfin : Hid (decide (∀ x ∈ l, x ∈ all) = false) := by
          refine decide_eq_false fun h => ?_
          have := h x (by rw [hxh.out]; exact List.getElem_mem hkl)
          have h2 := hqh.out
          rw [decide_eq_true this] at h2
          cases h2
        go_wp2_with (go_at_call 17; refine (unhide hx1).mono ?_; rintro e w7 ⟨rfl, rfl⟩)
        go_ret
        exact ⟨by rw [hfin.out]; rfl, rfl⟩
      · have hnx : Hid (∀ j (hj : j < l.length), j < k + 1 → l[j] ∈ all) := fun j hj hjk => by
          by_cases e : j = k
          · subst e; rw [← hxh.out]; exact of_decide_eq_true hqh.out.symm
          · exact hnoh.out j hj (by omega)
        go_wp2_with (go_at_call 17; refine (unhide hx1).mono ?_; rintro e w7 ⟨rfl, rfl⟩)
        go_roundw
        case rel => exact ⟨k + 1, by omega, by go_num, hnx.out, trivial⟩
        case measure => simp [intOf]; omega
    · have hfin : Hid (decide (∀ x ∈ l, x ∈ all) = true) := decide_eq_true fun x hx => by
        obtain ⟨j, hj, rfl⟩ := List.mem_iff_getElem.1 hx
        exact hnoh.out j hj (by have := hlh.out; omega)
      go_wp2_with fail
      go_ret
      exact ⟨by rw [hfin.out]; rfl, rfl⟩
end Go.Proofs.Ytfihclhceakmdaa
