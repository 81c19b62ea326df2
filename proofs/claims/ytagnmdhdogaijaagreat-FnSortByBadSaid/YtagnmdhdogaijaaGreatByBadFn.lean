/- laws.FnSortByBad: the walk. -/
import Derived.Test.YtagnmdhdogaijaaGreatByBad1
import Derived.Deep.RegionLaw
import Derived.Deep.RegionHeld3
import Derived.Deep.DeepCutAuto
namespace Go.Proofs.YtagnmdhdogaijaaGreat
open Go.RowKit

theorem good_asc {g : Gr} {pl : List Int} (h1 : okGraph g = true) (h2 : g.dir = true) : goodBy g pl = decide (asc pl = asc g.nodes) := by
  have hnd : g.nodes.Nodup := by
    unfold okGraph at h1
    rw [Bool.and_eq_true] at h1
    exact of_decide_eq_true h1.1
  unfold goodBy
  rw [h1, h2, Bool.true_and, Bool.true_and, Bool.eq_iff_iff, Bool.and_eq_true, Bool.and_eq_true, decide_eq_true_iff, decide_eq_true_iff, decide_eq_true_iff, List.all_eq_true]
  constructor
  · rintro ⟨⟨a, b⟩, c⟩
    have hc : ∀ z ∈ pl, z ∈ g.nodes := fun z hz => of_decide_eq_true (c z hz)
    exact asc_unique ((asc_perm pl).trans (nodup_perm a hnd fun x => ⟨hc x, cover a b hc x⟩)) (asc_sorted pl)
  · intro h
    have hp : pl.Perm g.nodes := (asc_perm pl).symm.trans (h ▸ asc_perm g.nodes)
    exact ⟨⟨hp.nodup_iff.2 hnd, hp.length_eq⟩, fun z hz => decide_eq_true (hp.mem_iff.1 hz)⟩

set_option maxRecDepth 100000 in
set_option maxHeartbeats 60000000 in
theorem byBad_any (g : Gr) (an : Option Addr) (cn : Nat) (ae : Option Addr) (ce : Nat) (ap : Option Addr) (cp : Nat) (pl : List Int) (w : World) (hm : g.nodes.length ≤ 9223372036854775807) (hm' : g.edges.length ≤ 9223372036854775807) (hmp : pl.length ≤ 9223372036854775807)
    (hg : GrAt w g an cn ae) (h64 : ∀ x ∈ g.nodes, In64 x) (hcp : Cells w ap (ints pl)) (h0 : ap = none → cp = 0) :
    Calls Tryz.prog 5 #[.agg #[.bool g.dir, .slice an g.nodes.length cn, .slice ae g.edges.length ce], .slice ap pl.length cp] w
      fun e w' => e = .returned (.bool true) ∧ Below w.heap.size w w' := by
  obtain ⟨w1, hw1⟩ : ∃ w1, w1 = w.alloc (.cells #[.bool g.dir, .slice an g.nodes.length cn, .slice ae g.edges.length ce] 25) := ⟨_, rfl⟩
  have hb1 : Below w.heap.size w w1 := by rw [hw1]; exact alloc_below w _
  have hz1 : w1.heap.size = w.heap.size + 1 := by rw [hw1]; simp
  have k0 : w1.cell? ⟨w.heap.size, 0, none⟩ = some (.bool g.dir) := by rw [hw1]; simp
  have k1 : w1.cell? ⟨w.heap.size, 1, none⟩ = some (.slice an g.nodes.length cn) := by rw [hw1]; simp
  have k2 : w1.cell? ⟨w.heap.size, 2, none⟩ = some (.slice ae g.edges.length ce) := by rw [hw1]; simp
  have hK : Hid (∀ wr, Below w1.heap.size w1 wr → (Below w.heap.size w wr ∧ GrAt wr g an cn ae ∧ Cells wr ap (ints pl)) ∧ wr.cell? ⟨w.heap.size, 0, none⟩ = some (.bool g.dir) ∧ wr.cell? ⟨w.heap.size, 1, none⟩ = some (.slice an g.nodes.length cn) ∧ wr.cell? ⟨w.heap.size, 2, none⟩ = some (.slice ae g.edges.length ce)) :=
    fun wr h => ⟨⟨hb1.trans (h.mono (by omega)), (hg.below hb1).below h, (hcp.below hb1).below h⟩, cell_below h k0, cell_below h k1, cell_below h k2⟩
  have hfits := Lib.hid (fits_any g an cn ae ce w1 hm hm')
  rw [hw1] at hfits
  have hw1h := Lib.hid hw1
  have h64h := Lib.hid h64
  clear hg hb1 hw1 k0 k1 k2 hcp h64
  go_enter Tryz.func5, Tryz.ntmps5
  go_wp2_with fail
  refine (unhide hfits).mono ?_
  rintro e w2 ⟨rfl, hb2⟩
  rw [← hw1h.out] at hb2
  obtain ⟨⟨hbw2, hg2, _⟩, c0, c1, c2⟩ := hK.out w2 hb2
  have hb2h := Lib.hid hb2
  have hbw2h := Lib.hid hbw2
  have hlt := Lib.hid (fun h => light_any g an cn ae ce w2 h hg2)
  clear hb2 hbw2 hg2 hfits
  rcases hf : fitsB g with _ | _
  · go_wp2_with fail
    go_ret
    exact ⟨rfl, hbw2h.out⟩
  clear hf
  by_cases hp1 : 2147483647 < pl.length
  · have hp2 : (2147483647 : Int) < (pl.length : Int) := by omega
    go_wp2_with fail
    go_ret
    exact ⟨rfl, hbw2h.out⟩
  have hp2 : ¬ (2147483647 : Int) < (pl.length : Int) := by omega
  by_cases hn1 : 40 < g.nodes.length
  · have hn2 : (40 : Int) < (g.nodes.length : Int) := by omega
    go_wp2_with fail
    go_ret
    exact ⟨rfl, hbw2h.out⟩
  have hn2 : ¬ (40 : Int) < (g.nodes.length : Int) := by omega
  by_cases he1 : 200 < g.edges.length
  · have he2 : (200 : Int) < (g.edges.length : Int) := by omega
    go_wp2_with fail
    go_ret
    exact ⟨rfl, hbw2h.out⟩
  have he2 : ¬ (200 : Int) < (g.edges.length : Int) := by omega
  by_cases hq1 : 60 < pl.length
  · have hq2 : (60 : Int) < (pl.length : Int) := by omega
    go_wp2_with fail
    go_ret
    exact ⟨rfl, hbw2h.out⟩
  have hq2 : ¬ (60 : Int) < (pl.length : Int) := by omega
  have hlt2 := Lib.hid (hlt.out (by omega))
  go_wp2_with fail
  refine (unhide hlt2).mono ?_
  rintro e w3 ⟨rfl, hb3⟩
  have hb3' := hb2h.out.trans (hb3.mono hb2h.out.size)
  obtain ⟨⟨hbw3, hg3, hcp3⟩, d0, d1, d2⟩ := hK.out w3 hb3'
  have hb3h := Lib.hid hb3'
  have hbw3h := Lib.hid hbw3
  have hsb := Lib.hid (sortByI_any g an cn ae ce ap cp pl w3 (by omega) (by omega) hg3 h64h.out (by omega) hcp3 h0)
  clear hb3 hb3' hbw3 hg3 hcp3 hlt hlt2 c0 c1 c2
  rcases hL : lightB g with _ | _
  · go_wp2_with fail
    go_ret
    exact ⟨rfl, hbw3h.out⟩
  clear hL
  go_wp2_with fail
  refine (unhide hsb).mono ?_
  rintro e w5 ⟨hb5, hbad, hgood⟩
  have hb5' := hb3h.out.trans (hb5.mono hb3h.out.size)
  obtain ⟨⟨hbw5, hg5, hcp5⟩, f0, f1, f2⟩ := hK.out w5 hb5'
  have hW : Hid (∀ W, Below w5.heap.size w5 W → W.cell? ⟨w.heap.size, 0, none⟩ = some (.bool g.dir) ∧ W.cell? ⟨w.heap.size, 1, none⟩ = some (.slice an g.nodes.length cn) ∧ W.cell? ⟨w.heap.size, 2, none⟩ = some (.slice ae g.edges.length ce)) := fun W hW => ⟨cell_below hW f0, cell_below hW f1, cell_below hW f2⟩
  have hWE : Hid (∀ W, Below w5.heap.size w5 W → Calls Tryz.prog 16 #[.agg #[.bool g.dir, .slice an g.nodes.length cn, .slice ae g.edges.length ce]] W fun e w' => e = .returned (.bool (okGraph g)) ∧ Below w5.heap.size w5 w' ∧ w'.cell? ⟨w.heap.size, 0, none⟩ = some (.bool g.dir) ∧ w'.cell? ⟨w.heap.size, 1, none⟩ = some (.slice an g.nodes.length cn) ∧ w'.cell? ⟨w.heap.size, 2, none⟩ = some (.slice ae g.edges.length ce)) := fun W hW' =>
    (well_any g an cn ae ce W (by omega) (by omega) (hg5.below hW')).mono fun e w' ⟨h1, h2⟩ => by
      have h3 := hW'.trans (h2.mono hW'.size)
      exact ⟨h1, h3, hW.out w' h3⟩
  have hSP : Hid (∀ W, Below w5.heap.size w5 W → Calls Tryz.prog 18 #[.slice ap pl.length cp] W fun e w' => ∃ a' c', e = .returned (.slice a' pl.length c') ∧ Cells w' a' (ints (asc pl)) ∧ Below w5.heap.size w5 w' ∧ w'.cell? ⟨w.heap.size, 0, none⟩ = some (.bool g.dir) ∧ w'.cell? ⟨w.heap.size, 1, none⟩ = some (.slice an g.nodes.length cn) ∧ w'.cell? ⟨w.heap.size, 2, none⟩ = some (.slice ae g.edges.length ce)) := fun W hW' =>
    (sorted_any ap _ cp pl W rfl (by omega) (hcp5.below hW') h0).mono fun e w' ⟨a', c', h1, h2, _, h4⟩ => by
      obtain ⟨aa, ca, he, _, hc, _⟩ := owns_cells h2
      injection he with he1 _ he3
      have h3 := hW'.trans (h4.mono hW'.size)
      exact ⟨a', c', h1, by rw [he1]; exact hc, h3, hW.out w' h3⟩
  have hSN : Hid (∀ W, Below w5.heap.size w5 W → Calls Tryz.prog 18 #[.slice an g.nodes.length cn] W fun e w' => ∃ a' c', e = .returned (.slice a' g.nodes.length c') ∧ Cells w' a' (ints (asc g.nodes)) ∧ Below W.heap.size W w' ∧ w'.cell? ⟨w.heap.size, 0, none⟩ = some (.bool g.dir) ∧ w'.cell? ⟨w.heap.size, 1, none⟩ = some (.slice an g.nodes.length cn) ∧ w'.cell? ⟨w.heap.size, 2, none⟩ = some (.slice ae g.edges.length ce)) := fun W hW' =>
    (sorted_any an _ cn g.nodes W rfl (by omega) (hg5.below hW').nodes (hg5.below hW').none).mono fun e w' ⟨a', c', h1, h2, _, h4⟩ => by
      obtain ⟨aa, ca, he, _, hc, _⟩ := owns_cells h2
      injection he with he1 _ he3
      have h3 := hW'.trans (h4.mono hW'.size)
      exact ⟨a', c', h1, by rw [he1]; exact hc, h4, hW.out w' h3⟩
  have hEQ : Hid (∀ W a5 c5 a6 c6, Cells W a5 (ints (asc pl)) → Cells W a6 (ints (asc g.nodes)) → Calls Tryz.prog 17 #[.slice a5 pl.length c5, .slice a6 g.nodes.length c6] W fun e w' => e = .returned (.bool (decide (asc pl = asc g.nodes))) ∧ ∃ q, w' = W.drewN q) := fun W a5 c5 a6 c6 h5 h6 =>
    eqInts_any a5 a6 _ _ c5 c6 (asc pl) (asc g.nodes) W (asc_length pl).symm (asc_length g.nodes).symm (by rw [asc_length]; omega) (by rw [asc_length]; omega) h5 h6
  obtain ⟨o, ho⟩ : ∃ o, o = okGraph g := ⟨_, rfl⟩
  obtain ⟨d, hd⟩ : ∃ d, d = g.dir := ⟨_, rfl⟩
  obtain ⟨q, hq⟩ : ∃ q, q = decide (asc pl = asc g.nodes) := ⟨_, rfl⟩
  have hval : Hid (goodBy g pl = (o && d && q)) := by
    unfold Hid
    rw [ho, hd, hq]
    rcases h1 : okGraph g with _ | _
    · unfold goodBy; rw [h1]; rfl
    · rcases h2 : g.dir with _ | _
      · unfold goodBy; rw [h1, h2]; rfl
      · rw [good_asc h1 h2]; rfl
  rw [← ho] at hWE
  rw [← hq] at hEQ
  have hbw5h := Lib.hid hbw5
  have hbadh := Lib.hid hbad
  have hgoodh := Lib.hid hgood
  rw [← hd] at hWE hSP hSN hW f0
  have hdh := Lib.hid hd
  clear ho hd hq hbw5 hg5 hcp5 hb5 hb5' hsb d0 d1 d2 hbadh hgoodh
  rcases hG : goodBy g pl with _ | _
  · have he := hbad hG
    subst he
    clear hbad hgood
    go_wp2_with fail
    go_cut [9] from 46 (fun s9 wx => s9 = .bool (o && d && q) ∧ Below w5.heap.size w5 wx)
    case first =>
      cases o
      · first
          | (go_region_law (go_simp; go_at_call 16; ((with_reducible refine (hWE.out _ (by repeat (first | exact Below.refl _ _ | refine Below.drew ?_))).mono ?_)); rintro e w6 ⟨rfl, hb6, s0, s1, s2⟩))
          | fail
        all_goals go_wp2_with fail
        all_goals go_meet
        all_goals exact ⟨rfl, hb6⟩
      · cases d
        · first
            | (go_region_law (go_simp; go_at_call 16; ((with_reducible refine (hWE.out _ (by repeat (first | exact Below.refl _ _ | refine Below.drew ?_))).mono ?_)); rintro e w6 ⟨rfl, hb6, s0, s1, s2⟩))
            | fail
          all_goals go_wp2_with fail
          all_goals go_meet
          all_goals exact ⟨rfl, hb6⟩
        · go_region_held3 (fun w' => w'.cell? ⟨w.heap.size, 0, none⟩ = some (.bool true) ∧ w'.cell? ⟨w.heap.size, 1, none⟩ = some (.slice an g.nodes.length cn) ∧ w'.cell? ⟨w.heap.size, 2, none⟩ = some (.slice ae g.edges.length ce)) (go_keep) (first
            | (go_at_call 16; ((with_reducible refine (hWE.out _ (by repeat (first | exact Below.refl _ _ | refine Below.drew ?_))).mono ?_)); rintro e w6 ⟨rfl, hb6, s0, s1, s2⟩)
            | (go_at_call 18; ((with_reducible refine (hSP.out w6 hb6).mono ?_)); rintro e w7 ⟨a7, c7, rfl, hc7, hb7, u0, u1, u2⟩)
            | (go_at_call 18; ((with_reducible refine (hSN.out w7 hb7).mono ?_)); rintro e w8 ⟨a8, c8, rfl, hc8, hb8, v0, v1, v2⟩)
            | (go_at_call 17; ((with_reducible refine (hEQ.out w8 _ _ _ _ (hc7.below hb8) hc8).mono ?_)); rintro e w9 ⟨rfl, q9, rfl⟩))
          all_goals go_wp2_with fail
          all_goals go_meet
          all_goals exact ⟨rfl, below_draws (hb7.trans (hb8.mono hb7.size)) _⟩
    case rest =>
    obtain ⟨rfl, hbc⟩ := hcut
    rw [← hval.out, hG]
    have har := Lib.hid (arranges_any wc)
    have hbwc : Hid (Below w.heap.size w wc) := hbw5h.out.trans (hbc.mono hbw5h.out.size)
    clear hWE hSP hSN hEQ hW f0 f1 f2 hbc
    go_wp2_with fail
    refine (unhide har).mono ?_
    rintro e w10 ⟨rfl, hb10⟩
    have hfin : Hid (Below w.heap.size w w10) := hbwc.out.trans (hb10.mono hbwc.out.size)
    clear har hb10
    go_wp2_with fail
    go_ret
    exact ⟨rfl, hfin.out⟩
  · obtain ⟨a1, c1, a2, c2, B, vs, rfl, _, _, _⟩ := hgood hG
    obtain ⟨m1, hm1⟩ : ∃ m1, m1 = (gBy g pl).length := ⟨_, rfl⟩
    obtain ⟨m2, hm2⟩ : ∃ m2, m2 = (cycBy pl (gBy g pl) (gBy g pl).length).length := ⟨_, rfl⟩
    obtain ⟨b2, hb2'⟩ : ∃ b2, b2 = decide (cycBy pl (gBy g pl) (gBy g pl).length = []) := ⟨_, rfl⟩
    rw [← hm2, ← hb2', ← hm1]
    clear hm1 hm2 hb2' hbad hgood
    go_wp2_with fail
    go_cut [9] from 46 (fun s9 wx => s9 = .bool (o && d && q) ∧ Below w5.heap.size w5 wx)
    case first =>
      cases o
      · first
          | (go_region_law (go_simp; go_at_call 16; ((with_reducible refine (hWE.out _ (by repeat (first | exact Below.refl _ _ | refine Below.drew ?_))).mono ?_)); rintro e w6 ⟨rfl, hb6, s0, s1, s2⟩))
          | fail
        all_goals go_wp2_with fail
        all_goals go_meet
        all_goals exact ⟨rfl, hb6⟩
      · cases d
        · first
            | (go_region_law (go_simp; go_at_call 16; ((with_reducible refine (hWE.out _ (by repeat (first | exact Below.refl _ _ | refine Below.drew ?_))).mono ?_)); rintro e w6 ⟨rfl, hb6, s0, s1, s2⟩))
            | fail
          all_goals go_wp2_with fail
          all_goals go_meet
          all_goals exact ⟨rfl, hb6⟩
        · go_region_held3 (fun w' => w'.cell? ⟨w.heap.size, 0, none⟩ = some (.bool true) ∧ w'.cell? ⟨w.heap.size, 1, none⟩ = some (.slice an g.nodes.length cn) ∧ w'.cell? ⟨w.heap.size, 2, none⟩ = some (.slice ae g.edges.length ce)) (go_keep) (first
            | (go_at_call 16; ((with_reducible refine (hWE.out _ (by repeat (first | exact Below.refl _ _ | refine Below.drew ?_))).mono ?_)); rintro e w6 ⟨rfl, hb6, s0, s1, s2⟩)
            | (go_at_call 18; ((with_reducible refine (hSP.out w6 hb6).mono ?_)); rintro e w7 ⟨a7, c7, rfl, hc7, hb7, u0, u1, u2⟩)
            | (go_at_call 18; ((with_reducible refine (hSN.out w7 hb7).mono ?_)); rintro e w8 ⟨a8, c8, rfl, hc8, hb8, v0, v1, v2⟩)
            | (go_at_call 17; ((with_reducible refine (hEQ.out w8 _ _ _ _ (hc7.below hb8) hc8).mono ?_)); rintro e w9 ⟨rfl, q9, rfl⟩))
          all_goals go_wp2_with fail
          all_goals go_meet
          all_goals exact ⟨rfl, below_draws (hb7.trans (hb8.mono hb7.size)) _⟩
    case rest =>
    obtain ⟨rfl, hbc⟩ := hcut
    rw [← hval.out, hG]
    have har := Lib.hid (arranges_any wc)
    have hbwc : Hid (Below w.heap.size w wc) := hbw5h.out.trans (hbc.mono hbw5h.out.size)
    clear hWE hSP hSN hEQ hW f0 f1 f2 hbc
    go_wp2_with fail
    refine (unhide har).mono ?_
    rintro e w10 ⟨rfl, hb10⟩
    have hfin : Hid (Below w.heap.size w w10) := hbwc.out.trans (hb10.mono hbwc.out.size)
    clear har hb10
    go_wp2_with fail
    go_ret
    exact ⟨rfl, hfin.out⟩
end Go.Proofs.YtagnmdhdogaijaaGreat
