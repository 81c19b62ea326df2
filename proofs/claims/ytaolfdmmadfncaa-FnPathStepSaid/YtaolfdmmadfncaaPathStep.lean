/- laws.FnPathStep. -/
import Derived.Test.YtaolfdmmadfncaaStepLaw
import Derived.Test.YtaolfdmmadfncaaLaws1
import Derived.Test.YtaolfdmmadfncaaLaws2
namespace Go.Proofs.Ytaolfdmmadfncaa
open Go.RowKit

set_option maxRecDepth 100000 in
set_option maxHeartbeats 2000000 in
theorem pathStep_any (g : Gr) (an : Option Addr) (cn : Nat) (ae : Option Addr) (ce : Nat) (u v : Int) (w : World) (hm : g.nodes.length ≤ 9223372036854775807) (hm' : g.edges.length ≤ 9223372036854775807) (hg : GrAt w g an cn ae) (h64 : ∀ x ∈ g.nodes, In64 x) :
    Calls Try.prog 4 #[.agg #[.bool g.dir, .slice an g.nodes.length cn, .slice ae g.edges.length ce], .int .i64 u, .int .i64 v] w
      fun e w' => e = .returned (.bool true) ∧ Below w.heap.size w w' := by
  obtain ⟨w1, hw1⟩ : ∃ w1, w1 = w.alloc (.cells #[.bool g.dir, .slice an g.nodes.length cn, .slice ae g.edges.length ce] 25) := ⟨_, rfl⟩
  have hb1 : Below w.heap.size w w1 := by rw [hw1]; exact alloc_below w _
  have hz1 : w1.heap.size = w.heap.size + 1 := by rw [hw1]; simp
  have k0 : w1.cell? ⟨w.heap.size, 0, none⟩ = some (.bool g.dir) := by rw [hw1]; simp
  have k1 : w1.cell? ⟨w.heap.size, 1, none⟩ = some (.slice an g.nodes.length cn) := by rw [hw1]; simp
  have k2 : w1.cell? ⟨w.heap.size, 2, none⟩ = some (.slice ae g.edges.length ce) := by rw [hw1]; simp
  have hK : Hid (∀ wr, Below w1.heap.size w1 wr → Below w.heap.size w wr ∧ GrAt wr g an cn ae ∧ wr.cell? ⟨w.heap.size, 0, none⟩ = some (.bool g.dir) ∧ wr.cell? ⟨w.heap.size, 1, none⟩ = some (.slice an g.nodes.length cn) ∧ wr.cell? ⟨w.heap.size, 2, none⟩ = some (.slice ae g.edges.length ce)) :=
    fun wr h => ⟨hb1.trans (h.mono (by omega)), (hg.below hb1).below h, cell_below h k0, cell_below h k1, cell_below h k2⟩
  have hg1 := hg.below hb1
  have hfits := Lib.hid (fits_any g an cn ae ce w1 hm hm')
  rw [hw1] at hfits
  have hw1h := Lib.hid hw1
  clear hg hb1 hw1 k0 k1 k2 hg1
  go_enter Try.func4, Try.ntmps4
  go_wp2_with fail
  refine (unhide hfits).mono ?_
  rintro e w2 ⟨rfl, hb2⟩
  rw [← hw1h.out] at hb2
  obtain ⟨hb2', hg2, c0, c1, c2⟩ := hK.out w2 hb2
  have hb2h := Lib.hid hb2
  have hb2h' := Lib.hid hb2'
  rcases hf : fitsB g with _ | _
  · clear hb2 hb2'
    go_wp2_with fail
    go_ret
    exact ⟨rfl, hb2h'.out⟩
  · have hfew := Lib.hid (few_any g an cn ae ce w2 25 (by omega) hg2)
    clear hb2 hb2' hg2 hfits
    go_wp2_with fail
    refine (unhide hfew).mono ?_
    rintro e w3 ⟨rfl, hb3⟩
    have hb3' := hb2h.out.trans (hb3.mono hb2h.out.size)
    obtain ⟨hbw, hg3, d0, d1, d2⟩ := hK.out w3 hb3'
    have hbwh := Lib.hid hbw
    have hb3h := Lib.hid hb3'
    have hg3h := Lib.hid hg3
    have hcn := hg3.nodes
    clear hb3 hb3' hbw hg3 hfew c0 c1 c2
    rcases hfw : fewB g 25 with _ | _
    · clear hcn
      go_wp2_with fail
      go_ret
      exact ⟨rfl, hbwh.out⟩
    · have hfw' := hfw
      unfold fewB at hfw'
      rw [Bool.and_eq_true, Bool.and_eq_true] at hfw'
      have hn25 : g.nodes.length ≤ 25 := of_decide_eq_true hfw'.1.1
      have he200 : g.edges.length ≤ 8 * 25 := of_decide_eq_true hfw'.1.2
      have hok := Lib.hid hfw'.2
      clear hfw hfw' hf
      by_cases t1 : u ∈ g.nodes
      · have t1' : decide (u ∈ g.nodes) = true := decide_eq_true t1
        by_cases t2 : v ∈ g.nodes
        · have t2' : decide (v ∈ g.nodes) = true := decide_eq_true t2
          by_cases t3 : u = v
          · subst t3
            go_wp2_with (go_at_call 11; refine (has_any _ _ _ _ _ _ rfl (by omega) hcn).mono ?_; rintro e w' ⟨rfl, rfl⟩)
            go_ret
            exact ⟨rfl, hbwh.out⟩
          · have t3' : (u == v) = false := by rw [beq_eq_false_iff_ne]; exact t3
            have hpath := Lib.hid (pathIn_any g an cn ae ce u v w3 (by omega) (by omega) hg3h.out hok.out t1 h64)
            have hlaw := Lib.hid (step_law hok.out t1 t3)
            have h64h := Lib.hid h64
            have t1h := Lib.hid t1
            have t2h := Lib.hid t2
            clear t1 t2 h64
            go_wp2_with (go_at_call 11; refine (has_any _ _ _ _ _ _ rfl (by omega) hcn).mono ?_; rintro e w' ⟨rfl, rfl⟩)
            refine (unhide hpath).mono ?_
            rintro e w4 ⟨rfl, hb4⟩
            have hb4' : Hid (Below w1.heap.size w1 w4) := hb3h.out.trans (hb4.mono hb3h.out.size)
            clear hb4 hpath hcn d0 d1 d2 t3 t3'
            obtain ⟨r, hr⟩ : ∃ r, r = pathB (gSucc g) u v := ⟨_, rfl⟩
            rw [← hr]
            have hrh := Lib.hid hr
            clear hr
            obtain ⟨_, _, d0, d1, d2⟩ := hK.out w4 hb4'.out
            go_wp2_with fail
            go_loopw [9, 10] (fun b i wr => ∃ (k : Nat), k ≤ g.nodes.length ∧ i = .int .i64 k ∧ b = .bool (wantB g u v k) ∧ Below w1.heap.size w1 wr) (fun _ i _ => g.nodes.length - (intOf i).toNat)
            case atStart => exact ⟨0, Nat.zero_le _, rfl, by rw [wantB_zero], hb4'.out⟩
            case round =>
              clear d0 d1 d2
              obtain ⟨k, hk, rfl, rfl, hb⟩ := hrel
              obtain ⟨hbw2, hg5, d0, d1, d2⟩ := hK.out wr hb
              have hbh := Lib.hid hb
              have hg5h := Lib.hid hg5
              have hbw2h := Lib.hid hbw2
              clear hb hg5 hbw2
              obtain ⟨q, hq⟩ : ∃ q, q = wantB g u v k := ⟨_, rfl⟩
              rw [← hq]
              have hqh := Lib.hid hq
              clear hq
              by_cases hlt : k < g.nodes.length
              · obtain ⟨b, off, rfl, hbl, hrg⟩ := hg5h.out.nodes.at (by rw [ints_length]; omega)
                have hnode := hrg _ _ (ints_get g.nodes k hlt)
                obtain ⟨x, hx⟩ : ∃ x, x = g.nodes[k] := ⟨_, rfl⟩
                rw [← hx] at hnode
                have hxm : Hid (x ∈ g.nodes) := by unfold Hid; rw [hx]; exact List.getElem_mem hlt
                have hst : Hid (wantB g u v (k + 1) = (q || (arcB g u x && pathB (gSucc g) x v))) := by unfold Hid; rw [wantB_succ g u v k hlt, hqh.out, hx]
                have harc := Lib.hid (arc_any g (some ⟨b, off, none⟩) cn ae ce u x (wr.drew) (by omega) (hg5h.out.below (drew_below wr)))
                have hxh := Lib.hid hx
                clear hx hrg
                go_wp2_with fail
                go_cut [61] from 47 to 77 (fun s61 wx => s61 = .bool (arcB g u x) ∧ Below w1.heap.size w1 wx)
                case first =>
                  go_region_law (go_simp; go_at_call 13; refine (unhide harc).mono ?_; rintro e w5 ⟨rfl, hb5⟩)
                  all_goals go_wp2_with fail
                  all_goals go_meet
                  all_goals exact ⟨rfl, hbh.out.drew.trans (hb5.mono hbh.out.size)⟩
                case rest =>
                obtain ⟨rfl, hbc⟩ := hcut
                obtain ⟨hbw3, hg6, e0, e1, e2⟩ := hK.out wc hbc
                have hbch := Lib.hid hbc
                have hpn := Lib.hid (pathIn_any g (some ⟨b, off, none⟩) cn ae ce x v wc.drew (by omega) (by omega) (hg6.below (drew_below wc)) hok.out hxm.out h64h.out)
                obtain ⟨b9, off9, hbb, hbl9, hrg9⟩ := hg6.nodes.at (by rw [ints_length]; omega)
                injection hbb with hbb
                injection hbb with hbb1 hbb2 _
                subst hbb1; subst hbb2
                have hnode9 := hrg9 _ _ (ints_get g.nodes k hlt)
                rw [← hxh.out] at hnode9
                clear hbc hbw3 hg6 hrg9 harc hnode d0 d1 d2
                rcases ha : arcB g u x with _ | _
                · have hst' : Hid (q = wantB g u v (k + 1)) := by unfold Hid; rw [hst.out, ha]; simp
                  clear ha hpn hnode9
                  go_wp2_with fail
                  go_roundw
                  case rel => exact ⟨k + 1, by omega, by go_num, congrArg Value.bool hst'.out, hbch.out⟩
                  case measure => simp [intOf]; omega
                · have hst' : Hid ((q || pathB (gSucc g) x v) = wantB g u v (k + 1)) := by unfold Hid; rw [hst.out, ha]; simp
                  clear ha
                  go_wp2_with fail
                  go_cut [11, 12] from 47 to 77 (fun s11 s12 wx => s11 = .bool (pathB (gSucc g) x v) ∧ s12 = .bool false ∧ Below w1.heap.size w1 wx)
                  case first =>
                    go_region_law (go_simp; go_at_call 12; refine (unhide hpn).mono ?_; rintro e w5 ⟨rfl, hb5⟩)
                    all_goals go_wp2_with fail
                    all_goals go_meet
                    all_goals exact ⟨rfl, rfl, hbch.out.drew.trans (hb5.mono hbch.out.size)⟩
                  case rest =>
                  obtain ⟨rfl, rfl, hbd⟩ := hcut
                  have hbdh := Lib.hid hbd
                  obtain ⟨y, hy⟩ : ∃ y, y = pathB (gSucc g) x v := ⟨_, rfl⟩
                  have hst2 : Hid ((q || y) = wantB g u v (k + 1)) := by unfold Hid; rw [hy]; exact hst'.out
                  rw [← hy]
                  clear hbd hst' hy hpn hnode9 e0 e1 e2
                  cases q
                  · have hst3 : Hid (y = wantB g u v (k + 1)) := by unfold Hid; rw [← hst2.out]; rfl
                    clear hst2
                    go_wp2_with fail
                    go_roundw
                    case rel => exact ⟨k + 1, by omega, by go_num, congrArg Value.bool hst3.out, hbdh.out⟩
                    case measure => simp [intOf]; omega
                  · have hst3 : Hid (true = wantB g u v (k + 1)) := by unfold Hid; rw [← hst2.out]; rfl
                    clear hst2
                    go_wp2_with fail
                    go_roundw
                    case rel => exact ⟨k + 1, by omega, by go_num, congrArg Value.bool hst3.out, hbdh.out⟩
                    case measure => simp [intOf]; omega
              · have hkn : k = g.nodes.length := by omega
                have hself := Lib.hid (pathIn_any g an cn ae ce v v wr (by omega) (by omega) hg5h.out hok.out t2h.out h64h.out)
                have hrq : Hid (r = q) := by unfold Hid; rw [hrh.out, hqh.out, hkn]; exact hlaw.out
                have hrq2 : Hid ((r == q) = true) := by unfold Hid; rw [hrq.out]; simp
                clear hkn
                go_wp2_with fail
                refine (unhide hself).mono ?_
                rintro e w6 ⟨rfl, hb6⟩
                rw [path_self]
                have hb6' : Hid (Below w.heap.size w w6) := hbw2h.out.trans (hb6.mono hbw2h.out.size)
                have hrq3 := hrq2.out
                clear hb6 hself
                go_wp2_with fail
                go_ret
                exact ⟨rfl, hb6'.out⟩
        · have t2' : decide (v ∈ g.nodes) = false := decide_eq_false t2
          go_wp2_with (go_at_call 11; refine (has_any _ _ _ _ _ _ rfl (by omega) hcn).mono ?_; rintro e w' ⟨rfl, rfl⟩)
          go_ret
          exact ⟨rfl, hbwh.out⟩
      · have t1' : decide (u ∈ g.nodes) = false := decide_eq_false t1
        go_wp2_with (go_at_call 11; refine (has_any _ _ _ _ _ _ rfl (by omega) hcn).mono ?_; rintro e w' ⟨rfl, rfl⟩)
        go_ret
        exact ⟨rfl, hbwh.out⟩
end Go.Proofs.Ytaolfdmmadfncaa
