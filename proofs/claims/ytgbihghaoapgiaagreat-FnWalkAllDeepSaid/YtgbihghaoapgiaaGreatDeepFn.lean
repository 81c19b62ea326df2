/- laws.FnWalkAllDeep: the walk. -/
import Derived.Test.YtgbihghaoapgiaaGreatDeep0
import Derived.Test.YtgbihghaoapgiaaGreatDeep1
import Derived.Test.YtgbihghaoapgiaaGreatFewOf
namespace Go.Proofs.YtgbihghaoapgiaaGreat
open Go.RowKit

theorem len_flat {L : List (List Int)} {c : List Int} (h : c ∈ L) : c.length ≤ L.flatten.length := by
  induction L with
  | nil => cases h
  | cons a L ih =>
    rw [List.flatten_cons, List.length_append]
    rcases List.mem_cons.1 h with rfl | h
    · omega
    · have := ih h; omega

set_option maxRecDepth 100000 in
set_option maxHeartbeats 8000000 in
theorem deepFn_any (g : Gr) (an : Option Addr) (cn : Nat) (ae : Option Addr) (ce : Nat) (w : World) (hm : g.nodes.length ≤ 9223372036854775807) (hm' : g.edges.length ≤ 9223372036854775807) (hg : GrAt w g an cn ae) (h64 : ∀ x ∈ g.nodes, In64 x) :
    Calls Tryz.prog 5 #[.agg #[.bool g.dir, .slice an g.nodes.length cn, .slice ae g.edges.length ce]] w
      fun e w' => e = .returned (.bool true) ∧ Below w.heap.size w w' := by
  obtain ⟨w1, hw1⟩ : ∃ w1, w1 = w.alloc (.cells #[.bool g.dir, .slice an g.nodes.length cn, .slice ae g.edges.length ce] 25) := ⟨_, rfl⟩
  have hb1 : Below w.heap.size w w1 := by rw [hw1]; exact alloc_below w _
  have hz1 : w1.heap.size = w.heap.size + 1 := by rw [hw1]; simp
  have k0 : w1.cell? ⟨w.heap.size, 0, none⟩ = some (.bool g.dir) := by rw [hw1]; simp
  have k1 : w1.cell? ⟨w.heap.size, 1, none⟩ = some (.slice an g.nodes.length cn) := by rw [hw1]; simp
  have k2 : w1.cell? ⟨w.heap.size, 2, none⟩ = some (.slice ae g.edges.length ce) := by rw [hw1]; simp
  have hK : Hid (∀ wr, Below w1.heap.size w1 wr → (Below w.heap.size w wr ∧ GrAt wr g an cn ae) ∧ wr.cell? ⟨w.heap.size, 0, none⟩ = some (.bool g.dir) ∧ wr.cell? ⟨w.heap.size, 1, none⟩ = some (.slice an g.nodes.length cn) ∧ wr.cell? ⟨w.heap.size, 2, none⟩ = some (.slice ae g.edges.length ce)) :=
    fun wr h => ⟨⟨hb1.trans (h.mono (by omega)), (hg.below hb1).below h⟩, cell_below h k0, cell_below h k1, cell_below h k2⟩
  have hfits := Lib.hid (fits_any g an cn ae ce w1 hm hm')
  rw [hw1] at hfits
  have hw1h := Lib.hid hw1
  have h64h := Lib.hid h64
  clear hg hb1 hw1 k0 k1 k2 h64
  go_enter Tryz.func5, Tryz.ntmps5
  go_wp2_with fail
  refine (unhide hfits).mono ?_
  rintro e w2 ⟨rfl, hb2⟩
  rw [← hw1h.out] at hb2
  obtain ⟨⟨hbw2, hg2⟩, c0, c1, c2⟩ := hK.out w2 hb2
  have hb2h := Lib.hid hb2
  have hbw2h := Lib.hid hbw2
  rcases hf : fitsB g with _ | _
  · clear hb2 hbw2
    go_wp2_with fail
    go_ret
    exact ⟨rfl, hbw2h.out⟩
  have hfew := Lib.hid (fewOf_any g an cn ae ce false w2 14 (by omega) hg2)
  obtain ⟨fw, hfw⟩ : ∃ fw, fw = (g.dir == false && fewB g 14) := ⟨_, rfl⟩
  rw [← hfw] at hfew
  have hfwh := Lib.hid hfw
  clear hb2 hbw2 hg2 hfits hfw hf
  go_wp2_with fail
  refine (unhide hfew).mono ?_
  rintro e w3 ⟨rfl, hb3⟩
  have hb3' := hb2h.out.trans (hb3.mono hb2h.out.size)
  obtain ⟨⟨hbw3, hg3⟩, d0, d1, d2⟩ := hK.out w3 hb3'
  have hbw3h := Lib.hid hbw3
  have hb3h := Lib.hid hb3'
  have hg3h := Lib.hid hg3
  clear hb3 hb3' hbw3 hg3 hfew c0 c1 c2
  cases fw
  · go_wp2_with fail
    go_ret
    exact ⟨rfl, hbw3h.out⟩
  have hfw' := hfwh.out.symm
  rw [Bool.and_eq_true] at hfw'
  have hdir0 : g.dir = false := by have := hfw'.1; simpa using this
  have hfw2 := hfw'.2
  unfold fewB at hfw2
  rw [Bool.and_eq_true, Bool.and_eq_true] at hfw2
  have hn14 : g.nodes.length ≤ 14 := of_decide_eq_true hfw2.1.1
  have he112 : g.edges.length ≤ 8 * 14 := of_decide_eq_true hfw2.1.2
  have hok := Lib.hid hfw2.2
  have hwa := Lib.hid (walkAllDeep_any g an cn ae ce w3 (by omega) (by omega) hg3h.out hok.out hdir0 h64h.out)
  clear hfwh hfw' hfw2 hdir0 hm hm'
  go_wp2_with fail
  refine (unhide hwa).mono ?_
  rintro e w4 ⟨la, lc, vs, L, rfl, hrow, hrows, hall, hb4⟩
  have hb4' : Hid (Below w1.heap.size w1 w4) := hb3h.out.trans (hb4.mono hb3h.out.size)
  have hflat : L.flatten.length ≤ 14 := by
    have h2 := nodup_len hall.nd (fun x hx => hall.sub x hx)
    rw [asc_length] at h2
    omega
  have hLl : L.length ≤ 14 := Nat.le_trans (flatten_len (fun l hl => (hall.walk l hl).ne)) hflat
  have hR : Hid (∀ k (hk : k < L.length), ∃ (ga : Nat) (ag : Option Addr) (cg : Nat), la = some ⟨ga, 0, none⟩ ∧ L[k].length ≤ cg ∧ ∀ W, Below w4.heap.size w4 W → W.cell? ⟨ga, k, none⟩ = some (.slice ag L[k].length cg) ∧ Cells W ag (ints L[k])) := fun k hk => by
    obtain ⟨ga, rfl, _⟩ := owns_at hrow (by omega)
    have hv : vs[k]? = some (vs[k]'(by rw [hrows.1]; exact hk)) := List.getElem?_eq_getElem _
    have h1 := hrows.2 k _ _ hv (List.getElem?_eq_getElem hk)
    obtain ⟨ag, cg, e, _, hcs, _⟩ := owns_cells h1
    have hcap : L[k].length ≤ cg := by
      have hne := (hall.walk _ (List.getElem_mem hk)).ne
      have hpos : 0 < L[k].length := List.length_pos_iff.2 hne
      rw [e] at h1
      obtain ⟨_, _, _, _, h5⟩ := owns_at h1 hpos
      exact h5
    rw [e] at hv
    exact ⟨ga, ag, cg, rfl, hcap, fun W hW => ⟨cell_below hW (owns_cell hrow hv), hcs.below hW⟩⟩
  have hV : Hid (∀ k (hk : k < L.length), DeepL (gSucc g) L[k] ∧ L[k].Nodup ∧ (∀ x ∈ L[k], x ∈ g.nodes) ∧ 1 ≤ L[k].length ∧ L[k].length ≤ 14) := fun k hk => by
    have hw := hall.walk _ (List.getElem_mem hk)
    have hpos : 0 < L[k].length := List.length_pos_iff.2 hw.ne
    have hml := len_flat (List.getElem_mem hk)
    exact ⟨hw.deep, hw.nd, fun x hx => asc_mem.1 (hall.sub x (List.mem_flatten.2 ⟨_, List.getElem_mem hk, hx⟩)), hpos, by omega⟩
  have hbW : Hid (∀ W, Below w4.heap.size w4 W → Below w1.heap.size w1 W ∧ Below w.heap.size w W) := fun W hW => by
    have h := hb4'.out.trans (hW.mono hb4'.out.size)
    exact ⟨h, (hK.out W h).1.1⟩
  clear hrow hrows hall hb4 hflat d0 d1 d2 hwa
  go_wp2_with fail
  go_loopw [5, 6, 7] (fun kv _ _ wr => ∃ k : Nat, k ≤ L.length ∧ kv = .int .i64 k ∧ Below w4.heap.size w4 wr) (fun kv _ _ _ => L.length - (intOf kv).toNat)
  case atStart => exact ⟨0, Nat.zero_le _, rfl, Below.refl _ _⟩
  case round =>
    obtain ⟨k, hk, rfl, hb⟩ := hrel
    by_cases hlt : k < L.length
    · obtain ⟨ga, ag, cg, rfl, hcap, hcs⟩ := hR.out k hlt
      obtain ⟨v1, v2, v3, v4, v5⟩ := hV.out k hlt
      obtain ⟨V, hVe⟩ : ∃ V, V = L[k] := ⟨_, rfl⟩
      rw [← hVe] at hcap hcs v1 v2 v3 v4 v5
      have hcsh := Lib.hid hcs
      have hv1 := Lib.hid v1
      have hv2 := Lib.hid v2
      have hv3 := Lib.hid v3
      have hbh := Lib.hid hb
      clear hVe hcs v1 v2 v3 hb
      go_wp2_with fail
      go_loopw [6, 7] (fun iv _ wr => ∃ i : Nat, 1 ≤ i ∧ i ≤ V.length ∧ iv = .int .i64 i ∧ Below w4.heap.size w4 wr) (fun iv _ _ => V.length - (intOf iv).toNat)
      case atStart => exact ⟨1, by omega, v4, rfl, hbh.out⟩
      case round =>
        obtain ⟨i, hi1, hi, rfl, hb⟩ := hrel
        obtain ⟨f1, _⟩ := hcsh.out wr hb
        by_cases hli : i < V.length
        · have hbi := Lib.hid hb
          clear hb
          go_wp2_with fail
          clear f1
          go_loopw [7] (fun jv wr => ∃ t : Nat, t ≤ i ∧ jv = .int .i64 ((t : Int) - 1) ∧ Below w4.heap.size w4 wr ∧ ∀ s (hs : s < i), t ≤ s → openB g (V[s]'(by omega)) (V.take i) = false) (fun jv _ => (intOf jv + 1).toNat)
          case atStart => exact ⟨i, Nat.le_refl _, rfl, hbi.out, fun s hs ht => absurd hs (by omega)⟩
          case round =>
            obtain ⟨t, ht, rfl, hb, hno⟩ := hrel
            obtain ⟨hnt, ht0, harc⟩ := deep_last hok.out hv1.out hv2.out hv3.out hli (by omega) hno
            obtain ⟨r, rfl⟩ : ∃ r, t = r + 1 := ⟨t - 1, by omega⟩
            have hr1 : r < i := by omega
            have hrV : r < V.length := by omega
            have hjr : ((r + 1 : Nat) : Int) - 1 = (r : Int) := by omega
            rw [hjr]
            obtain ⟨x, hx⟩ : ∃ x, x = V[r] := ⟨_, rfl⟩
            obtain ⟨y, hy⟩ : ∃ y, y = V[i] := ⟨_, rfl⟩
            have harc' : Hid (openB g x (V.take i) = true → arcB g x y = true) := by rw [hx, hy]; exact harc hr1
            have hnt' : Hid (decide (y ∈ V.take i) = false) := by rw [hy]; exact decide_eq_false hnt
            obtain ⟨o, ho⟩ : ∃ o, o = openB g x (V.take i) := ⟨_, rfl⟩
            have hnx : Hid (o = false → ∀ s (hs : s < i), r ≤ s → openB g (V[s]'(by omega)) (V.take i) = false) := fun h s hs hrs => by
              by_cases e : s = r
              · subst e; rw [← hx, ← ho]; exact h
              · exact hno s hs (by omega)
            obtain ⟨f1, f2⟩ := hcsh.out wr hb
            obtain ⟨b, off, rfl, _, hrr⟩ := f2.at (by rw [ints_length]; omega)
            have x0 := hrr _ _ (ints_get V r hrV)
            have y0 := hrr _ _ (ints_get V i hli)
            rw [← hx] at x0
            rw [← hy] at y0
            have hbk := (hbW.out wr hb).1
            obtain ⟨⟨_, hgr⟩, d0, d1, d2⟩ := hK.out wr hbk
            have hC : Hid (∀ W, Below wr.heap.size wr W → W.cell? ⟨w.heap.size, 0, none⟩ = some (.bool g.dir) ∧ W.cell? ⟨w.heap.size, 1, none⟩ = some (.slice an g.nodes.length cn) ∧ W.cell? ⟨w.heap.size, 2, none⟩ = some (.slice ae g.edges.length ce) ∧ W.cell? ⟨ga, k, none⟩ = some (.slice (some ⟨b, off, none⟩) V.length cg) ∧ W.cell? ⟨b, off + r, none⟩ = some (.int .i64 x) ∧ W.cell? ⟨b, off + i, none⟩ = some (.int .i64 y)) := fun W hW =>
              ⟨cell_below hW d0, cell_below hW d1, cell_below hW d2, cell_below hW f1, cell_below hW x0, cell_below hW y0⟩
            have htl : (V.take i).length = i := by rw [List.length_take]; omega
            have hop : Hid (∀ W cl, Below wr.heap.size wr W → Calls Tryz.prog 24 #[.agg #[.bool g.dir, .slice an g.nodes.length cn, .slice ae g.edges.length ce], .int .i64 x, .slice (some ⟨b, off, none⟩) i cl] W fun e w' => e = .returned (.bool o) ∧ Below wr.heap.size wr w') := fun W cl hW =>
              (lopen_any g an cn ae ce x (some ⟨b, off, none⟩) i cl (V.take i) W (by omega) (by omega) (hgr.below hW) htl.symm (by omega) (cells_take (f2.below hW) i)).mono fun e w' ⟨h1, h2⟩ => ⟨by rw [ho]; exact h1, hW.trans (h2.mono hW.size)⟩
            have har : Hid (∀ W, Below wr.heap.size wr W → Calls Tryz.prog 25 #[.agg #[.bool g.dir, .slice an g.nodes.length cn, .slice ae g.edges.length ce], .int .i64 x, .int .i64 y] W fun e w' => e = .returned (.bool (arcB g x y)) ∧ Below wr.heap.size wr w') := fun W hW =>
              (arc_any g an cn ae ce x y W (by omega) (hgr.below hW)).mono fun e w' ⟨h1, h2⟩ => ⟨h1, hW.trans (h2.mono hW.size)⟩
            have hha : Hid (∀ W cl, Below wr.heap.size wr W → Calls Tryz.prog 11 #[.slice (some ⟨b, off, none⟩) i cl, .int .i64 y] W fun e w' => e = .returned (.bool (decide (y ∈ V.take i))) ∧ W = w') := fun W cl hW =>
              has_any (some ⟨b, off, none⟩) i cl (V.take i) y W htl.symm (by omega) (cells_take (f2.below hW) i)
            have hi64 : (i : Int) ≤ (cg : Int) := by omega
            have hr0 : (0 : Int) ≤ (r : Int) := by omega
            have hr0' : ¬ (r : Int) < 0 := by omega
            have hrv : (r : Int) < (V.length : Int) := by omega
            have hiv : (i : Int) < (V.length : Int) := by omega
            have hbh2 : Hid (∀ W, Below wr.heap.size wr W → Below w4.heap.size w4 W) := fun W hW => hb.trans (hW.mono hb.size)
            have hoh : Hid (o = true → openB g x (V.take i) = true) := fun h => by rw [← ho]; exact h
            clear hno hnt ht0 harc hx hy ho hrr hbk hgr htl f2 hb
            go_wp2_with fail
            cases o
            · go_region_held3 (fun w' => w'.cell? ⟨w.heap.size, 0, none⟩ = some (.bool g.dir) ∧ w'.cell? ⟨w.heap.size, 1, none⟩ = some (.slice an g.nodes.length cn) ∧ w'.cell? ⟨w.heap.size, 2, none⟩ = some (.slice ae g.edges.length ce) ∧ w'.cell? ⟨ga, k, none⟩ = some (.slice (some ⟨b, off, none⟩) V.length cg) ∧ w'.cell? ⟨b, off + r, none⟩ = some (.int .i64 x)) (go_keep) (first
                | (go_at_call 24; ((with_reducible refine (hop.out _ _ (by repeat (first | exact Below.refl _ _ | refine Below.drew ?_))).mono ?_)); rintro e w6 ⟨rfl, hb6⟩; obtain ⟨s0, s1, s2, s3, s4, s5⟩ := hC.out w6 hb6))
              all_goals
                go_wp2_with fail
                go_roundw
                case rel => exact ⟨r, by omega, by go_num, hbh2.out _ hb6, hnx.out (by trivial)⟩
                case measure => simp [intOf]
            · have hat := harc'.out (hoh.out rfl)
              rw [hat] at har
              rw [hnt'.out] at hha
              clear hat
              go_region_held3 (fun w' => w'.cell? ⟨w.heap.size, 0, none⟩ = some (.bool g.dir) ∧ w'.cell? ⟨w.heap.size, 1, none⟩ = some (.slice an g.nodes.length cn) ∧ w'.cell? ⟨w.heap.size, 2, none⟩ = some (.slice ae g.edges.length ce) ∧ w'.cell? ⟨ga, k, none⟩ = some (.slice (some ⟨b, off, none⟩) V.length cg) ∧ w'.cell? ⟨b, off + r, none⟩ = some (.int .i64 x)) (go_keep) (first
                | (go_at_call 24; ((with_reducible refine (hop.out _ _ (by repeat (first | exact Below.refl _ _ | refine Below.drew ?_))).mono ?_)); rintro e w6 ⟨rfl, hb6⟩; obtain ⟨s0, s1, s2, s3, s4, s5⟩ := hC.out w6 hb6))
              all_goals
                clear d0 d1 d2 f1 x0 y0
                go_wp2_with fail
                go_region_held3 (fun w' => w'.cell? ⟨w.heap.size, 0, none⟩ = some (.bool g.dir) ∧ w'.cell? ⟨w.heap.size, 1, none⟩ = some (.slice an g.nodes.length cn) ∧ w'.cell? ⟨w.heap.size, 2, none⟩ = some (.slice ae g.edges.length ce) ∧ w'.cell? ⟨ga, k, none⟩ = some (.slice (some ⟨b, off, none⟩) V.length cg) ∧ w'.cell? ⟨b, off + r, none⟩ = some (.int .i64 x) ∧ w'.cell? ⟨b, off + i, none⟩ = some (.int .i64 y)) (go_keep) (first
                  | (go_at_call 25; ((with_reducible refine (har.out _ (by repeat (first | exact hb6 | refine Below.drew ?_))).mono ?_)); rintro e w7 ⟨rfl, hb7⟩; obtain ⟨u0, u1, u2, u3, u4, u5⟩ := hC.out w7 hb7)
                  | (go_at_call 11; ((with_reducible refine (hha.out _ _ hb7).mono ?_)); rintro e w8 ⟨rfl, rfl⟩))
                all_goals
                  go_wp2_with fail
                  go_roundw
                  case rel => exact ⟨i + 1, by omega, by omega, by go_num, hbh2.out _ hb7⟩
                  case measure => simp [intOf]; omega
        · have hin : i = V.length := by omega
          subst hin
          have hbi := Lib.hid hb
          clear hb
          go_wp2_with fail
          go_roundw
          case rel => exact ⟨k + 1, by omega, by go_num, hbi.out⟩
          case measure => simp [intOf]; omega
    · have hkn : k = L.length := by omega
      subst hkn
      have hwd := Lib.hid (wanders_any wr)
      have hbw := Lib.hid (hbW.out wr hb).2
      clear hb
      go_wp2_with fail
      refine (unhide hwd).mono ?_
      rintro e w9 ⟨rfl, hb9⟩
      have hfin : Hid (Below w.heap.size w w9) := hbw.out.trans (hb9.mono hbw.out.size)
      clear hwd hb9
      go_wp2_with fail
      go_ret
      exact ⟨rfl, hfin.out⟩
end Go.Proofs.YtgbihghaoapgiaaGreat
