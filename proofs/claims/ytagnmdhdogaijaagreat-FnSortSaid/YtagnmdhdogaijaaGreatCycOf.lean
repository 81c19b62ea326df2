/- laws.cyclicOf: the cyclic components by the table of what can be come to. -/
import Derived.Test.YtagnmdhdogaijaaGreatReach
import Derived.Test.YtagnmdhdogaijaaGreatSccImpl
namespace Go.Proofs.YtagnmdhdogaijaaGreat
open Go.RowKit

/-- The nodes ahead of place k that can be come to from node u, and back. -/
def clsTo (R : List (List Bool)) (ids : List Int) (u k : Nat) : List Int := ((List.range k).filter fun v => atB R u v && atB R v u).map fun v => ids.getD v 0
def cls (R : List (List Bool)) (ids : List Int) (u : Nat) : List Int := clsTo R ids u ids.length
def cycTo (R : List (List Bool)) (ids : List Int) (k : Nat) : List (List Int) := ((List.range k).filter fun u => decide (1 < (cls R ids u).length) && decide ((cls R ids u).headD 0 = ids.getD u 0)).map fun u => cls R ids u
/-- The cyclic components as cyclicOf finds them. -/
def cycG (g : Gr) : List (List Int) := cycTo (reachP (asc g.nodes).length (tableP (asc g.nodes) g.dir g.edges).1) (asc g.nodes) (asc g.nodes).length

theorem filter_one {α : Type} (p : Nat → Bool) (f : Nat → α) (k : Nat) : ([k].filter p).map f = if p k then [f k] else [] := by
  cases h : p k
  · rw [List.filter_cons_of_neg (by simp [h])]; rfl
  · rw [List.filter_cons_of_pos h]; rfl

theorem clsTo_succ (R : List (List Bool)) (ids : List Int) (u k : Nat) : clsTo R ids u (k + 1) = clsTo R ids u k ++ if atB R u k && atB R k u then [ids.getD k 0] else [] := by
  unfold clsTo
  rw [List.range_succ, List.filter_append, List.map_append]
  congr 1
  exact filter_one (fun v => atB R u v && atB R v u) (fun v => ids.getD v 0) k
theorem clsTo_le (R : List (List Bool)) (ids : List Int) (u k : Nat) : (clsTo R ids u k).length ≤ k := by
  unfold clsTo
  rw [List.length_map]
  exact Nat.le_trans (List.length_filter_le _ _) (by rw [List.length_range]; exact Nat.le_refl _)
theorem cycTo_succ (R : List (List Bool)) (ids : List Int) (k : Nat) : cycTo R ids (k + 1) = cycTo R ids k ++ if decide (1 < (cls R ids k).length) && decide ((cls R ids k).headD 0 = ids.getD k 0) then [cls R ids k] else [] := by
  unfold cycTo
  rw [List.range_succ, List.filter_append, List.map_append]
  congr 1
  exact filter_one (fun u => decide (1 < (cls R ids u).length) && decide ((cls R ids u).headD 0 = ids.getD u 0)) (fun u => cls R ids u) k
theorem cycTo_le (R : List (List Bool)) (ids : List Int) (k : Nat) : (cycTo R ids k).length ≤ k := by
  unfold cycTo
  rw [List.length_map]
  exact Nat.le_trans (List.length_filter_le _ _) (by rw [List.length_range]; exact Nat.le_refl _)

/-- What cyclicOf gives. -/
def CycPost (l : List (List Int)) (w : World) (e : Ending) (w' : World) : Prop :=
  ∃ (b : Option Addr) (cb D : Nat) (vs : List Value), e = .returned (.slice b l.length cb) ∧ w'.ownsRow D 22 1 (.slice b l.length cb) l.length vs ∧ GRows w' 3 (Value.int .i64) D vs l ∧ w.heap.size ≤ D ∧ D ≤ w'.heap.size ∧ Below w.heap.size w w'

set_option maxRecDepth 100000 in
set_option maxHeartbeats 4000000 in
theorem cyclicOf_any (g : Gr) (an : Option Addr) (cn : Nat) (ae : Option Addr) (ce : Nat) (w : World) (hn : g.nodes.length ≤ 1000) (he : g.edges.length ≤ 1048576) (hg : GrAt w g an cn ae) (hok : okGraph g = true) :
    Calls Tryz.prog 31 #[.agg #[.bool g.dir, .slice an g.nodes.length cn, .slice ae g.edges.length ce]] w (CycPost (cycG g) w) := by
  have htab := Lib.hid (tableOf_any g an cn ae ce (w.alloc (.cells #[.bool g.dir, .slice an g.nodes.length cn, .slice ae g.edges.length ce] 25)) hn he (hg.below (alloc_below w _)) hok)
  have hsq := (graph_table hok).s1
  have hsz0 : (w.alloc (.cells #[.bool g.dir, .slice an g.nodes.length cn, .slice ae g.edges.length ce] 25)).heap.size = w.heap.size + 1 := by simp
  have hidl : (asc g.nodes).length ≤ 1000 := by rw [asc_length]; exact hn
  have hcg : Hid (cycG g = cycTo (reachP (asc g.nodes).length (tableP (asc g.nodes) g.dir g.edges).1) (asc g.nodes) (asc g.nodes).length) := rfl
  clear hg hok
  go_enter Tryz.func31, Tryz.ntmps31
  go_wp2_with fail
  refine (unhide htab).mono ?_
  rintro e w2 ⟨nv, sa, sw, lo, hi, rfl, hlo, hT, hhi, hb2⟩
  obtain ⟨ids, hids⟩ : ∃ ids, ids = asc g.nodes := ⟨_, rfl⟩
  obtain ⟨ta, hta⟩ : ∃ ta, ta = (tableP (asc g.nodes) g.dir g.edges).1 := ⟨_, rfl⟩
  obtain ⟨tw, htw⟩ : ∃ tw, tw = (tableP (asc g.nodes) g.dir g.edges).2 := ⟨_, rfl⟩
  rw [← hta] at hT hsq hcg
  rw [← htw] at hT
  rw [← hids] at hT hsq hcg hidl
  obtain ⟨l, hl⟩ : ∃ l, l = cycG g := ⟨_, rfl⟩
  rw [← hl] at hcg
  have hlh := Lib.hid hl
  obtain ⟨n, hnn⟩ : ∃ n, n = ids.length := ⟨_, rfl⟩
  have hT' := hT
  obtain ⟨a1, c1, B, sb, gs, hs, rfl, hnr, T, _⟩ := hT'
  obtain ⟨aa, ca, rfl, _⟩ := owns_cells T.oa
  obtain ⟨aw, cw, rfl, _⟩ := owns_cells T.ow
  have hcn : Cells w2 a1 (ints ids) := by
    obtain ⟨x, y, e, _, h, _⟩ := owns_cells hnr
    injection e with e _ _
    subst e; exact h
  have hbw2 : Hid (Below w.heap.size w w2) := (alloc_below w _).trans (hb2.mono (by omega))
  rw [← hnn] at hT hsq hcg hidl
  have hre : Hid (∀ o, Calls Tryz.prog 52 #[.agg #[.slice a1 n c1, .slice aa n ca, .slice aw n cw]] (w2.alloc o) (ReachPost n ta (w2.alloc o))) := fun o =>
    reach_any lo hi n ids a1 c1 (.slice aa n ca) (.slice aw n cw) ta tw (w2.alloc o) (by have := hT.below hhi (alloc_below w2 o); rw [hnn] at this ⊢; exact this) (by simp; omega) hsq hidl hnn
  have hcnh := Lib.hid hcn
  have hnnh := Lib.hid hnn
  have hsqh := Lib.hid hsq
  rw [← hnn]
  clear hT hnr T hcn hb2 hlo hhi hids hta htw hl htab hnn hsq hsz0
  go_wp2_with fail
  refine (hre.out _).mono ?_
  rintro e w4 ⟨b, cb, D, vs, rfl, hor, hgr, hD0, hD4, hb4⟩
  obtain ⟨tb, htb⟩ : ∃ tb, tb = w2.heap.size := ⟨_, rfl⟩
  have htc : w4.cell? ⟨tb, 0, none⟩ = some (.slice a1 n c1) := by
    refine cell_below hb4 ?_
    rw [htb]; simp
  have hcn4 : Hid (Cells w4 a1 (ints ids)) := hcnh.out.below ((alloc_below w2 _).trans (hb4.mono (by simp)))
  have hbw4 : Hid (Below w.heap.size w w4) := hbw2.out.trans (((alloc_below w2 _).trans (hb4.mono (by simp))).mono hbw2.out.size)
  obtain ⟨R, hR⟩ : ∃ R, R = reachP n ta := ⟨_, rfl⟩
  have hsR : Hid (Square n R) := by unfold Hid; rw [hR]; exact wars_square (diagTo_square hsqh.out) n
  rw [← hR] at hgr hcg
  have horh := Lib.hid hor
  have hgrh := Lib.hid hgr
  rw [← htb]
  have hcell : Hid (∀ W, Below w4.heap.size w4 W → W.cell? ⟨tb, 0, none⟩ = some (.slice a1 n c1) ∧ Cells W a1 (ints ids) ∧ W.ownsRow D 103 1 (.slice b n cb) n vs ∧ GRows W 4 Value.bool D vs R) := fun W hW =>
    ⟨cell_below hW htc, hcn4.out.below hW, owns_same horh.out fun j hj => hW.block j (horh.out.lt j hj).2, hgrh.out.below hW⟩
  obtain ⟨E, hE⟩ : ∃ E, E = w4.heap.size := ⟨_, rfl⟩
  have hEh := Lib.hid hE
  rw [← hE] at hcell
  clear hor hgr hb4 hR hsqh hre hE htc hcnh htb hD0 hD4
  go_wp2_with fail
  go_loopw [5, 6, 7, 8] (fun s u _ _ wr => ∃ (k : Nat) (b2 : Option Addr) (cb2 : Nat) (vs2 : List Value), k ≤ n ∧ u = .int .i64 k ∧ s = .slice b2 (cycTo R ids k).length cb2 ∧ wr.ownsRow E 22 1 (.slice b2 (cycTo R ids k).length cb2) (cycTo R ids k).length vs2 ∧ GRows wr 3 (Value.int .i64) E vs2 (cycTo R ids k) ∧
    (∀ j ∈ blks vs2, (Value.slice b2 (cycTo R ids k).length cb2).ownBlock ≠ some j) ∧ (blks vs2).Nodup ∧ Below E w4 wr) (fun _ u _ _ _ => n - (intOf u).toNat)
  case atStart => exact ⟨0, none, 0, [], Nat.zero_le _, rfl, rfl, World.ownsRow_nil _ _ _ _, GRows.nil _ _ _ _, by simp [blks], by simp [blks], Below.refl _ _⟩
  case round =>
    obtain ⟨k, b2, cb2, vs2, hk, rfl, rfl, hown, hgr2, hdis, hnd, hb⟩ := hrel
    have hEw : E ≤ wr.heap.size := by have := hb.size; have := hEh.out; omega
    have hcyl := cycTo_le R ids k
    by_cases hlt : k < n
    · obtain ⟨wo, hwo⟩ : ∃ wo, wo = wr := ⟨_, rfl⟩
      subst hwo
      have hct := cycTo_succ R ids k
      obtain ⟨Q, hQ⟩ : ∃ Q, Q = cycTo R ids k := ⟨_, rfl⟩
      rw [← hQ] at hct hown hgr2 hdis hcyl ⊢
      obtain ⟨m, hm⟩ : ∃ m, m = Q.length := ⟨_, rfl⟩
      rw [← hm] at hown hdis hcyl ⊢
      have hcth := Lib.hid hct
      have hmh := Lib.hid hm
      have hownh := Lib.hid hown
      have hgrh2 := Lib.hid hgr2
      have hdish := Lib.hid hdis
      have hndh := Lib.hid hnd
      have hbh := Lib.hid hb
      have hcello : Hid (∀ W, Below wo.heap.size wo W → W.cell? ⟨tb, 0, none⟩ = some (.slice a1 n c1) ∧ Cells W a1 (ints ids) ∧ W.ownsRow D 103 1 (.slice b n cb) n vs ∧ GRows W 4 Value.bool D vs R) := fun W hW =>
        hcell.out W (hbh.out.trans (hW.mono hEw))
      clear hct hQ hm hown hgr2 hdis hnd hb
      go_wp2_with fail
      go_loopw [7, 8] (fun s v wr => ∃ (j : Nat) (b3 : Option Addr) (cb3 : Nat), j ≤ n ∧ v = .int .i64 j ∧ s = .slice b3 (clsTo R ids k j).length cb3 ∧ wr.ownsRow wo.heap.size 3 1 (.slice b3 (clsTo R ids k j).length cb3) (clsTo R ids k j).length (ints (clsTo R ids k j)) ∧ Below wo.heap.size wo wr) (fun _ v _ => n - (intOf v).toNat)
      case atStart => exact ⟨0, none, 0, Nat.zero_le _, rfl, rfl, World.ownsRow_nil _ _ _ _, Below.refl _ _⟩
      case round =>
        obtain ⟨j, b3, cb3, hj, rfl, rfl, hown3, hb3⟩ := hrel
        obtain ⟨t0, hcw, hor, hgrR⟩ := hcello.out wr hb3
        have hcll := clsTo_le R ids k j
        have hbs := hb3.size
        by_cases hlj : j < n
        · obtain ⟨ob, rfl, _⟩ := owns_at hor (by omega)
          obtain ⟨gu, cu, hvu, _, _, hcu⟩ := table_cell hgrR hsR.out hlt
          obtain ⟨gv, cv, hvv, _, _, hcv⟩ := table_cell hgrR hsR.out hlj
          have x1 := owns_cell hor hvu
          have x2 := owns_cell hor hvv
          have x3 := (hcu j hlj).1
          have x4 := (hcv k hlt).1
          have hjl : j < ids.length := by rw [← hnnh.out]; exact hlj
          have hcl := clsTo_succ R ids k j
          have hgd : ids.getD j 0 = ids[j] := by simp [hjl]
          rw [hgd] at hcl
          obtain ⟨nb, no, rfl, _, hr⟩ := hcw.at (by rw [ints_length]; omega)
          have x5 := hr _ _ (ints_get ids j hjl)
          obtain ⟨z, hz⟩ : ∃ z, z = ids[j] := ⟨_, rfl⟩
          rw [← hz] at hcl x5
          obtain ⟨q, hq⟩ : ∃ q, q = atB R k j := ⟨_, rfl⟩
          obtain ⟨p, hp⟩ : ∃ p, p = atB R j k := ⟨_, rfl⟩
          rw [← hq] at x3 hcl
          rw [← hp] at x4 hcl
          obtain ⟨S, hS⟩ : ∃ S, S = clsTo R ids k j := ⟨_, rfl⟩
          rw [← hS] at hcl hown3 hcll ⊢
          obtain ⟨s, hs⟩ : ∃ s, s = S.length := ⟨_, rfl⟩
          rw [← hs] at hown3 hcll ⊢
          have hclh := Lib.hid hcl
          have hsh := Lib.hid hs
          have hso := Lib.hid (fun o => hown3.alloc o)
          have hown3h := Lib.hid hown3
          have hb3h := Lib.hid hb3
          clear hz hq hp hS hs hcl hown3 hb3 hor hgrR hcw hr hcu hcv hvu hvv hgd
          cases q
          · clear x4 x5
            go_wp2_with fail
            go_roundw
            case rel => exact ⟨j + 1, b3, cb3, by omega, by go_num, by rw [hclh.out, hsh.out]; simp, by rw [hclh.out]; simp; rw [← hsh.out]; exact hown3h.out, hb3h.out⟩
            case measure => simp [intOf]; omega
          · cases p
            · clear x5
              go_wp2_with fail
              go_roundw
              case rel => exact ⟨j + 1, b3, cb3, by omega, by go_num, by rw [hclh.out, hsh.out]; simp, by rw [hclh.out]; simp; rw [← hsh.out]; exact hown3h.out, hb3h.out⟩
              case measure => simp [intOf]; omega
            · have hcl2 : Hid (clsTo R ids k (j + 1) = S ++ [z]) := by unfold Hid; rw [hclh.out]; rfl
              clear hclh
              have hfin := Lib.hid (fun o b4 c4 w5 (h5 : w5.ownsRow wo.heap.size 3 1 (.slice b4 (s + 1) c4) (s + 1) (ints S ++ [.int .i64 z])) (hg5 : (wr.alloc o).grownBy w5 (Value.slice b3 s cb3).ownBlock) =>
                show (clsTo R ids k (j + 1)).length = s + 1 ∧ w5.ownsRow wo.heap.size 3 1 (.slice b4 (s + 1) c4) (s + 1) (ints (clsTo R ids k (j + 1))) ∧ Below wo.heap.size wo w5 from
                  ⟨by rw [hcl2.out, List.length_append, ← hsh.out]; rfl, by rw [hcl2.out]; have e : ints (S ++ [z]) = ints S ++ [.int .i64 z] := by simp [ints]
                                                                            rw [e]; exact h5, (hb3h.out.alloc hbs o).grown hg5 (by simp; omega) (fun q e => (hown3h.out.lt q e).1)⟩)
              go_wp2_with (at_builtin; refine append_law 22 3 (.int .i64 0) 1 8 Tryz.underlying22 info_int rfl (by omega) (by omega) rfl _ _ rfl wo.heap.size b3 s cb3 (ints S) rfl (unhide hso _) ⟨wr.heap.size, 0, none⟩ 1 1 [.int .i64 z] rfl rfl (new_one wr _ _) (one_int _) (by omega) (by simp; omega) ?_; intro b4 c4 w5 hown5 hg5 hat5; have hf := Lib.hid (unhide hfin _ _ _ _ hown5 hg5); clear hown5 hg5 hat5)
              go_roundw
              case rel => exact ⟨j + 1, b4, c4, by omega, by go_num, by rw [hf.out.1], by rw [hf.out.1]; exact hf.out.2.1, hf.out.2.2⟩
              case measure => simp [intOf]; omega
        · have hjn : n = j := by omega
          subst hjn
          have hcls : cls R ids k = clsTo R ids k n := by unfold cls; rw [hnnh.out]
          have hct2 := hcth.out
          rw [hcls] at hct2
          obtain ⟨C, hC⟩ : ∃ C, C = clsTo R ids k n := ⟨_, rfl⟩
          rw [← hC] at hct2 hown3 hcll ⊢
          have hkl : k < ids.length := by rw [← hnnh.out]; exact hlt
          have hgd : ids.getD k 0 = ids[k] := by simp [hkl]
          rw [hgd] at hct2
          obtain ⟨nb, no, rfl, _, hr⟩ := hcw.at (by rw [ints_length]; omega)
          have x5 := hr _ _ (ints_get ids k hkl)
          obtain ⟨z, hz⟩ : ∃ z, z = ids[k] := ⟨_, rfl⟩
          rw [← hz] at hct2 x5
          have hstay : Hid (∀ W, Below wo.heap.size wo W → W.ownsRow E 22 1 (.slice b2 m cb2) m vs2 ∧ GRows W 3 (Value.int .i64) E vs2 Q ∧ Below E w4 W) := fun W hW =>
            ⟨owns_same hownh.out fun q hq => hW.block q (hownh.out.lt q hq).2, hgrh2.out.below hW, hbh.out.trans (hW.mono hEw)⟩
          have hb3h := Lib.hid hb3
          by_cases hlen : 1 < C.length
          · obtain ⟨g3, rfl, _⟩ := owns_at hown3 (by omega)
            have y0 : wr.cell? ⟨g3, 0, none⟩ = some (.int .i64 (C[0]'(by omega))) := owns_cell hown3 (ints_get C 0 (by omega))
            have hhd : C.headD 0 = C[0]'(by omega) := by
              cases C with
              | nil => simp at hlen
              | cons _ _ => rfl
            rw [hhd] at hct2
            obtain ⟨y, hy⟩ : ∃ y, y = C[0]'(by omega) := ⟨_, rfl⟩
            rw [← hy] at hct2 y0
            have hd1 : decide (1 < C.length) = true := decide_eq_true hlen
            rw [hd1] at hct2
            obtain ⟨c, hc⟩ : ∃ c, c = C.length := ⟨_, rfl⟩
            rw [← hc] at hown3 hcll hlen ⊢
            have hi1 : (1 : Int) < (c : Int) := by omega
            have hch := Lib.hid hc
            have hown3h := Lib.hid hown3
            clear hc hd1 hhd hy hown3 hC hcls hz hr hcw hor hgrR hb3 hgd
            by_cases hyz : y = z
            · have hdec : decide (y = z) = true := decide_eq_true hyz
              rw [hdec] at hct2
              have hct3 : Hid (cycTo R ids (k + 1) = Q ++ [C]) := hct2
              clear hct2
              go_wp2_with fail
              go_quiet (fail)
              obtain ⟨wm, hwm⟩ : ∃ wm, wm = wr.drewN nq := ⟨_, rfl⟩
              have hbm : Below wo.heap.size wo wm := by rw [hwm]; exact below_draws hb3h.out _
              have hom : wm.ownsRow wo.heap.size 3 1 (.slice (some ⟨g3, 0, none⟩) c cb3) c (C.map (Value.int .i64)) := by rw [hwm]; exact owns_same hown3h.out fun _ _ => rfl
              obtain ⟨o6, hE6, hst⟩ := grow_step (o := .cells #[.slice (some ⟨g3, 0, none⟩) c cb3] 22) hch.out hownh.out hgrh2.out hdish.out hndh.out hbm hom hEw
              have ho6 := Lib.hid (fun o => o6.alloc o)
              rw [← hwm]
              clear hwm hom o6 x5 y0 t0
              go_wp2_with (at_builtin; refine append_law 28 22 (.slice none 0 0) 1 24 Tryz.underlying28 info_irow rfl (by omega) (by omega) rfl _ _ rfl E b2 m cb2 vs2 rfl (ho6.out _) ⟨wm.heap.size, 0, none⟩ 1 1 [.slice (some ⟨g3, 0, none⟩) c cb3] rfl rfl (new_one _ _ _) (one_row _ _ _) (by omega) (by simp; omega) ?_; intro b7 c7 w7 hown7 hg7 hat7; have hq := Lib.hid (hst.out w7 b7 c7 hg7 hown7 hat7); have hown7h := Lib.hid hown7; clear hown7 hg7 hat7 ho6)
              have hlm : (cycTo R ids (k + 1)).length = m + 1 := by rw [hct3.out, List.length_append, ← hmh.out]; rfl
              go_roundw
              case rel =>
                refine ⟨k + 1, b7, c7, _, by omega, by go_num, by rw [hlm], by rw [hlm]; exact hown7h.out, by rw [hct3.out]; exact hq.out.1, by rw [hlm]; exact hq.out.2.1, hq.out.2.2.1, hbh.out.trans hq.out.2.2.2⟩
              case measure => simp [intOf]; omega
            · have hdec : decide (y = z) = false := decide_eq_false hyz
              rw [hdec] at hct2
              have hct3 : Hid (cycTo R ids (k + 1) = Q) := hct2.trans (List.append_nil _)
              have hlm : Hid ((cycTo R ids (k + 1)).length = m) := by unfold Hid; rw [hct3.out, ← hmh.out]
              clear hct2
              go_wp2_with fail
              go_quiet (fail)
              obtain ⟨hs1, hs2, hs3⟩ := hstay.out (wr.drewN nq) (below_draws hb3h.out _)
              have hs1h := Lib.hid hs1
              have hs2h := Lib.hid hs2
              have hs3h := Lib.hid hs3
              clear hs1 hs2 hs3 x5 y0 t0
              go_wp2_with fail
              go_roundw
              case rel => exact ⟨k + 1, b2, cb2, vs2, by omega, by go_num, by rw [hlm.out], by rw [hlm.out]; exact hs1h.out, by rw [hct3.out]; exact hs2h.out, by rw [hlm.out]; exact hdish.out, hndh.out, hs3h.out⟩
              case measure => simp [intOf]; omega
          · have hd1 : decide (1 < C.length) = false := decide_eq_false hlen
            rw [hd1] at hct2
            have hct3 : Hid (cycTo R ids (k + 1) = Q) := hct2.trans (List.append_nil _)
            have hlm : Hid ((cycTo R ids (k + 1)).length = m) := by unfold Hid; rw [hct3.out, ← hmh.out]
            obtain ⟨c, hc⟩ : ∃ c, c = C.length := ⟨_, rfl⟩
            rw [← hc] at hlen ⊢
            have hi1 : ¬ (1 : Int) < (c : Int) := by omega
            have hi2 : decide (1 < c) = false := decide_eq_false hlen
            have hi3 : decide ((1 : Int) < (c : Int)) = false := decide_eq_false hi1
            clear hct2 hd1 hc hown3 hC hcls hz hr hcw hor hgrR hb3 hgd hcll
            go_wp2_with fail
            go_quiet (fail)
            obtain ⟨hs1, hs2, hs3⟩ := hstay.out (wr.drewN nq) (below_draws hb3h.out _)
            have hs1h := Lib.hid hs1
            have hs2h := Lib.hid hs2
            have hs3h := Lib.hid hs3
            clear hs1 hs2 hs3 x5 t0
            go_wp2_with fail
            go_roundw
            case rel => exact ⟨k + 1, b2, cb2, vs2, by omega, by go_num, by rw [hlm.out], by rw [hlm.out]; exact hs1h.out, by rw [hct3.out]; exact hs2h.out, by rw [hlm.out]; exact hdish.out, hndh.out, hs3h.out⟩
            case measure => simp [intOf]; omega
    · have hkn : n = k := by omega
      subst hkn
      have hfin : Hid (CycPost (cycG g) w (.returned (.slice b2 (cycTo R ids n).length cb2)) wr) := by
        rw [← hlh.out, hcg.out]
        exact ⟨b2, cb2, E, vs2, rfl, hown, hgr2, by rw [hEh.out]; exact hbw4.out.size, hEw, hbw4.out.trans (hb.mono (by rw [hEh.out]; exact hbw4.out.size))⟩
      clear hown hgr2 hdis hnd hb
      go_wp2_with fail
      go_ret
      exact hfin.out
end Go.Proofs.YtagnmdhdogaijaaGreat
