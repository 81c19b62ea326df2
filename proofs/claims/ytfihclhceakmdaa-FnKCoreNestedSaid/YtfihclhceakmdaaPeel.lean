/- laws.peeled: what is left is a set in which each node has k edges at least to others of it. -/
import Derived.Test.YtfihclhceakmdaaPeelLaw
import Derived.Test.YtfihclhceakmdaaTableOf
import Derived.Test.YtfihclhceakmdaaGRow0
import Derived.StillTailTactics
import Derived.Deep.LoopGhost
namespace Go.Proofs.Ytfihclhceakmdaa
open Go.RowKit

theorem made_row (W : World) (z : Value) (t : TypeId) (n : Nat) (hn : n ≤ 1048576) :
    (W.alloc (.cells (madeCells #[z] n) t)).ownsRow W.heap.size t 1 (.slice (some ⟨W.heap.size, 0, none⟩) n n) n (List.replicate n z) := by
  refine ⟨by simp, .inr ⟨W.heap.size, n, madeCells #[z] n, rfl, Nat.le_refl _, heap_alloc_new _ _, Nat.le_refl _, by unfold maxLen; omega, by rw [size_madeCells, Nat.mul_one], ?_⟩⟩
  rw [made_repl]
  simp

/-- What peeled gives. -/
def PeelPost (w : World) (g : Gr) (k : Nat) (e : Ending) (w' : World) : Prop :=
  ∃ (S : List Int) (a : Option Addr) (c : Nat), e = .returned (.slice a S.length c) ∧ S.Nodup ∧ (∀ x ∈ S, x ∈ g.nodes ∧ k ≤ dgIn g S x) ∧ Below w.heap.size w w'

theorem getD_at' {l : List Bool} {i : Nat} (h : i < l.length) : (l.map Value.bool)[i]? = some (.bool (l.getD i false)) := by simp [h]

set_option maxRecDepth 100000 in
set_option maxHeartbeats 8000000 in
theorem peeled_any (K : Nat) (g : Gr) (an : Option Addr) (cn : Nat) (ae : Option Addr) (ce : Nat) (w : World) (hn : g.nodes.length ≤ 1000) (he : g.edges.length ≤ 1048576) (hg : GrAt w g an cn ae) (hok : okGraph g = true) :
    Calls Try.prog 6 #[.int .i64 (K : Nat), .agg #[.bool g.dir, .slice an g.nodes.length cn, .slice ae g.edges.length ce]] w (PeelPost w g K) := by
  have htab := Lib.hid (tableOf_any g an cn ae ce (w.alloc (.cells #[.bool g.dir, .slice an g.nodes.length cn, .slice ae g.edges.length ce] 25)) hn he (hg.below (alloc_below w _)) hok)
  have hTok := Lib.hid (graph_table hok)
  have hsq := (graph_table hok).s1
  have hsz0 : (w.alloc (.cells #[.bool g.dir, .slice an g.nodes.length cn, .slice ae g.edges.length ce] 25)).heap.size = w.heap.size + 1 := by simp
  have hidl : (asc g.nodes).length ≤ 1000 := by rw [asc_length]; exact hn
  have hidn : Hid (asc g.nodes).Nodup := (asc_perm _).nodup_iff.2 (by
    unfold okGraph at hok
    rw [Bool.and_eq_true] at hok
    exact of_decide_eq_true hok.1)
  have hmk : ∀ (n : Nat), n ≤ 1000 → ∀ W : World, (Instr.makeSlice 41 (.int .i64 (n : Nat)) (.int .i64 (n : Nat))).run Try.prog W = .ok (.slice (some ⟨W.heap.size, 0, none⟩) n n) (W.alloc (.cells (madeCells #[.bool false] n) 4)) :=
    fun n hn W => run_make_row' (P := Try.prog) 41 4 (.bool false) 1 Try.underlying41 (by kernel_rfl) rfl .i64 .i64 n (by omega) (by omega) W
  have hmkh := Lib.hid hmk
  clear hg hok hmk
  go_enter Try.func6, Try.ntmps6
  go_wp2_with fail
  refine (unhide htab).mono ?_
  rintro e w2 ⟨nv, sa, sw, lo, hi, rfl, hlo, hT, hhi, hb2⟩
  have hfinS : Hid (∀ (G : List Bool), G.length = (asc g.nodes).length → Peeled (tableP (asc g.nodes) g.dir g.edges).1 G (asc g.nodes).length K (asc g.nodes).length → (leftTo G (asc g.nodes) (asc g.nodes).length).Nodup ∧ ∀ x ∈ leftTo G (asc g.nodes) (asc g.nodes).length, x ∈ g.nodes ∧ K ≤ dgIn g (leftTo G (asc g.nodes) (asc g.nodes).length) x) :=
    fun G _ hP => left_core hidn.out hTok.out hP
  obtain ⟨ids, hids⟩ : ∃ ids, ids = asc g.nodes := ⟨_, rfl⟩
  obtain ⟨ta, hta⟩ : ∃ ta, ta = (tableP (asc g.nodes) g.dir g.edges).1 := ⟨_, rfl⟩
  obtain ⟨tw, htw⟩ : ∃ tw, tw = (tableP (asc g.nodes) g.dir g.edges).2 := ⟨_, rfl⟩
  rw [← hta] at hT hsq hfinS
  rw [← htw] at hT
  rw [← hids] at hT hsq hfinS hidl
  obtain ⟨n, hnn⟩ : ∃ n, n = ids.length := ⟨_, rfl⟩
  have hT' := hT
  obtain ⟨a1, c1, B, sb, gs, hs, rfl, hnr, T, _⟩ := hT'
  obtain ⟨aa, ca, rfl, _⟩ := owns_cells T.oa
  obtain ⟨aw, cw, rfl, _⟩ := owns_cells T.ow
  have hcn : Cells w2 a1 (ints ids) := by
    obtain ⟨x, y, e, _, h, _⟩ := owns_cells hnr
    injection e with e _ _
    subst e; exact h
  have hrow : Hid (∀ i, i < n → ∃ a0 gr l, aa = some ⟨a0, 0, none⟩ ∧ l = ta.getD i [] ∧ l.length = n ∧ ∀ W, Below w2.heap.size w2 W → W.cell? ⟨a0, i, none⟩ = some (.slice (some ⟨gr, 0, none⟩) n n) ∧ ∀ j, j < n → W.cell? ⟨gr, j, none⟩ = some (.bool (atB ta i j))) := fun i hi' => by
    rw [hnn] at hi' ⊢
    have hil : i < ta.length := by rw [hsq.1]; exact hi'
    obtain ⟨a0, ca', gr, e, hc, hgr, hl⟩ := T.rowA hil
    injection e with e _ _
    refine ⟨a0, gr, ta[i], e, by simp [hil], hl, fun W hW => ⟨cell_below hW hc, fun j hj => ?_⟩⟩
    have hjl : j < (ta[i]).length := by rw [hl]; exact hj
    have := cell_below hW (row_cell hgr hjl).1
    rw [this]
    unfold atB
    simp [hil, hjl]
  have hbw2 : Hid (Below w.heap.size w w2) := (alloc_below w _).trans (hb2.mono (by omega))
  rw [← hnn] at hidl hfinS
  have hnnh := Lib.hid hnn
  have hcnh := Lib.hid hcn
  have hsqh := Lib.hid hsq
  have hmkn := hmkh.out n hidl
  have hmrow := Lib.hid (fun W => made_row W (.bool false) 4 n (by omega))
  rw [← hnn]
  clear hT hnr T hcn hb2 hlo hhi hids hta htw htab hnn hsq hsz0 hTok hmkh
  go_wp2_with fail
  obtain ⟨tb, htb⟩ : ∃ tb, tb = w2.heap.size := ⟨_, rfl⟩
  obtain ⟨w3, hw3⟩ : ∃ w3, w3 = w2.alloc (.cells #[.slice a1 n c1, .slice aa n ca, .slice aw n cw] 39) := ⟨_, rfl⟩
  obtain ⟨w4, hw4⟩ : ∃ w4, w4 = w3.alloc (.cells (madeCells #[.bool false] n) 4) := ⟨_, rfl⟩
  have hz3 : w3.heap.size = tb + 1 := by rw [hw3, htb]; simp
  have hb3 : Below w2.heap.size w2 w3 := by rw [hw3]; exact alloc_below _ _
  have hb4 : Below w3.heap.size w3 w4 := by rw [hw4]; exact alloc_below _ _
  have hz4 : w4.heap.size = tb + 2 := by rw [hw4]; simp [hz3]
  have t0 : w3.cell? ⟨tb, 0, none⟩ = some (.slice a1 n c1) := by rw [hw3, htb]; simp
  have t1 : w3.cell? ⟨tb, 1, none⟩ = some (.slice aa n ca) := by rw [hw3, htb]; simp
  have hG0 : w4.ownsRow w3.heap.size 4 1 (.slice (some ⟨tb + 1, 0, none⟩) n n) n ((List.replicate n false).map Value.bool) := by
    have := hmrow.out w3
    rw [← hw4, hz3] at this
    rw [hz3, List.map_replicate]; exact this
  have hcell : Hid (∀ W, w3.grownBy W none → W.cell? ⟨tb, 0, none⟩ = some (.slice a1 n c1) ∧ W.cell? ⟨tb, 1, none⟩ = some (.slice aa n ca) ∧ Cells W a1 (ints ids) ∧ Below w2.heap.size w2 W) := fun W hW => by
    have hbW : Below w3.heap.size w3 W := ⟨hW.os, hW.tape, hW.output, hW.size, fun j hj => hW.block j hj (by simp)⟩
    have h2 : Below w2.heap.size w2 W := hb3.trans (hbW.mono hb3.size)
    exact ⟨cell_below hbW t0, cell_below hbW t1, hcnh.out.below h2, h2⟩
  have hst4 : Hid (w3.grownBy w4 none) := ⟨hb4.os, hb4.tape, hb4.output, hb4.size, fun j hj _ => hb4.block j hj⟩
  have hG0h := Lib.hid hG0
  have hz3h := Lib.hid hz3
  have hw4h := Lib.hid hw4
  have hbw3 : Hid (∀ W, w3.grownBy W none → Below w.heap.size w W) := fun W hW => hbw2.out.trans ((hcell.out W hW).2.2.2.mono hbw2.out.size)
  rw [← htb]
  try rw [← hw3]
  try rw [hz3]
  try rw [← hw4]
  have hn1 : n ≤ 1000 := hidl
  clear hw3 hw4 hz3 hz4 hb3 hb4 t0 t1 hG0 htb hmkn hidl hmrow
  go_loopg [8, 9, 10, 11] (2 * left_ (List.replicate n false) + 1) (fun gk av _ _ _ wr => ∃ (G : List Bool) (ag : Bool), gk = 2 * left_ G + (if ag = true then 1 else 0) ∧ G.length = n ∧ av = .bool ag ∧ wr.ownsRow w3.heap.size 4 1 (.slice (some ⟨tb + 1, 0, none⟩) n n) n (G.map Value.bool) ∧ w3.grownBy wr none ∧ (ag = false → Peeled ta G n K n))
  case atStart => exact ⟨_, true, rfl, by simp, rfl, hG0h.out, hst4.out, fun e => by cases e⟩
  case round =>
    clear hG0h hst4
    obtain ⟨G, ag, hgk, hGl, rfl, hown, hgr, hP⟩ := hrel
    cases ag
    · have hPP := Lib.hid (hfinS.out G hGl (hP rfl))
      have hown1 := Lib.hid hown
      obtain ⟨c0, c1', hca, hbe⟩ := hcell.out wr hgr
      have hbwr := Lib.hid (hbw3.out wr hgr)
      have hgrh := Lib.hid hgr
      have hGlh := Lib.hid hGl
      obtain ⟨wE, hwE⟩ : ∃ wE, wE = wr := ⟨_, rfl⟩
      subst hwE
      clear hgk hP hown hgr c0 c1' hca hbe hGl
      go_wp2_with fail
      go_loopw [12, 13] (fun s uv wr => ∃ (m : Nat) (b : Option Addr) (cb : Nat), m ≤ n ∧ uv = .int .i64 m ∧ s = .slice b (leftTo G ids m).length cb ∧ wr.ownsRow wE.heap.size 3 1 (.slice b (leftTo G ids m).length cb) (leftTo G ids m).length (ints (leftTo G ids m)) ∧ Below wE.heap.size wE wr) (fun _ uv _ => n - (intOf uv).toNat)
      case atStart => exact ⟨0, none, 0, Nat.zero_le _, rfl, rfl, World.ownsRow_nil _ _ _ _, Below.refl _ _⟩
      case round =>
        obtain ⟨m, b, cb, hm, rfl, rfl, hown, hb⟩ := hrel
        have hll := leftTo_len G ids m
        have hbs := hb.size
        by_cases hlt : m < n
        · have hgw := Lib.hid (hgrh.out.trans ⟨hb.os, hb.tape, hb.output, hb.size, fun j hj _ => hb.block j hj⟩)
          obtain ⟨c0, _, hca, _⟩ := hcell.out wr hgw.out
          have hq0 := cell_below hb (owns_cell hown1.out (getD_at' (l := G) (i := m) (by rw [hGlh.out]; exact hlt)))
          have hls := leftTo_succ G ids m
          obtain ⟨q, hq⟩ : ∃ q, q = G.getD m false := ⟨_, rfl⟩
          rw [← hq] at hq0 hls
          obtain ⟨S, hS⟩ : ∃ S, S = leftTo G ids m := ⟨_, rfl⟩
          rw [← hS] at hls hown hll ⊢
          obtain ⟨s, hs⟩ : ∃ s, s = S.length := ⟨_, rfl⟩
          rw [← hs] at hown hll ⊢
          have hsh := Lib.hid hs
          have hb3h := Lib.hid hb
          have hown3h := Lib.hid hown
          cases q
          · have hil : m < ids.length := by rw [← hnnh.out]; exact hlt
            have hz : ids.getD m 0 = ids[m] := by simp [hil]
            rw [if_neg (by simp), hz] at hls
            obtain ⟨nb, no, rfl, _, hr⟩ := hca.at (by rw [ints_length]; omega)
            have x5 := hr _ _ (ints_get ids m hil)
            obtain ⟨z, hzz⟩ : ∃ z, z = ids[m] := ⟨_, rfl⟩
            rw [← hzz] at hls x5
            have hclh := Lib.hid hls
            have hso := Lib.hid (fun o => hown.alloc o)
            have hfin := Lib.hid (fun o b4 c4 w5 (h5 : w5.ownsRow wE.heap.size 3 1 (.slice b4 (s + 1) c4) (s + 1) (ints S ++ [.int .i64 z])) (hg5 : (wr.alloc o).grownBy w5 (Value.slice b s cb).ownBlock) =>
              show (leftTo G ids (m + 1)).length = s + 1 ∧ w5.ownsRow wE.heap.size 3 1 (.slice b4 (s + 1) c4) (s + 1) (ints (leftTo G ids (m + 1))) ∧ Below wE.heap.size wE w5 from
                ⟨by rw [hclh.out, List.length_append, ← hsh.out]; rfl, by
                  rw [hclh.out]
                  have e : ints (S ++ [z]) = ints S ++ [.int .i64 z] := by simp [ints]
                  rw [e]; exact h5, (hb3h.out.alloc hbs o).grown hg5 (by simp; omega) (fun q e => (hown3h.out.lt q e).1)⟩)
            clear hzz hz hls hS hs hown hb hca hr hq
            go_wp2_with (at_builtin; refine append_law 22 3 (.int .i64 0) 1 8 Try.underlying22 info_int rfl (by omega) (by omega) rfl _ _ rfl wE.heap.size b s cb (ints S) rfl (unhide hso _) ⟨wr.heap.size, 0, none⟩ 1 1 [.int .i64 z] rfl rfl (new_one wr _ _) (one_int _) (by omega) (by simp; omega) ?_; intro b4 c4 w5 hown5 hg5 hat5; have hf := Lib.hid (unhide hfin _ _ _ _ hown5 hg5); clear hown5 hg5 hat5 hso hfin)
            go_roundw
            case rel => exact ⟨m + 1, b4, c4, by omega, by go_num, by rw [hf.out.1], by rw [hf.out.1]; exact hf.out.2.1, hf.out.2.2⟩
            case measure => simp [intOf]; omega
          · rw [if_pos rfl, List.append_nil] at hls
            have hclh := Lib.hid hls
            clear hls hS hs hown hb hca hq
            go_wp2_with fail
            go_roundw
            case rel => exact ⟨m + 1, b, cb, by omega, by go_num, by rw [hclh.out, hsh.out], by rw [hclh.out, ← hsh.out]; exact hown3h.out, hb3h.out⟩
            case measure => simp [intOf]; omega
        · have hmn : n = m := by omega
          subst hmn
          have hfin : Hid (PeelPost w g K (.returned (.slice b (leftTo G ids n).length cb)) wr) :=
            ⟨_, b, cb, rfl, hPP.out.1, hPP.out.2, hbwr.out.trans (hb.mono hbwr.out.size)⟩
          clear hown hb
          go_wp2_with fail
          go_ret
          exact hfin.out
    · have hgkh := Lib.hid hgk
      have hownh := Lib.hid hown
      have hgrh := Lib.hid hgr
      have hGlh := Lib.hid hGl
      clear hgk hown hgr hGl hP
      go_wp2_with fail
      go_loopw [8, 9, 10, 11] (fun av uv _ _ wr => ∃ (m : Nat) (G1 : List Bool) (ag1 : Bool), m ≤ n ∧ uv = .int .i64 m ∧ av = .bool ag1 ∧ PRound ta G G1 n K m ag1 ∧ wr.ownsRow w3.heap.size 4 1 (.slice (some ⟨tb + 1, 0, none⟩) n n) n (G1.map Value.bool) ∧ w3.grownBy wr none) (fun _ uv _ _ _ => n - (intOf uv).toNat)
      case atStart => exact ⟨0, G, false, Nat.zero_le _, rfl, rfl, PRound.start ta K hGlh.out, hownh.out, hgrh.out⟩
      case round =>
        clear hownh hgrh
        obtain ⟨m, G1, ag1, hm, rfl, rfl, hR, hown, hgr⟩ := hrel
        have hRh := Lib.hid hR
        have hownh := Lib.hid hown
        have hgrh := Lib.hid hgr
        have hG1 := Lib.hid hR.1
        clear hR
        by_cases hlt : m < n
        · obtain ⟨wu, hwu⟩ : ∃ wu, wu = wr := ⟨_, rfl⟩
          subst hwu
          clear hown hgr
          go_wp2_with fail
          go_loopw [10, 11] (fun dv vv wr => ∃ (j : Nat), j ≤ n ∧ vv = .int .i64 j ∧ dv = .int .i64 (dAt ta G1 m j : Nat) ∧ wr = wu) (fun _ vv _ => n - (intOf vv).toNat)
          case atStart => exact ⟨0, Nat.zero_le _, rfl, rfl, rfl⟩
          case round =>
            obtain ⟨j, hj, rfl, rfl, rfl⟩ := hrel
            by_cases hlj : j < n
            · obtain ⟨a0, gr, l, rfl, _, _, hat⟩ := hrow.out m hlt
              obtain ⟨_, c1', _, hbe⟩ := hcell.out wr hgrh.out
              obtain ⟨x1, hat2⟩ := hat wr hbe
              have x2 := hat2 j hlj
              have x3 := owns_cell hownh.out (getD_at' (l := G1) (i := j) (by rw [hG1.out]; exact hlj))
              have hds := dAt_succ ta G1 m j
              have hdl := dAt_le ta G1 m j
              obtain ⟨d, hd⟩ : ∃ d, d = dAt ta G1 m j := ⟨_, rfl⟩
              obtain ⟨p, hp⟩ : ∃ p, p = atB ta m j := ⟨_, rfl⟩
              obtain ⟨q, hq⟩ : ∃ q, q = G1.getD j false := ⟨_, rfl⟩
              rw [← hp] at x2 hds
              rw [← hq] at x3 hds
              rw [← hd] at hds hdl ⊢
              clear hd hp hq hat hat2 hbe
              cases p
              · have hds2 := Lib.hid (show dAt ta G1 m (j + 1) = d by rw [hds]; simp)
                clear hds
                go_wp2_with fail
                go_roundw
                case rel => exact ⟨j + 1, by omega, by go_num, by rw [hds2.out], trivial⟩
                case measure => simp [intOf]; omega
              · cases q
                · have hds2 := Lib.hid (show dAt ta G1 m (j + 1) = d + 1 by rw [hds]; simp)
                  clear hds
                  go_wp2_with fail
                  go_roundw
                  case rel => exact ⟨j + 1, by omega, by go_num, by rw [hds2.out]; go_num, trivial⟩
                  case measure => simp [intOf]; omega
                · have hds2 := Lib.hid (show dAt ta G1 m (j + 1) = d by rw [hds]; simp)
                  clear hds
                  go_wp2_with fail
                  go_roundw
                  case rel => exact ⟨j + 1, by omega, by go_num, by rw [hds2.out], trivial⟩
                  case measure => simp [intOf]; omega
            · have hjn : n = j := by omega
              subst hjn
              have x3 := owns_cell hownh.out (getD_at' (l := G1) (i := m) (by rw [hG1.out]; exact hlt))
              have x4 := owns_free hownh.out m
              have hdl := dAt_le ta G1 m n
              have hset := Lib.hid (owns_set hownh.out (j := m) (.bool true))
              have hgs : Hid (∀ u, w3.grownBy (wr.setCell ⟨tb + 1, m, none⟩ u) none) := fun u =>
                ⟨hgrh.out.os, hgrh.out.tape, hgrh.out.output, Nat.le_trans hgrh.out.size (by simp [World.setCell]), fun k hk hn => (Below.heap_setCell _ _ _ _ (by intro e; have e2 : k = tb + 1 := e; have := hz3h.out; omega)).trans (hgrh.out.block k hk hn)⟩
              obtain ⟨q, hq⟩ : ∃ q, q = G1.getD m false := ⟨_, rfl⟩
              obtain ⟨d, hd⟩ : ∃ d, d = dAt ta G1 m n := ⟨_, rfl⟩
              rw [← hq] at x3
              rw [← hd] at hdl ⊢
              have hqh := Lib.hid hq
              have hdh := Lib.hid hd
              clear hq hd
              cases q
              · by_cases hdk : d < K
                · have hnx := Lib.hid (hRh.out.take_ hlt hqh.out.symm)
                  have hdk2 : (d : Int) < (K : Int) := by omega
                  clear hdk
                  go_wp2_with fail
                  go_roundw
                  case rel => exact ⟨m + 1, G1.set m true, true, by omega, by go_num, rfl, hnx.out, by rw [List.map_set]; exact hset.out, hgs.out _⟩
                  case measure => simp [intOf]; omega
                · have hnx := Lib.hid (hRh.out.keep (fun h => hdk (by rw [hdh.out]; exact h.2)))
                  have hdk2 : ¬ (d : Int) < (K : Int) := by omega
                  clear hdk
                  go_wp2_with fail
                  go_roundw
                  case rel => exact ⟨m + 1, G1, ag1, by omega, by go_num, rfl, hnx.out, hownh.out, hgrh.out⟩
                  case measure => simp [intOf]; omega
              · have hnx := Lib.hid (hRh.out.keep (fun h => by rw [← hqh.out] at h; cases h.1))
                go_wp2_with fail
                go_roundw
                case rel => exact ⟨m + 1, G1, ag1, by omega, by go_num, rfl, hnx.out, hownh.out, hgrh.out⟩
                case measure => simp [intOf]; omega
        · have hmn : n = m := by omega
          subst hmn
          clear hown hgr
          go_wp2_with fail
          go_roundg (2 * left_ G1 + (if ag1 = true then 1 else 0))
          case measure =>
            rw [hgkh.out]
            cases ag1
            · rw [(hRh.out.2.1 rfl).1]; simp
            · have := hRh.out.2.2 rfl
              simp; omega
          case rel => exact ⟨G1, ag1, rfl, hG1.out, rfl, hownh.out, hgrh.out, fun e => (hRh.out.2.1 e).2⟩
end Go.Proofs.Ytfihclhceakmdaa
