/- slices.Clone at []bool; laws.reach: the walk. -/
import Derived.Test.YtagnmdhdogaijaaGreatGRows
import Derived.Test.YtagnmdhdogaijaaGreatTableOf
import Derived.Test.YtagnmdhdogaijaaGreatShelf
import Derived.StillTailTactics
namespace Go.Proofs.YtagnmdhdogaijaaGreat
open Go.RowKit

theorem info_bool : (Tryz.prog.info? 4).map (fun i => (i.zero, i.size, i.bytes)) = some (some (.bool false), 1, 1) := by kernel_rfl

theorem cloneBool_any (g n c : Nat) (l : List Bool) (w : World) (hl : l.length = n) (hn : n ≤ 1048576) (hc : ∀ j (hj : j < l.length), w.cell? ⟨g, j, none⟩ = some (.bool l[j])) :
    Calls Tryz.prog 82 #[.slice (some ⟨g, 0, none⟩) n c] w fun e w' => ∃ a' cap', e = .returned (.slice a' n cap') ∧ w'.ownsRow w.heap.size 4 1 (.slice a' n cap') n (l.map Value.bool) ∧ Below w.heap.size w w' := by
  obtain ⟨i0, hi0, hz0, hz1, hz2⟩ := info_parts info_bool
  refine (Tryz.slices_Clone_f82 i0 _ 1 1 hi0 hz0 hz1 hz2 rfl (by omega) Tryz.sizeOf4 g 0 n c (l.map Value.bool) w (by rw [List.length_map, hl, Nat.mul_one]) (by unfold maxLen; omega) (by omega)
    (fun j u hj => by
      rw [List.getElem?_map] at hj
      obtain ⟨x, hx, rfl⟩ := Option.map_eq_some_iff.1 hj
      obtain ⟨hj', rfl⟩ := List.getElem?_eq_some_iff.1 hx
      rw [Nat.zero_add]
      exact hc j hj') (fun u hu => by obtain ⟨b, _, rfl⟩ := List.mem_map.1 hu; rfl)).mono ?_
  rintro e w' ⟨v', rfl, hown', _, hb⟩
  obtain ⟨a', cap', rfl, _⟩ := owns_cells hown'
  exact ⟨a', cap', rfl, hown', hb⟩

/-- What reach gives. -/
def ReachPost (n : Nat) (t : List (List Bool)) (w : World) (e : Ending) (w' : World) : Prop :=
  ∃ (b : Option Addr) (cb D : Nat) (vs : List Value), e = .returned (.slice b n cb) ∧ w'.ownsRow D 103 1 (.slice b n cb) n vs ∧ GRows w' 4 Value.bool D vs (reachP n t) ∧ w.heap.size ≤ D ∧ D ≤ w'.heap.size ∧ Below w.heap.size w w'

theorem diagTo_succ (t : List (List Bool)) (k : Nat) : diagTo t (k + 1) = diagTo t k ++ [(t.getD k []).set k true] := by
  unfold diagTo
  rw [List.range_succ, List.map_append]; rfl

set_option maxRecDepth 100000 in
set_option maxHeartbeats 16000000 in
theorem reach_any (lo hi n : Nat) (ids : List Int) (a1 : Option Addr) (c1 : Nat) (sa sw : Value) (ta : List (List Bool)) (tw : List (List Int)) (w : World) (hT : TabAt w lo hi ids (.slice a1 n c1) sa sw ta tw) (hhi : hi ≤ w.heap.size) (hsq : Square n ta) (hn : n ≤ 1000) (hni : n = ids.length) :
    Calls Tryz.prog 52 #[.agg #[.slice a1 n c1, sa, sw]] w (ReachPost n ta w) := by
  subst hni
  obtain ⟨n, hnn⟩ : ∃ n, n = ids.length := ⟨_, rfl⟩
  rw [← hnn] at hsq hn hT ⊢
  obtain ⟨w1, hw1⟩ : ∃ w1, w1 = w.alloc (.cells #[.slice a1 n c1, sa, sw] 100) := ⟨_, rfl⟩
  have hb1 : Below w.heap.size w w1 := by rw [hw1]; exact alloc_below w _
  have k0 : w1.cell? ⟨w.heap.size, 0, none⟩ = some (.slice a1 n c1) := by rw [hw1]; simp
  have k1 : w1.cell? ⟨w.heap.size, 1, none⟩ = some sa := by rw [hw1]; simp
  have hrow : Hid (∀ i, i < n → ∃ a0 ca g l, sa = .slice (some ⟨a0, 0, none⟩) n ca ∧ l = ta.getD i [] ∧ l.length = n ∧ ∀ W, Below w1.heap.size w1 W → W.cell? ⟨a0, i, none⟩ = some (.slice (some ⟨g, 0, none⟩) n n) ∧ ∀ j (hj : j < l.length), W.cell? ⟨g, j, none⟩ = some (.bool l[j])) := fun i hi' => by
    obtain ⟨x1, y1, B, sb, gs, hs, e1, _, T, _⟩ := hT.below hhi hb1
    rw [← hnn] at T
    have hil : i < ta.length := by rw [hsq.1]; exact hi'
    obtain ⟨a0, ca, g, e, hc, hg, hl⟩ := T.rowA hil
    refine ⟨a0, ca, g, ta[i], e, by simp [hil], hl, fun W hW => ⟨cell_below hW hc, fun j hj => ?_⟩⟩
    exact cell_below hW (row_cell hg hj).1
  have hw1h := Lib.hid hw1
  have hsz1 : w1.heap.size = w.heap.size + 1 := by rw [hw1]; simp
  clear hT hb1 hhi hnn
  go_enter Tryz.func52, Tryz.ntmps52
  go_wp2_with fail
  rw [← hw1]
  obtain ⟨D, hD⟩ : ∃ D, D = w1.heap.size := ⟨_, rfl⟩
  have hDh := Lib.hid hD
  rw [← hD] at hrow
  have hbw1 : Hid (Below w.heap.size w w1) := by unfold Hid; rw [hw1]; exact alloc_below w _
  clear hw1 hD
  go_loopw [4, 5, 6] (fun s i _ wr => ∃ (k : Nat) (b : Option Addr) (cb : Nat) (vs : List Value), k ≤ n ∧ i = .int .i64 k ∧ s = .slice b k cb ∧ wr.ownsRow D 103 1 (.slice b k cb) k vs ∧ GRows wr 4 Value.bool D vs (diagTo ta k) ∧ (∀ j ∈ blks vs, (Value.slice b k cb).ownBlock ≠ some j) ∧ (blks vs).Nodup ∧ Below D w1 wr) (fun _ i _ _ => n - (intOf i).toNat)
  case atStart => exact ⟨0, none, 0, [], Nat.zero_le _, rfl, rfl, World.ownsRow_nil _ _ _ _, GRows.nil _ _ _ _, by simp [blks], by simp [blks], Below.refl _ _⟩
  case round =>
    obtain ⟨k, b, cb, vs, hk, rfl, rfl, hown, hgr, hdis, hnd, hb⟩ := hrel
    have hDw : D ≤ wr.heap.size := by have := hb.size; have := hDh.out; omega
    have k0r : wr.cell? ⟨w.heap.size, 0, none⟩ = some (.slice a1 n c1) := cell_below (by rw [← hDh.out]; exact hb) k0
    have k1r : wr.cell? ⟨w.heap.size, 1, none⟩ = some sa := cell_below (by rw [← hDh.out]; exact hb) k1
    by_cases hlt : k < n
    · obtain ⟨a0, ca, g, l, rfl, hle, hll, hat⟩ := hrow.out k hlt
      obtain ⟨hcell, hcs⟩ := hat wr hb
      have hcl := Lib.hid (cloneBool_any g n n l wr hll (by omega) hcs)
      have hdk : Hid (diagTo ta (k + 1) = diagTo ta k ++ [l.set k true]) := by unfold Hid; rw [diagTo_succ, hle]
      have hownh := Lib.hid hown
      have hgrh := Lib.hid hgr
      have hdish := Lib.hid hdis
      have hndh := Lib.hid hnd
      have hbh := Lib.hid hb
      have hsl : (l.set k true).length = n := by rw [List.length_set]; exact hll
      clear hown hgr hdis hnd hb hat hcs hle hll k0 k1 k0r
      go_wp2_with fail
      refine (unhide hcl).mono ?_
      rintro e w5 ⟨ax, cx, rfl, own5, hb5⟩
      obtain ⟨gx, rfl, hgx, _⟩ := owns_at own5 (by omega)
      have own6 := owns_set own5 (j := k) (.bool true)
      rw [← List.map_set] at own6
      have hb6 : Below wr.heap.size wr (w5.setCell ⟨gx, k, none⟩ (.bool true)) := hb5.setCell hgx _
      obtain ⟨o6, hD6, hst⟩ := grow_step (o := .cells #[.slice (some ⟨gx, 0, none⟩) n cx] 103) hsl.symm hownh.out hgrh.out hdish.out hndh.out hb6 own6 hDw
      have ho6 := Lib.hid (fun o => o6.alloc o)
      have lv : (l.map Value.bool)[k]? = some (.bool (l.getD k false)) := by
        have hkl : k < l.length := by rw [List.length_set] at hsl; omega
        simp [hkl]
      have s1 : w5.cell? ⟨gx, k, none⟩ = some (.bool (l.getD k false)) := owns_cell own5 lv
      have s2 := owns_free own5 k
      have hnw : Hid (∀ (j : Nat) u, [Value.slice (some ⟨gx, 0, none⟩) n cx][j]? = some u → ((w5.setCell ⟨gx, k, none⟩ (.bool true)).alloc (.cells #[.slice (some ⟨gx, 0, none⟩) n cx] 103)).cell? ((⟨w5.heap.size, 0, none⟩ : Addr).add j) = some u) := by
        have := new_one (w5.setCell ⟨gx, k, none⟩ (.bool true)) (.slice (some ⟨gx, 0, none⟩) n cx) 103
        rwa [size_setCell'] at this
      rw [size_setCell'] at hD6
      clear own5 hb5 own6 hb6 o6 hcl hcell lv hsl
      go_wp2_with (at_builtin; refine append_law 98 103 (.slice none 0 0) 1 24 Tryz.underlying98 info_rowB rfl (by omega) (by omega) rfl _ _ rfl D b k cb vs rfl (ho6.out _) ⟨w5.heap.size, 0, none⟩ 1 1 [.slice (some ⟨gx, 0, none⟩) n cx] rfl rfl (unhide hnw) (one_row _ _ _) (by omega) (by simp; omega) ?_; intro b2 c2 w7 hown7 hg7 hat7; have hq := Lib.hid (hst.out w7 b2 c2 hg7 hown7 hat7); have hown7h := Lib.hid hown7; clear hown7 hg7 hat7 ho6)
      go_roundw
      case rel => exact ⟨k + 1, b2, c2, _, by omega, by go_num, rfl, hown7h.out, by rw [hdk.out]; exact hq.out.1, hq.out.2.1, hq.out.2.2.1, hbh.out.trans hq.out.2.2.2⟩
      case measure => simp [intOf]; omega
    · have hkn : n = k := by omega
      subst hkn
      have hR0 := diagTo_square hsq
      obtain ⟨R0, hR⟩ : ∃ R0, R0 = diagTo ta n := ⟨_, rfl⟩
      rw [← hR] at hgr hR0
      have hRh : Hid (wars n R0 n = reachP n ta) := by unfold Hid; rw [hR]; rfl
      have hownh := Lib.hid hown
      have hgrh := Lib.hid hgr
      have hdish := Lib.hid hdis
      have hndh := Lib.hid hnd
      have hbh := Lib.hid hb
      have hR0h := Lib.hid hR0
      clear hown hgr hdis hnd hb hR hR0 k0 k1 k0r k1r hrow hsq
      go_wp2_with fail
      go_loopw [7, 8, 9] (fun kv _ _ wr => ∃ (k : Nat), k ≤ n ∧ kv = .int .i64 k ∧ wr.ownsRow D 103 1 (.slice b n cb) n vs ∧ GRows wr 4 Value.bool D vs (wars n R0 k) ∧ Below D w1 wr) (fun kv _ _ _ => n - (intOf kv).toNat)
      case atStart => exact ⟨0, Nat.zero_le _, rfl, hownh.out, hgrh.out, hbh.out⟩
      case round =>
        clear hownh hgrh hbh hDw
        obtain ⟨k, hk, rfl, hown, hgr, hb⟩ := hrel
        by_cases hlt : k < n
        · obtain ⟨ob, rfl, _⟩ := owns_at hown (by omega)
          have hownh := Lib.hid hown
          have hgrh := Lib.hid hgr
          have hbh := Lib.hid hb
          have hn0 : (0 : Int) < (n : Int) := by omega
          clear hown hgr hb
          go_wp2_with fail
          go_loopw [8, 9] (fun uv _ wr => ∃ (u : Nat), u ≤ n ∧ uv = .int .i64 u ∧ wr.ownsRow D 103 1 (.slice (some ⟨ob, 0, none⟩) n cb) n vs ∧ GRows wr 4 Value.bool D vs (roundTo n (wars n R0 k) k u) ∧ Below D w1 wr) (fun uv _ _ => n - (intOf uv).toNat)
          case atStart => exact ⟨0, Nat.zero_le _, rfl, hownh.out, hgrh.out, hbh.out⟩
          case round =>
            clear hownh hgrh hbh
            obtain ⟨u, hu, rfl, hown, hgr, hb⟩ := hrel
            by_cases hlu : u < n
            · have hsT := roundTo_square (wars_square hR0h.out k) k u
              obtain ⟨T, hT⟩ : ∃ T, T = roundTo n (wars n R0 k) k u := ⟨_, rfl⟩
              have hrt : Hid (roundTo n (wars n R0 k) k (u + 1) = rowTo n T k u) := by unfold Hid; rw [hT]; rfl
              rw [← hT] at hgr hsT
              obtain ⟨wu, hwu⟩ : ∃ wu, wu = wr := ⟨_, rfl⟩
              subst hwu
              have hownh := Lib.hid hown
              have hgrh := Lib.hid hgr
              have hbh := Lib.hid hb
              have hsTh := Lib.hid hsT
              clear hT hown hgr hb hsT
              rcases hg : atB T u k with _ | _
              · have hrow : Hid (rowTo n T k u = T) := by unfold Hid rowTo; rw [if_neg (by rw [hg]; simp)]
                obtain ⟨gu, cu, hvu, _, _, hcu⟩ := table_cell hgrh.out hsTh.out hlu
                have a1 := owns_cell hownh.out hvu
                have a2 := (hcu k hlt).1
                rw [hg] at a2
                clear hcu hvu hg
                go_wp2_with fail
                go_loopw [9] (fun vv wr => vv = .int .i64 0 ∧ wr = wu) (fun _ _ => 0)
                case atStart => exact ⟨rfl, rfl⟩
                case round =>
                  obtain ⟨rfl, rfl⟩ := hrel
                  go_wp2_with fail
                  go_roundw
                  case rel => exact ⟨u + 1, by omega, by go_num, hownh.out, by rw [hrt.out, hrow.out]; exact hgrh.out, hbh.out⟩
                  case measure => simp [intOf]; omega
              · have hrow : Hid (rowTo n T k u = joinTo T u k n) := by unfold Hid rowTo; rw [if_pos hg]
                have hgh := Lib.hid hg
                clear hg
                go_wp2_with fail
                go_loopw [9] (fun vv wr => ∃ (v : Nat), v ≤ n ∧ vv = .int .i64 v ∧ wr.ownsRow D 103 1 (.slice (some ⟨ob, 0, none⟩) n cb) n vs ∧ GRows wr 4 Value.bool D vs (joinTo T u k v) ∧ Below D w1 wr) (fun vv _ => n - (intOf vv).toNat)
                case atStart => exact ⟨0, Nat.zero_le _, rfl, hownh.out, hgrh.out, hbh.out⟩
                case round =>
                  clear hownh hgrh hbh
                  obtain ⟨v, hv, rfl, hown, hgr, hb⟩ := hrel
                  have hsJ := joinTo_square hsTh.out u k v
                  have hm := joinTo_mono hsTh.out hlu hlt hlu hlt v hv hgh.out
                  obtain ⟨J, hJ⟩ : ∃ J, J = joinTo T u k v := ⟨_, rfl⟩
                  have hj1 : joinTo T u k (v + 1) = putB J u v (atB J u v || atB J k v) := by rw [hJ]; rfl
                  have hJn : Hid (v = n → J = joinTo T u k n) := fun e => by rw [hJ, e]
                  rw [← hJ] at hgr hsJ hm
                  obtain ⟨gu, cu, hvu, g1, g2, hcu⟩ := table_cell hgr hsJ hlu
                  obtain ⟨gk, ck, hvk, g3, g4, hck⟩ := table_cell hgr hsJ hlt
                  have a1 := owns_cell hown hvu
                  have a2 := owns_cell hown hvk
                  have a3 := (hcu k hlt).1
                  rw [hm] at a3
                  by_cases hlv : v < n
                  · obtain ⟨x1, f1⟩ := hcu v hlv
                    obtain ⟨y1, _⟩ := hck v hlv
                    have hne : ob ≠ gu := fun e => hdish.out gu (blks_mem hvu rfl) (by rw [e]; rfl)
                    have hfin : Hid (∀ z, z = (atB J u v || atB J k v) → (wr.drew.setCell ⟨gu, v, none⟩ (.bool z)).ownsRow D 103 1 (.slice (some ⟨ob, 0, none⟩) n cb) n vs ∧ GRows (wr.drew.setCell ⟨gu, v, none⟩ (.bool z)) 4 Value.bool D vs (joinTo T u k (v + 1)) ∧ Below D w1 (wr.drew.setCell ⟨gu, v, none⟩ (.bool z))) := fun z hz => by
                      have h1 := owns_far hown (show (Value.slice (some ⟨ob, 0, none⟩) n cb).ownBlock ≠ some gu from fun e => by injection e with e; exact hne e) v (.bool z)
                      have h2 := hgr.put (j := v) hndh.out hvu z
                      rw [hj1, ← hz]
                      exact ⟨owns_same h1 fun _ _ => rfl, h2.same fun _ _ => rfl, hb.drew.setCell g1 _⟩
                    obtain ⟨x, hx⟩ : ∃ x, x = atB J u v := ⟨_, rfl⟩
                    obtain ⟨y, hy⟩ : ∃ y, y = atB J k v := ⟨_, rfl⟩
                    rw [← hx] at x1 hfin
                    rw [← hy] at y1 hfin
                    clear hown hgr hb hsJ hm hJ hj1 hcu hck hvu hvk hx hy g2 g3 g4 hJn
                    cases x
                    · have hf := Lib.hid (hfin.out y rfl)
                      clear hfin
                      go_wp2_with fail
                      go_still_tail 22, (by kernel_rfl)
                      change wpList _ _ _ _ _ wr.drew
                      go_wp2_with fail
                      go_roundw
                      case rel => exact ⟨v + 1, by omega, by go_num, hf.out⟩
                      case measure => simp [intOf]; omega
                    · have hf := Lib.hid (hfin.out true rfl)
                      clear hfin
                      go_wp2_with fail
                      go_region
                      all_goals
                        go_wp2_with fail
                        go_roundw
                        case rel => exact ⟨v + 1, by omega, by go_num, hf.out⟩
                        case measure => simp [intOf]; omega
                  · have hvn : v = n := by omega
                    have hgrf : Hid (GRows wr 4 Value.bool D vs (joinTo T u k n)) := by rw [← hJn.out hvn]; exact hgr
                    have hown2 := Lib.hid hown
                    have hb2 := Lib.hid hb
                    clear hown hgr hb hsJ hm hJ hj1 hcu hck hvu hvk hJn
                    go_wp2_with fail
                    go_roundw
                    case rel => exact ⟨u + 1, by omega, by go_num, hown2.out, by rw [hrt.out, hrow.out]; exact hgrf.out, hb2.out⟩
                    case measure => simp [intOf]; omega
            · have hun : u = n := by omega
              have hgrf : Hid (GRows wr 4 Value.bool D vs (wars n R0 (k + 1))) := by rw [hun] at hgr; exact hgr
              have hown2 := Lib.hid hown
              have hb2 := Lib.hid hb
              clear hown hgr hb
              go_wp2_with fail
              go_roundw
              case rel => exact ⟨k + 1, by omega, by go_num, hown2.out, hgrf.out, hb2.out⟩
              case measure => simp [intOf]; omega
        · have hkn : k = n := by omega
          rw [hkn] at hgr
          have hfin : Hid (ReachPost n ta w (.returned (.slice b n cb)) wr) :=
            ⟨b, cb, D, vs, rfl, hown, by rw [← hRh.out]; exact hgr, by have := hDh.out; omega, by have := hb.size; have := hDh.out; omega, hbw1.out.trans (hb.mono (by have := hDh.out; omega))⟩
          clear hown hgr hb
          go_wp2_with fail
          go_ret
          exact hfin.out
end Go.Proofs.YtagnmdhdogaijaaGreat
