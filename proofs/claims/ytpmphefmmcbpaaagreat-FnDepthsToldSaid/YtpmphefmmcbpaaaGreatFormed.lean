/- laws.sized, laws.formed, slices.Contains at []int. -/
import Derived.Test.YtpmphefmmcbpaaaGreatLaws1
import Derived.Test.YtpmphefmmcbpaaaGreatShelf
import Derived.Deep.RegionLaw
import Derived.Deep.RegionHeld3
namespace Go.Proofs.YtpmphefmmcbpaaaGreat
open Go.RowKit

theorem contains_any (a : Option Addr) (n c : Nat) (zs : List Int) (x : Int) (w : World) (hz : n ≤ zs.length) (hn : n ≤ 9223372036854775807) (hc : Cells w a (ints zs)) :
    Calls Tryz.prog 17 #[.slice a n c, .int .i64 x] w fun e w' => e = .returned (.bool (decide (x ∈ zs.take n))) ∧ w' = w := by
  by_cases h0 : n = 0
  · subst h0
    refine (Tryz.slices_Contains_int_empty a c x w).mono fun e w' h => ⟨h.1.trans ?_, h.2⟩
    simp
  · obtain ⟨b, off, rfl, _, hr⟩ := hc.at (by rw [ints_length]; omega)
    refine (Tryz.slices_Contains_int b off n c zs x w hz (by omega) (fun j hj => ?_)).mono fun e w' h => ⟨h.1.trans ?_, h.2⟩
    · have := hr _ _ (ints_get zs j hj)
      rw [this, List.getD_eq_getElem?_getD, List.getElem?_eq_getElem hj]
      rfl
    · rw [List.contains_eq_mem]

theorem contall_any (a : Option Addr) (n c : Nat) (zs : List Int) (x : Int) (w : World) (hz : n = zs.length) (hn : n ≤ 9223372036854775807) (hc : Cells w a (ints zs)) :
    Calls Tryz.prog 17 #[.slice a n c, .int .i64 x] w fun e w' => e = .returned (.bool (decide (x ∈ zs))) ∧ w = w' :=
  (contains_any a n c zs x w (by omega) hn hc).mono fun e w' h => ⟨by rw [h.1, hz, List.take_length], h.2.symm⟩

/-- What sized says. -/
def SizedIs (g : Gr) (m : Nat) : Prop := g.nodes.length ≤ m ∧ g.edges.length ≤ 200 ∧ ∀ e ∈ g.edges, e.2.2 ≤ 1099511627776 ∧ -1099511627776 ≤ e.2.2

/-- What formed says. -/
def FormedIs (g : Gr) : Prop := g.nodes.Nodup ∧ ∀ e ∈ g.edges, e.1 ≠ e.2.1 ∧ e.1 ∈ g.nodes ∧ e.2.1 ∈ g.nodes

def SizedPost (w : World) (g : Gr) (m : Nat) (e : Ending) (w' : World) : Prop := ∃ b, e = .returned (.bool b) ∧ (b = true → SizedIs g m) ∧ Below w.heap.size w w'
def FormedPost (w : World) (g : Gr) (e : Ending) (w' : World) : Prop := ∃ b, e = .returned (.bool b) ∧ (b = true → FormedIs g) ∧ Below w.heap.size w w'

theorem ok_of {g : Gr} {m : Nat} (h : SizedIs g m) (h' : FormedIs g) : okGraph g = true := by
  unfold okGraph
  rw [Bool.and_eq_true, List.all_eq_true]
  refine ⟨decide_eq_true h'.1, fun e he => ?_⟩
  unfold okEdge
  exact decide_eq_true ⟨(h'.2 e he).1, (h'.2 e he).2.1, (h'.2 e he).2.2, (h.2.2 e he).1, (h.2.2 e he).2⟩

set_option maxHeartbeats 2000000 in
theorem sized_any (g : Gr) (an : Option Addr) (cn : Nat) (ae : Option Addr) (ce : Nat) (m : Nat) (w : World) (_ : m ≤ 1000) (_ : g.nodes.length ≤ 9223372036854775807) (_ : g.edges.length ≤ 9223372036854775807) (hg : GrAt w g an cn ae) :
    Calls Tryz.prog 10 #[.agg #[.bool g.dir, .slice an g.nodes.length cn, .slice ae g.edges.length ce], .int .i64 m] w (SizedPost w g m) := by
  obtain ⟨w1, hw1⟩ : ∃ w1, w1 = w.alloc (.cells #[.bool g.dir, .slice an g.nodes.length cn, .slice ae g.edges.length ce] 25) := ⟨_, rfl⟩
  have hb1 : Below w.heap.size w w1 := by rw [hw1]; exact alloc_below w _
  have hz1 : w1.heap.size = w.heap.size + 1 := by rw [hw1]; simp
  have k1 : w1.cell? ⟨w.heap.size, 1, none⟩ = some (.slice an g.nodes.length cn) := by rw [hw1]; simp
  have k2 : w1.cell? ⟨w.heap.size, 2, none⟩ = some (.slice ae g.edges.length ce) := by rw [hw1]; simp
  have hec := (hg.below hb1).edges
  have hw1h := Lib.hid hw1
  have hb1h := Lib.hid hb1
  have hech := Lib.hid hec
  clear hg hw1 hb1 hec
  go_enter Tryz.func10, Tryz.ntmps10
  by_cases t1 : m < g.nodes.length
  · clear k1 k2 hz1
    go_wp2_with fail
    go_ret
    exact ⟨false, rfl, (by simp), by rw [← hw1h.out]; exact hb1h.out⟩
  by_cases t2 : 200 < g.edges.length
  · clear k1 k2 hz1
    go_wp2_with fail
    go_ret
    exact ⟨false, rfl, (by simp), by rw [← hw1h.out]; exact hb1h.out⟩
  go_wp2_with fail
  rw [← hw1h.out]
  go_loopw [5] (fun i wr => ∃ k q : Nat, k ≤ g.edges.length ∧ i = .int .i64 k ∧ wr = w1.drewN q ∧ (∀ j (hj : j < g.edges.length), j < k → g.edges[j].2.2 ≤ 1099511627776 ∧ -1099511627776 ≤ g.edges[j].2.2)) (fun i _ => g.edges.length - (intOf i).toNat)
  case atStart => exact ⟨0, 0, Nat.zero_le _, rfl, rfl, fun j _ hj => absurd hj (Nat.not_lt_zero _)⟩
  case round =>
    obtain ⟨k, q, hk, rfl, rfl, H0⟩ := hrel
    have H := Lib.hid H0
    clear H0
    by_cases hlt : k < g.edges.length
    · obtain ⟨b, off, rfl, _, hr⟩ := hech.out.at (by rw [edgeCells_length]; omega)
      obtain ⟨_, _, e3⟩ := edge_cells hr hlt
      have e3' : (w1.drewN q).cell? ⟨b, off + k * 3 + 2, none⟩ = some (.int .i64 g.edges[k].2.2) := e3
      obtain ⟨x, hx⟩ : ∃ x, x = g.edges[k].2.2 := ⟨_, rfl⟩
      rw [← hx] at e3 e3'
      have hxh := Lib.hid hx
      have j1 : (w1.drewN q).cell? ⟨w.heap.size, 1, none⟩ = some (.slice an g.nodes.length cn) := k1
      have j2 : (w1.drewN q).cell? ⟨w.heap.size, 2, none⟩ = some (.slice (some ⟨b, off, none⟩) g.edges.length ce) := k2
      obtain ⟨W, hW⟩ : ∃ W, W = w1.drewN q := ⟨_, rfl⟩
      rw [← hW] at e3' j1 j2 ⊢
      have hWh := Lib.hid hW
      have hWb : Hid (Below w.heap.size w W) := by unfold Hid; rw [hW]; exact below_draws hb1h.out q
      clear hr hx e3 hW k1 k2 hz1
      by_cases t4 : 1099511627776 < x
      · go_wp2_with fail
        go_ret
        exact ⟨false, rfl, (by simp), hWb.out⟩
      · by_cases t5 : x < -1099511627776
        · go_wp2_with fail
          go_ret
          exact ⟨false, rfl, (by simp), hWb.out⟩
        · have hnext : Hid (∀ j (hj : j < g.edges.length), j < k + 1 → g.edges[j].2.2 ≤ 1099511627776 ∧ -1099511627776 ≤ g.edges[j].2.2) := fun j hj hlt' => by
            rcases Nat.lt_or_eq_of_le (Nat.le_of_lt_succ hlt') with h | h
            · exact H.out j hj h
            · subst h; rw [← hxh.out]; omega
          go_wp2_with fail
          go_roundw
          case rel => exact ⟨k + 1, q, by omega, by go_num, hWh.out, hnext.out⟩
          case measure => simp [intOf]; omega
    · have hfin : Hid (SizedIs g m) := by
        refine ⟨by omega, by omega, fun e he => ?_⟩
        obtain ⟨j, hj, rfl⟩ := List.mem_iff_getElem.1 he
        exact H.out j hj (by omega)
      have hWb : Hid (Below w.heap.size w (w1.drewN q)) := below_draws hb1h.out q
      have j1 : (w1.drewN q).cell? ⟨w.heap.size, 1, none⟩ = some (.slice an g.nodes.length cn) := k1
      have j2 : (w1.drewN q).cell? ⟨w.heap.size, 2, none⟩ = some (.slice ae g.edges.length ce) := k2
      go_wp2_with fail
      go_ret
      exact ⟨true, rfl, fun _ => hfin.out, hWb.out⟩

set_option maxHeartbeats 4000000 in
theorem formed_any (g : Gr) (an : Option Addr) (cn : Nat) (ae : Option Addr) (ce : Nat) (w : World) (hl : g.nodes.length ≤ 2147483647) (hl2 : g.edges.length ≤ 2147483647) (hcap : g.nodes.length ≤ cn) (hg : GrAt w g an cn ae) :
    Calls Tryz.prog 9 #[.agg #[.bool g.dir, .slice an g.nodes.length cn, .slice ae g.edges.length ce]] w (FormedPost w g) := by
  obtain ⟨w1, hw1⟩ : ∃ w1, w1 = w.alloc (.cells #[.bool g.dir, .slice an g.nodes.length cn, .slice ae g.edges.length ce] 25) := ⟨_, rfl⟩
  have hb1 : Below w.heap.size w w1 := by rw [hw1]; exact alloc_below w _
  have hz1 : w1.heap.size = w.heap.size + 1 := by rw [hw1]; simp
  have k0 : w1.cell? ⟨w.heap.size, 0, none⟩ = some (.bool g.dir) := by rw [hw1]; simp
  have k1 : w1.cell? ⟨w.heap.size, 1, none⟩ = some (.slice an g.nodes.length cn) := by rw [hw1]; simp
  have k2 : w1.cell? ⟨w.heap.size, 2, none⟩ = some (.slice ae g.edges.length ce) := by rw [hw1]; simp
  have hK : Hid (∀ wr, Below w1.heap.size w1 wr → (Below w.heap.size w wr ∧ GrAt wr g an cn ae) ∧ wr.cell? ⟨w.heap.size, 1, none⟩ = some (.slice an g.nodes.length cn) ∧ wr.cell? ⟨w.heap.size, 2, none⟩ = some (.slice ae g.edges.length ce)) :=
    fun wr h => ⟨⟨hb1.trans (h.mono (by omega)), (hg.below hb1).below h⟩, cell_below h k1, cell_below h k2⟩
  have hw1h := Lib.hid hw1
  clear hg hw1 hb1 k0 k1 k2
  go_enter Tryz.func9, Tryz.ntmps9
  go_wp2_with fail
  rw [← hw1h.out]
  go_loopw [3] (fun i wr => ∃ k : Nat, k ≤ g.nodes.length ∧ i = .int .i64 k ∧ Below w1.heap.size w1 wr ∧ (g.nodes.take k).Nodup) (fun i _ => g.nodes.length - (intOf i).toNat)
  case atStart => exact ⟨0, Nat.zero_le _, rfl, Below.refl _ _, by simp⟩
  case round =>
    obtain ⟨k, hk, rfl, hb, hnd⟩ := hrel
    obtain ⟨⟨hbw, hgr⟩, d1, d2⟩ := hK.out wr hb
    have hbh := Lib.hid hb
    have hbwh := Lib.hid hbw
    have hgrh := Lib.hid hgr
    have hndh := Lib.hid hnd
    clear hb hbw hgr hnd
    by_cases hlt : k < g.nodes.length
    · obtain ⟨b, off, rfl, _, hr⟩ := hgrh.out.nodes.at (by rw [ints_length]; omega)
      have x0 := hr _ _ (ints_get g.nodes k hlt)
      obtain ⟨y, hy⟩ : ∃ y, y = g.nodes[k] := ⟨_, rfl⟩
      rw [← hy] at x0
      have hcon : Hid (∀ W, Below wr.heap.size wr W → Calls Tryz.prog 17 #[.slice (some ⟨b, off, none⟩) k cn, .int .i64 y] W fun e w' => e = .returned (.bool (decide (y ∈ g.nodes.take k))) ∧ W = w') := fun W hW =>
        (contains_any _ k cn g.nodes y W (by omega) (by omega) (hgrh.out.below hW).nodes).mono fun e w' h => ⟨h.1, h.2.symm⟩
      have htake : Hid (g.nodes.take (k + 1) = g.nodes.take k ++ [y]) := by unfold Hid; rw [List.take_succ_eq_append_getElem hlt, ← hy]
      have hkc : (k : Int) ≤ (cn : Int) := by omega
      have hbd : Hid (Below w1.heap.size w1 wr.drew ∧ Below w.heap.size w wr.drew) := ⟨hbh.out.drew, hbwh.out.drew⟩
      obtain ⟨q, hq⟩ : ∃ q, q = decide (y ∈ g.nodes.take k) := ⟨_, rfl⟩
      rw [← hq] at hcon
      have hqh := Lib.hid hq
      clear hr hy hq
      cases q
      · have hnd2 : Hid ((g.nodes.take (k + 1)).Nodup) := by
          unfold Hid
          rw [htake.out, List.nodup_append]
          have hn := of_decide_eq_false hqh.out.symm
          exact ⟨hndh.out, by simp, fun a ha b hb e => hn (by rw [List.mem_singleton.1 hb] at e; exact e ▸ ha)⟩
        go_wp2_with fail
        go_region_law (go_simp; go_at_call 17; ((with_reducible refine (hcon.out _ (by repeat (first | exact Below.refl _ _ | refine Below.drew ?_))).mono ?_)); rintro e w6 ⟨rfl, rfl⟩)
        all_goals
          go_wp2_with fail
          go_roundw
          case rel => exact ⟨k + 1, by omega, by go_num, hbd.out.1, hnd2.out⟩
          case measure => simp [intOf]; omega
      · go_wp2_with fail
        go_region_law (go_simp; go_at_call 17; ((with_reducible refine (hcon.out _ (by repeat (first | exact Below.refl _ _ | refine Below.drew ?_))).mono ?_)); rintro e w6 ⟨rfl, rfl⟩)
        all_goals
          go_wp2_with fail
          go_ret
          exact ⟨false, rfl, (by simp), hbd.out.2⟩
    · have hnodup : Hid g.nodes.Nodup := by have := hndh.out; rwa [List.take_of_length_le (by omega)] at this
      have hkn : k = g.nodes.length := by omega
      subst hkn
      clear hlt
      go_wp2_with fail
      go_loopw [4] (fun i wr => ∃ k : Nat, k ≤ g.edges.length ∧ i = .int .i64 k ∧ Below w1.heap.size w1 wr ∧ (∀ j (hj : j < g.edges.length), j < k → g.edges[j].1 ≠ g.edges[j].2.1 ∧ g.edges[j].1 ∈ g.nodes ∧ g.edges[j].2.1 ∈ g.nodes)) (fun i _ => g.edges.length - (intOf i).toNat)
      case atStart => exact ⟨0, Nat.zero_le _, rfl, hbh.out, fun j _ hj => absurd hj (Nat.not_lt_zero _)⟩
      case round =>
        clear hbh hbwh hgrh hndh hk d1 d2
        obtain ⟨k, hk, rfl, hb, H0⟩ := hrel
        obtain ⟨⟨hbw, hgr⟩, d1, d2⟩ := hK.out wr hb
        have H := Lib.hid H0
        have hbh := Lib.hid hb
        have hbwh := Lib.hid hbw
        have hN : ∀ o, Cells (wr.alloc o) an (ints g.nodes) := fun o => hgr.nodes.alloc o
        have hbs : w.heap.size + 1 ≤ wr.heap.size := by have := hb.size; omega
        have hbo : Hid (∀ o, Below w1.heap.size w1 (wr.alloc o) ∧ Below w.heap.size w (wr.alloc o)) := fun o => ⟨hbh.out.alloc (by omega) o, hbwh.out.alloc (by omega) o⟩
        clear H0 hb hbw
        by_cases hlt : k < g.edges.length
        · obtain ⟨b, off, rfl, _, hr⟩ := hgr.edges.at (by rw [edgeCells_length]; omega)
          obtain ⟨e1, e2, e3⟩ := edge_cells hr hlt
          obtain ⟨u, v, x, hux⟩ : ∃ u v x, g.edges[k] = (u, v, x) := ⟨_, _, _, rfl⟩
          rw [hux] at e1 e2 e3
          have hu := Lib.hid hux
          simp only [] at e1 e2 e3
          have m1 : ∀ o, (wr.alloc o).cell? ⟨w.heap.size, 1, none⟩ = some (.slice an g.nodes.length cn) := fun o => cell_alloc d1 o
          clear hr hgr hux
          by_cases t1 : u = v
          · subst t1
            go_wp2_with fail
            go_ret
            exact ⟨false, rfl, (by simp), (hbo.out _).2⟩
          · have t1' : (u == v) = false := by simpa using t1
            by_cases t2 : u ∈ g.nodes
            · have t2' : decide (u ∈ g.nodes) = true := decide_eq_true t2
              by_cases t3 : v ∈ g.nodes
              · have t3' : decide (v ∈ g.nodes) = true := decide_eq_true t3
                have hnext : Hid (∀ j (hj : j < g.edges.length), j < k + 1 → g.edges[j].1 ≠ g.edges[j].2.1 ∧ g.edges[j].1 ∈ g.nodes ∧ g.edges[j].2.1 ∈ g.nodes) := fun j hj hlt' => by
                  rcases Nat.lt_or_eq_of_le (Nat.le_of_lt_succ hlt') with h | h
                  · exact H.out j hj h
                  · subst h; rw [hu.out]; exact ⟨t1, t2, t3⟩
                clear t1 t2 t3
                go_wp2_with (go_at_call 17; refine (contall_any _ _ _ _ _ _ rfl (by omega) (hN _)).mono ?_; rintro e w' ⟨rfl, rfl⟩)
                go_roundw
                case rel => exact ⟨k + 1, by omega, by go_num, (hbo.out _).1, hnext.out⟩
                case measure => simp [intOf]; omega
              · have t3' : decide (v ∈ g.nodes) = false := decide_eq_false t3
                clear t1 t2 t3
                go_wp2_with (go_at_call 17; refine (contall_any _ _ _ _ _ _ rfl (by omega) (hN _)).mono ?_; rintro e w' ⟨rfl, rfl⟩)
                go_ret
                exact ⟨false, rfl, (by simp), (hbo.out _).2⟩
            · have t2' : decide (u ∈ g.nodes) = false := decide_eq_false t2
              clear t1 t2
              go_wp2_with (go_at_call 17; refine (contall_any _ _ _ _ _ _ rfl (by omega) (hN _)).mono ?_; rintro e w' ⟨rfl, rfl⟩)
              go_ret
              exact ⟨false, rfl, (by simp), (hbo.out _).2⟩
        · have hfin : Hid (FormedIs g) := ⟨hnodup.out, fun e he => by
            obtain ⟨j, hj, rfl⟩ := List.mem_iff_getElem.1 he
            exact H.out j hj (by omega)⟩
          clear hgr hN
          go_wp2_with fail
          go_ret
          exact ⟨true, rfl, fun _ => hfin.out, hbwh.out⟩
end Go.Proofs.YtpmphefmmcbpaaaGreat
