/- The definitions (spec): indexOf, barredTo, Weight, Joined, Nodes, From.
   The definitions (spec): From, Open; two rows of numbers that grow.
   The definitions (spec): Open. -/
import Derived.Test.YtpmphefmmcbpaaaGreatSpec0
import Derived.Test.YtpmphefmmcbpaaaGreatBase
import Derived.Deep.RegionLaw
import Derived.Deep.AppendLies
namespace Go.Proofs.YtpmphefmmcbpaaaGreat
open Go.RowKit

set_option maxHeartbeats 400000 in
theorem indexOf_any (a : Option Addr) (n cap : Nat) (zs : List Int) (x : Int) (w : World) (hl : n = zs.length) (hbig : zs.length ≤ 1048576) (hc : Cells w a (ints zs)) :
    Calls Tryz.prog 48 #[.slice a n cap, .int .i64 x] w fun e w' => e = .returned (.int .i64 (idxI zs x)) ∧ w = w' := by
  subst hl
  go_enter Tryz.func48, Tryz.ntmps48
  go_wp2
  go_loopw [5, 6, 9] (fun _ _ i wr => ∃ k : Nat, k ≤ zs.length ∧ i = .int .i64 k ∧ wr = w ∧ ∀ j (hj : j < zs.length), j < k → zs[j] ≠ x) (fun _ _ i _ => zs.length - (intOf i).toNat)
  case atStart => exact ⟨0, Nat.zero_le _, rfl, rfl, fun j _ hj => absurd hj (Nat.not_lt_zero _)⟩
  case round =>
    obtain ⟨k, hk, rfl, rfl, H0⟩ := hrel
    have H := Lib.hid H0
    clear H0
    by_cases hlt : k < zs.length
    · obtain ⟨b, off, rfl, _, hr⟩ := hc.at (by simp; omega)
      have hcell := ints_cell hr hlt
      clear hr hc
      by_cases he : zs[k] = x
      · have hfin : Hid (idxI zs x = k) := idxI_at hlt H.out he
        have he' : (zs[k] == x) = true := by simpa using he
        have he2 := Lib.hid he
        clear he
        go_wp2
        go_ret
        exact ⟨ret_int hfin.out.symm, rfl⟩
      · have hnext : Hid (∀ j (hj : j < zs.length), j < k + 1 → zs[j] ≠ x) := fun j hl hj => by
          rcases Nat.lt_or_eq_of_le (Nat.le_of_lt_succ hj) with h | h
          · exact H.out j hl h
          · subst h; exact he
        have he' : (zs[k] == x) = false := by simpa using he
        clear he
        go_wp2
        go_roundw
        case rel => exact ⟨k + 1, by omega, by go_num, by first | rfl | trivial, hnext.out⟩
        case measure => simp [intOf]; omega
    · have hfin : Hid (idxI zs x = -1) := idxI_none fun j hj => H.out j hj (by omega)
      go_wp2
      go_ret
      exact ⟨ret_int hfin.out.symm, rfl⟩

/-- Whether an edge is among those that are barred. -/
def barB (dir : Bool) (barred : List (Int × Int × Int)) (u v : Int) : Bool := barred.any fun e => decide (hits dir u v e)

set_option maxHeartbeats 2000000 in
theorem barred_any (g : Gr) (an : Option Addr) (nn cn : Nat) (ae : Option Addr) (ne ce : Nat) (u v : Int) (barred : List (Int × Int × Int)) (ab : Option Addr) (cb : Nat) (w : World) (hb : barred.length ≤ 1048576) (hc : Cells w ab (edgeCells barred)) :
    Calls Tryz.prog 50 #[.agg #[.bool g.dir, .slice an nn cn, .slice ae ne ce], .slice ab barred.length cb, .int .i64 u, .int .i64 v] w fun e w' => e = .returned (.bool (barB g.dir barred u v)) ∧ Below w.heap.size w w' := by
  obtain ⟨dir, nodes, edges⟩ := g
  simp only []
  have huv : u = v ∨ ((u == v) = false ∧ (v == u) = false) := by
    rcases Decidable.em (u = v) with h | h
    · exact .inl h
    · exact .inr ⟨by simpa using h, by simpa using fun e => h e.symm⟩
  go_enter Tryz.func50, Tryz.ntmps50
  go_wp2_with fail
  go_loopw [10, 13] (fun _ i wr => ∃ k : Nat, k ≤ barred.length ∧ i = .int .i64 k ∧ (∀ j (hj : j < barred.length), j < k → ¬ hits dir u v barred[j]) ∧
    Below (w.heap.size + 1) (w.alloc (.cells #[.bool dir, .slice an nn cn, .slice ae ne ce] 25)) wr) (fun _ i _ => barred.length - (intOf i).toNat)
  case atStart => exact ⟨0, Nat.zero_le _, rfl, fun j _ hj => absurd hj (Nat.not_lt_zero _), Below.refl _ _⟩
  case round =>
    obtain ⟨k, hk, rfl, H0, hbr⟩ := hrel
    have H := Lib.hid H0
    have hzr : w.heap.size + 1 ≤ wr.heap.size := by have := hbr.size; simpa using this
    have k0 : wr.cell? ⟨w.heap.size, 0, none⟩ = some (.bool dir) := by rw [hbr.cell (by simp)]; simp
    have m0 : ∀ o, (wr.alloc o).cell? ⟨w.heap.size, 0, none⟩ = some (.bool dir) := fun o => cell_alloc k0 o
    have hb0 : Below w.heap.size w wr := (alloc_below w _).trans (hbr.mono (by simp))
    have hgr := hc.below hb0
    clear H0
    by_cases hlt : k < barred.length
    · obtain ⟨b, off, rfl, hbl, hr⟩ := hgr.at (by rw [edgeCells_length]; omega)
      obtain ⟨e1, e2, e3⟩ := edge_cells hr hlt
      clear hr hgr hc
      obtain ⟨a, b', x, hux⟩ : ∃ a b' x, barred[k] = (a, b', x) := ⟨_, _, _, rfl⟩
      rw [hux] at e1 e2 e3
      have hu := Lib.hid hux
      clear hux
      simp only [] at e1 e2 e3
      by_cases hh : hits dir u v (a, b', x)
      · have hfin : Hid (barB dir barred u v = true) := List.any_eq_true.2 ⟨barred[k], List.getElem_mem hlt, by rw [hu.out]; exact decide_eq_true hh⟩
        have hh' := Lib.hid hh
        clear hh
        cases dir
        all_goals rcases huv with rfl | ⟨huv1, huv2⟩
        all_goals
          go_wp2
          all_goals first
            | (go_ret; exact ⟨ret_bool hfin.out.symm, hb0.alloc (by omega) _⟩)
            | (exfalso; have := hh'.out; simp only [hits] at this; simp_all; done)
            | (exfalso; have := hh'.out; simp only [hits] at this; omega)
      · have hnext : Hid (∀ j (hj : j < barred.length), j < k + 1 → ¬ hits dir u v barred[j]) := fun j hj hlt' => by
          rcases Nat.lt_or_eq_of_le (Nat.le_of_lt_succ hlt') with h | h
          · exact H.out j hj h
          · subst h; rw [hu.out]; exact hh
        have hh' := Lib.hid hh
        clear hh
        cases dir
        all_goals rcases huv with rfl | ⟨huv1, huv2⟩
        all_goals
          go_wp2
          all_goals first
            | (go_roundw
               case rel => exact ⟨k + 1, by omega, by go_num, hnext.out, hbr.alloc (by omega) _⟩
               case measure => simp [intOf]; omega)
            | (exfalso; have := hh'.out; simp only [hits] at this; simp_all; done)
            | (exfalso; have := hh'.out; simp only [hits] at this; omega)
    · have hfin : Hid (barB dir barred u v = false) := List.any_eq_false.2 fun e he => by
        obtain ⟨j, hj, rfl⟩ := List.mem_iff_getElem.1 he
        simpa using H.out j hj (by omega)
      go_wp2
      go_ret
      exact ⟨ret_bool hfin.out.symm, hb0⟩

def WeightPost (w : World) (g : Gr) (u v : Int) (e : Ending) (w' : World) : Prop := ∃ x : Int, e = .returned (.tuple #[.int .i64 x, .bool (arcB g u v)]) ∧ Below w.heap.size w w'

set_option maxHeartbeats 2000000 in
theorem weight_any (g : Gr) (an : Option Addr) (cn : Nat) (ae : Option Addr) (ce : Nat) (u v : Int) (w : World) (he : g.edges.length ≤ 1048576) (hg : GrAt w g an cn ae) :
    Calls Tryz.prog 115 #[.agg #[.bool g.dir, .slice an g.nodes.length cn, .slice ae g.edges.length ce], .int .i64 u, .int .i64 v] w (WeightPost w g u v) := by
  obtain ⟨dir, nodes, edges⟩ := g
  simp only [] at he ⊢
  have huv : u = v ∨ ((u == v) = false ∧ (v == u) = false) := by
    rcases Decidable.em (u = v) with h | h
    · exact .inl h
    · exact .inr ⟨by simpa using h, by simpa using fun e => h e.symm⟩
  go_enter Tryz.func115, Tryz.ntmps115
  go_wp2_with fail
  go_loopw [6, 7, 9, 13] (fun s6 s7 _ i wr => ∃ (k : Nat) (x : Int), k ≤ edges.length ∧ i = .int .i64 k ∧ s6 = .int .i64 x ∧ s7 = .bool ((edges.take k).any fun e => decide (hits dir u v e)) ∧
    Below (w.heap.size + 1) (w.alloc (.cells #[.bool dir, .slice an nodes.length cn, .slice ae edges.length ce] 25)) wr) (fun _ _ _ i _ => edges.length - (intOf i).toNat)
  case atStart => exact ⟨0, 0, Nat.zero_le _, rfl, rfl, rfl, Below.refl _ _⟩
  case round =>
    obtain ⟨k, x6, hk, rfl, rfl, rfl, hbr⟩ := hrel
    have hzr : w.heap.size + 1 ≤ wr.heap.size := by have := hbr.size; simpa using this
    have k0 : wr.cell? ⟨w.heap.size, 0, none⟩ = some (.bool dir) := by rw [hbr.cell (by simp)]; simp
    have k2 : wr.cell? ⟨w.heap.size, 2, none⟩ = some (.slice ae edges.length ce) := by rw [hbr.cell (by simp)]; simp
    have m0 : ∀ o, (wr.alloc o).cell? ⟨w.heap.size, 0, none⟩ = some (.bool dir) := fun o => cell_alloc k0 o
    have hb0 : Below w.heap.size w wr := (alloc_below w _).trans (hbr.mono (by simp))
    have hgr := hg.below hb0
    obtain ⟨s, hs⟩ : ∃ s, s = (edges.take k).any fun e => decide (hits dir u v e) := ⟨_, rfl⟩
    rw [← hs]
    have hsh := Lib.hid hs
    clear hs
    by_cases hlt : k < edges.length
    · obtain ⟨b, off, rfl, hbl, hr⟩ := hgr.edges.at (by rw [edgeCells_length]; show 0 < edges.length * 3; omega)
      obtain ⟨e1, e2, e3⟩ := edge_cells hr hlt
      clear hr hgr hg
      obtain ⟨a, b', x, hux⟩ : ∃ a b' x, edges[k] = (a, b', x) := ⟨_, _, _, rfl⟩
      rw [hux] at e1 e2 e3
      have htk : Hid (((edges.take (k + 1)).any fun e => decide (hits dir u v e)) = (s || decide (hits dir u v (a, b', x)))) := by
        unfold Hid
        rw [List.take_succ_eq_append_getElem hlt, List.any_append, ← hsh.out, hux]
        simp
      have hu := Lib.hid hux
      clear hux
      simp only [] at e1 e2 e3
      by_cases hh : hits dir u v (a, b', x)
      · have hfin : Hid (true = (edges.take (k + 1)).any fun e => decide (hits dir u v e)) := by unfold Hid; rw [htk.out, decide_eq_true hh]; simp
        have hh' := Lib.hid hh
        clear hh htk hsh
        cases dir
        all_goals rcases huv with rfl | ⟨huv1, huv2⟩
        all_goals
          go_wp2
          all_goals first
            | (go_roundw
               case rel => exact ⟨k + 1, x, by omega, by go_num, rfl, congrArg _ hfin.out, hbr.alloc (by omega) _⟩
               case measure => simp [intOf]; omega)
            | (exfalso; have := hh'.out; simp only [hits] at this; simp_all; done)
            | (exfalso; have := hh'.out; simp only [hits] at this; omega)
      · have hfin : Hid (s = (edges.take (k + 1)).any fun e => decide (hits dir u v e)) := by unfold Hid; rw [htk.out, decide_eq_false hh]; simp
        have hh' := Lib.hid hh
        clear hh htk hsh
        cases dir
        all_goals rcases huv with rfl | ⟨huv1, huv2⟩
        all_goals
          go_wp2
          all_goals first
            | (go_roundw
               case rel => exact ⟨k + 1, x6, by omega, by go_num, rfl, congrArg _ hfin.out, hbr.alloc (by omega) _⟩
               case measure => simp [intOf]; omega)
            | (exfalso; have := hh'.out; simp only [hits] at this; simp_all; done)
            | (exfalso; have := hh'.out; simp only [hits] at this; omega)
    · have hfin : Hid (s = arcB ⟨dir, nodes, edges⟩ u v) := by
        have := hsh.out
        rw [List.take_of_length_le (by omega)] at this
        exact this
      clear hsh
      go_wp2
      go_ret2
      exact ⟨x6, by rw [← hfin.out]; rfl, hb0⟩

theorem joined_any (g : Gr) (an : Option Addr) (cn : Nat) (ae : Option Addr) (ce : Nat) (u v : Int) (w : World) (he : g.edges.length ≤ 1048576) (hg : GrAt w g an cn ae) :
    Calls Tryz.prog 83 #[.agg #[.bool g.dir, .slice an g.nodes.length cn, .slice ae g.edges.length ce], .int .i64 u, .int .i64 v] w fun e w' => e = .returned (.bool (arcB g u v)) ∧ Below w.heap.size w w' := by
  have hw := Lib.hid (weight_any g an cn ae ce u v (w.alloc (.cells #[.bool g.dir, .slice an g.nodes.length cn, .slice ae g.edges.length ce] 25)) he (hg.below (alloc_below w _)))
  clear hg
  go_enter Tryz.func83, Tryz.ntmps83
  go_wp2_with fail
  refine (unhide hw).mono ?_
  rintro e w1 ⟨x, rfl, hb⟩
  have hb0 := Lib.hid ((alloc_below w (.cells #[.bool g.dir, .slice an g.nodes.length cn, .slice ae g.edges.length ce] 25)).trans (hb.mono (by simp)))
  clear hb
  go_wp2_with fail
  go_ret
  exact ⟨rfl, hb0.out⟩

theorem specNodes_any (g : Gr) (an : Option Addr) (cn : Nat) (ae : Option Addr) (ne ce : Nat) (w : World) (hn : g.nodes.length ≤ 1000000) (hc : Cells w an (ints g.nodes)) :
    Calls Tryz.prog 49 #[.agg #[.bool g.dir, .slice an g.nodes.length cn, .slice ae ne ce]] w fun e w' => ∃ a1 c1, e = .returned (.slice a1 g.nodes.length c1) ∧ w'.ownsRow w.heap.size 3 1 (.slice a1 g.nodes.length c1) g.nodes.length (ints (asc g.nodes)) ∧ Below w.heap.size w w' := by
  have hs := Lib.hid (sortInts_any an g.nodes.length cn g.nodes (w.alloc (.cells #[.bool g.dir, .slice an g.nodes.length cn, .slice ae ne ce] 25)) rfl hn (hc.alloc _))
  go_enter Tryz.func49, Tryz.ntmps49
  go_wp2_with fail
  refine (unhide hs).mono ?_
  rintro e w1 ⟨a1, c1, rfl, hown, hb⟩
  have hb0 := Lib.hid ((alloc_below w (.cells #[.bool g.dir, .slice an g.nodes.length cn, .slice ae ne ce] 25)).trans (hb.mono (by simp)))
  have hownh := Lib.hid (owns_base hown (by simp : w.heap.size ≤ (w.alloc (.cells #[.bool g.dir, .slice an g.nodes.length cn, .slice ae ne ce] 25)).heap.size))
  clear hb hown
  go_wp2_with fail
  go_ret
  exact ⟨a1, c1, rfl, hownh.out, hb0.out⟩
end Go.Proofs.YtpmphefmmcbpaaaGreat

namespace Go.Proofs.YtpmphefmmcbpaaaGreat
open Go.RowKit

/-- The nodes to which edges lead. -/
def sFrom (g : Gr) (u : Int) : List Int := (asc g.nodes).filter fun v => arcB g u v

def FromSPost (w : World) (l : List Int) (e : Ending) (w' : World) : Prop := ∃ (a : Option Addr) (c : Nat), e = .returned (.slice a l.length c) ∧ w'.ownsRow w.heap.size 3 1 (.slice a l.length c) l.length (ints l) ∧ Below w.heap.size w w'

set_option maxHeartbeats 2000000 in
theorem specFrom_any (g : Gr) (an : Option Addr) (cn : Nat) (ae : Option Addr) (ce : Nat) (u : Int) (w : World) (hn : g.nodes.length ≤ 1000) (he : g.edges.length ≤ 1048576) (hg : GrAt w g an cn ae) :
    Calls Tryz.prog 47 #[.agg #[.bool g.dir, .slice an g.nodes.length cn, .slice ae g.edges.length ce], .int .i64 u] w (FromSPost w (sFrom g u)) := by
  obtain ⟨w1, hw1⟩ : ∃ w1, w1 = w.alloc (.cells #[.bool g.dir, .slice an g.nodes.length cn, .slice ae g.edges.length ce] 25) := ⟨_, rfl⟩
  have hb1 : Below w.heap.size w w1 := by rw [hw1]; exact alloc_below w _
  have hz1 : w1.heap.size = w.heap.size + 1 := by rw [hw1]; simp
  have k0 : w1.cell? ⟨w.heap.size, 0, none⟩ = some (.bool g.dir) := by rw [hw1]; simp
  have k1 : w1.cell? ⟨w.heap.size, 1, none⟩ = some (.slice an g.nodes.length cn) := by rw [hw1]; simp
  have k2 : w1.cell? ⟨w.heap.size, 2, none⟩ = some (.slice ae g.edges.length ce) := by rw [hw1]; simp
  have hK : Hid (∀ wr, Below w1.heap.size w1 wr → (Below w.heap.size w wr ∧ GrAt wr g an cn ae) ∧ wr.cell? ⟨w.heap.size, 0, none⟩ = some (.bool g.dir) ∧ wr.cell? ⟨w.heap.size, 1, none⟩ = some (.slice an g.nodes.length cn) ∧ wr.cell? ⟨w.heap.size, 2, none⟩ = some (.slice ae g.edges.length ce)) :=
    fun wr h => ⟨⟨hb1.trans (h.mono (by omega)), (hg.below hb1).below h⟩, cell_below h k0, cell_below h k1, cell_below h k2⟩
  have hns := Lib.hid (specNodes_any g an cn ae g.edges.length ce w1 (by omega) (hg.below hb1).nodes)
  rw [hw1] at hns
  have hw1h := Lib.hid hw1
  clear hg hb1 hw1 k0 k1 k2
  go_enter Tryz.func47, Tryz.ntmps47
  go_wp2_with fail
  refine (unhide hns).mono ?_
  rintro e w2 ⟨a1, c1, rfl, hown2, hb2⟩
  rw [← hw1h.out] at hown2 hb2
  have hal := asc_length g.nodes
  obtain ⟨ids, hids⟩ : ∃ ids, ids = asc g.nodes := ⟨_, rfl⟩
  obtain ⟨n, hnn⟩ : ∃ n, n = g.nodes.length := ⟨_, rfl⟩
  rw [← hids] at hown2 hal
  rw [← hnn] at hown2 hal hn
  obtain ⟨ax, cx, ex, _, hcx, _⟩ := owns_cells hown2
  injection ex with ex1 _ ex2
  subst ex1; subst ex2
  have hz2 := hb2.size
  have hb2h := Lib.hid hb2
  have hcxh := Lib.hid hcx
  have hidsh := Lib.hid hids
  have hnnh := Lib.hid hnn
  clear hown2 hcx hb2 hns hids hnn
  rw [← hnnh.out]
  go_wp2_with fail
  go_loopw [5, 7, 11] (fun s _ iv wr => ∃ (k m : Nat) (b : Option Addr) (cb : Nat), k ≤ n ∧ iv = .int .i64 k ∧ s = .slice b m cb ∧ m = ((ids.take k).filter fun v => arcB g u v).length ∧ m ≤ k ∧ wr.ownsRow w2.heap.size 3 1 (.slice b m cb) m (ints ((ids.take k).filter fun v => arcB g u v)) ∧ Below w2.heap.size w2 wr) (fun _ _ iv _ => n - (intOf iv).toNat)
  case atStart => exact ⟨0, 0, none, 0, Nat.zero_le _, rfl, rfl, rfl, Nat.le_refl _, World.ownsRow_nil _ _ _ _, Below.refl _ _⟩
  case round =>
    obtain ⟨k, m, b, cb, hk, rfl, rfl, hm, hmk, hown, hb⟩ := hrel
    have hbr := hb2h.out.trans (hb.mono hz2)
    obtain ⟨⟨hbw, hgr⟩, d0, d1, d2⟩ := hK.out wr hbr
    by_cases hlt : k < n
    · have hlt' : k < ids.length := by omega
      obtain ⟨nb, no, rfl, _, hr⟩ := (hcxh.out.below hb).at (by rw [ints_length]; omega)
      have hnd := hr _ _ (ints_get ids k hlt')
      obtain ⟨x, hx⟩ : ∃ x, x = ids[k] := ⟨_, rfl⟩
      rw [← hx] at hnd
      have hj := Lib.hid (joined_any g an cn ae ce u x wr he hgr)
      have htk : ids.take (k + 1) = ids.take k ++ [x] := by rw [List.take_succ_eq_append_getElem hlt', ← hx]
      have hmh := Lib.hid hm
      have hownh := Lib.hid hown
      have hbh := Lib.hid hb
      obtain ⟨q, hq⟩ : ∃ q, q = arcB g u x := ⟨_, rfl⟩
      rw [← hq] at hj
      have hqh := Lib.hid hq
      have htkh := Lib.hid htk
      clear hx hr hgr hbw hbr hm hown hb hq htk
      rw [← hnnh.out] at d1 hj
      go_wp2_with fail
      refine (unhide hj).mono ?_
      rintro e w3 ⟨rfl, hb3⟩
      have hown3 : w3.ownsRow w2.heap.size 3 1 (.slice b m cb) m (ints ((ids.take k).filter fun v => arcB g u v)) := owns_same hownh.out fun j hj => hb3.block j (hownh.out.lt j hj).2
      have hb3' := hbh.out.trans (hb3.mono hbh.out.size)
      cases q
      · have hfin : Hid (m = ((ids.take (k + 1)).filter fun v => arcB g u v).length ∧ w3.ownsRow w2.heap.size 3 1 (.slice b m cb) m (ints ((ids.take (k + 1)).filter fun v => arcB g u v)) ∧ Below w2.heap.size w2 w3) := by
          have e : ((ids.take (k + 1)).filter fun v => arcB g u v) = (ids.take k).filter fun v => arcB g u v := by
            rw [htkh.out, List.filter_append, List.filter_cons_of_neg (by rw [← hqh.out]; simp), List.filter_nil, List.append_nil]
          unfold Hid
          rw [e]
          exact ⟨hmh.out, hown3, hb3'⟩
        clear hown3 hb3' hb3 hj
        go_wp2_with fail
        go_roundw
        case rel => exact ⟨k + 1, m, b, cb, by omega, by go_num, rfl, hfin.out.1, by omega, hfin.out.2.1, hfin.out.2.2⟩
        case measure => simp [intOf]; omega
      · have e : ((ids.take (k + 1)).filter fun v => arcB g u v) = ((ids.take k).filter fun v => arcB g u v) ++ [x] := by
          rw [htkh.out, List.filter_append, List.filter_cons_of_pos (by rw [← hqh.out]), List.filter_nil]
        have ho := Lib.hid (fun o => hown3.alloc o)
        have hBs := hb3'.size
        have hfin := Lib.hid (fun o b2 c2 w4 (h2 : w4.ownsRow w2.heap.size 3 1 (.slice b2 (m + 1) c2) (m + 1) (ints ((ids.take k).filter fun v => arcB g u v) ++ [.int .i64 x])) (hg : (w3.alloc o).grownBy w4 (Value.slice b m cb).ownBlock) =>
          show m + 1 = ((ids.take (k + 1)).filter fun v => arcB g u v).length ∧ w4.ownsRow w2.heap.size 3 1 (.slice b2 (m + 1) c2) (m + 1) (ints ((ids.take (k + 1)).filter fun v => arcB g u v)) ∧ Below w2.heap.size w2 w4 from
            ⟨by rw [e, List.length_append, ← hmh.out]; rfl, by rw [e]; unfold ints at h2 ⊢; rw [List.map_append]; exact h2, (hb3'.alloc hBs o).grown hg (by simp; omega) (fun j e => (hownh.out.lt j e).1)⟩)
        clear hown3 hb3' hb3 hj e
        go_wp2_with (at_builtin; refine append_law 22 3 (.int .i64 0) 1 8 Tryz.underlying22 info_int rfl (by omega) (by omega) rfl _ _ rfl w2.heap.size b m cb (ints ((ids.take k).filter fun v => arcB g u v)) rfl (unhide ho _) ⟨w3.heap.size, 0, none⟩ 1 1 [.int .i64 x] rfl rfl (new_one w3 _ _) (one_int _) (by omega) (by simp; omega) ?_; intro b2 c2 w4 hown4 hg4 hat4; have hf := Lib.hid (unhide hfin _ _ _ _ hown4 hg4); clear hown4 hg4 hat4)
        go_roundw
        case rel => exact ⟨k + 1, m + 1, b2, c2, by omega, by go_num, rfl, hf.out.1, by omega, hf.out.2.1, hf.out.2.2⟩
        case measure => simp [intOf]; omega
    · have hkn : k = n := by omega
      subst hkn
      have hl : ids.take k = ids := List.take_of_length_le (by omega)
      rw [hl] at hown hm
      have hfin : Hid (FromSPost w (sFrom g u) (.returned (.slice b m cb)) wr) := by
        have e : sFrom g u = ids.filter fun v => arcB g u v := by rw [hidsh.out]; rfl
        unfold Hid
        rw [e]
        rw [hm] at hown
        refine ⟨b, cb, by rw [hm], owns_base hown ?_, hbw⟩
        have := hb2h.out.size
        omega
      clear hown hb hbr hbw hgr
      go_wp2_with fail
      go_ret
      exact hfin.out
end Go.Proofs.YtpmphefmmcbpaaaGreat

namespace Go.Proofs.YtpmphefmmcbpaaaGreat
open Go.RowKit

theorem einfo : (Tryz.prog.info? 61).map (fun i => (i.zero, i.size, i.bytes)) = some (some (.agg #[.int .i64 0, .int .i64 0, .int .i64 0]), 3, 24) := by kernel_rfl
theorem enew (w : World) (x y z : Value) (e : TypeId) : ∀ (j : Nat) u, [x, y, z][j]? = some u → (w.alloc (.cells #[x, y, z] e)).cell? ((⟨w.heap.size, 0, none⟩ : Addr).add j) = some u := by
  intro j u hj
  rw [Addr.add_mid, Nat.zero_add]
  rcases j with _ | _ | _ | j
  · simp at hj; subst hj; unfold World.cell?; rw [heap_alloc_new]; rfl
  · simp at hj; subst hj; unfold World.cell?; rw [heap_alloc_new]; rfl
  · simp at hj; subst hj; unfold World.cell?; rw [heap_alloc_new]; rfl
  · simp at hj
theorem eone (x y z : Int) : ∀ u ∈ [Value.int .i64 x, Value.int .i64 y, Value.int .i64 z], u.oneCell' = true := by
  intro u hu
  simp at hu
  rcases hu with rfl | rfl | rfl <;> rfl

/-- The edges that are not barred. -/
def openEs (g : Gr) (barred : List (Int × Int × Int)) (l : List (Int × Int × Int)) : List (Int × Int × Int) := l.filter fun e => !barB g.dir barred e.1 e.2.1
/-- The graph without the edges that are barred. -/
def openG (g : Gr) (barred : List (Int × Int × Int)) : Gr := ⟨g.dir, g.nodes, openEs g barred g.edges⟩

/-- What Open gives. -/
def OpenSPost (w : World) (g : Gr) (barred : List (Int × Int × Int)) (an : Option Addr) (cn : Nat) (e : Ending) (w' : World) : Prop :=
  ∃ (ae : Option Addr) (ce : Nat), e = .returned (.agg #[.bool g.dir, .slice an g.nodes.length cn, .slice ae (openG g barred).edges.length ce]) ∧ GrAt w' (openG g barred) an cn ae ∧ Below w.heap.size w w'

/-- The graph in the making: block ob. -/
structure OG (w0 w : World) (ob : Nat) (dir : Bool) (vn : Value) (es : List (Int × Int × Int)) (v : Value) : Prop where
  blk : w.heap[ob]? = some (.cells #[.bool dir, vn, v] 25 (0, 0))
  e : w.ownsRow (ob + 1) 61 3 v es.length (edgeCells es)
  below : Below ob w0 w

section
variable {w0 w w1 : World} {ob n c c1 : Nat} {dir : Bool} {vn : Value} {es : List (Int × Int × Int)} {b b1 : Option Addr} {o : Obj}

theorem OG.at2 {v : Value} (h : OG w0 w ob dir vn es v) : w.cell? ⟨ob, 2, none⟩ = some v := by have := h.blk; simp [World.cell?, this]
theorem OG.keep {v : Value} (h : OG w0 w ob dir vn es v) (hb : Below w.heap.size w w1) : OG w0 w1 ob dir vn es v :=
  ⟨(hb.block ob (lt_of_block h.blk)).trans h.blk, owns_same h.e fun j hj => hb.block j (h.e.lt j hj).2, h.below.trans (hb.mono (by have := lt_of_block h.blk; omega))⟩

theorem OG.add {x : Int × Int × Int} (h : OG w0 w ob dir vn es (.slice b n c)) (hn : n = es.length) (hg : (w.alloc o).grownBy w1 (Value.slice b n c).ownBlock)
    (ho : w1.ownsRow (ob + 1) 61 3 (.slice b1 (n + 1) c1) (n + 1) (edgeCells es ++ [.int .i64 x.1, .int .i64 x.2.1, .int .i64 x.2.2])) :
    w1.cell? ⟨ob, 2, none⟩ = some (.slice b n c) ∧ w1.frozen? ⟨ob, 2, none⟩ = false ∧ Hid (OG w0 (w1.setCell ⟨ob, 2, none⟩ (.slice b1 (n + 1) c1)) ob dir vn (es ++ [x]) (.slice b1 (n + 1) c1)) := by
  subst hn
  have hz : (w.alloc o).heap.size = w.heap.size + 1 := by simp
  have hbl := lt_of_block h.blk
  have hk : ∀ j, j < w.heap.size → (Value.slice b es.length c).ownBlock ≠ some j → w1.heap[j]? = w.heap[j]? := fun j hj hn => by
    rw [hg.block j (by omega) (fun e => hn e.symm), Below.heap_alloc _ _ _ hj]
  have hb1 := (hk ob hbl fun e => by have := (h.e.lt ob e).1; omega).trans h.blk
  have hset : ∀ j, j ≠ ob → (w1.setCell ⟨ob, 2, none⟩ (.slice b1 (es.length + 1) c1)).heap[j]? = w1.heap[j]? := fun j hj => Below.heap_setCell _ _ _ _ hj
  refine ⟨by simp [World.cell?, hb1], by simp [World.frozen?, hb1], (heap_set_self hb1 2 _).trans rfl, ?_, ?_⟩
  · have e1 : (es ++ [x]).length = es.length + 1 := by simp
    have e2 : edgeCells (es ++ [x]) = edgeCells es ++ [.int .i64 x.1, .int .i64 x.2.1, .int .i64 x.2.2] := by simp [edgeCells]
    rw [e1, e2]
    exact owns_same ho fun j hj => hset j (by have := (ho.lt j hj).1; omega)
  · have hb : Below ob w0 w1 := (h.below.alloc (by omega) o).grown hg (by simp; omega) (fun j e => by have := (h.e.lt j e).1; omega)
    exact hb.setCell (by show ob ≤ ob; omega) _
end

theorem ebox3 {w : World} {q : Nat} {a b c : Value} {ty : TypeId} (h : w.heap[q]? = some (.cells #[a, b, c] ty (0, 0))) (u v z : Value) :
    w.cell? ⟨q, 0, none⟩ = some a ∧ w.frozen? ⟨q, 0, none⟩ = false ∧ (w.setCell ⟨q, 0, none⟩ u).cell? ⟨q, 1, none⟩ = some b ∧ (w.setCell ⟨q, 0, none⟩ u).frozen? ⟨q, 1, none⟩ = false ∧
    ((w.setCell ⟨q, 0, none⟩ u).setCell ⟨q, 1, none⟩ v).cell? ⟨q, 2, none⟩ = some c ∧ ((w.setCell ⟨q, 0, none⟩ u).setCell ⟨q, 1, none⟩ v).frozen? ⟨q, 2, none⟩ = false ∧
    (((w.setCell ⟨q, 0, none⟩ u).setCell ⟨q, 1, none⟩ v).setCell ⟨q, 2, none⟩ z).cell? ⟨q, 0, none⟩ = some u ∧ (((w.setCell ⟨q, 0, none⟩ u).setCell ⟨q, 1, none⟩ v).setCell ⟨q, 2, none⟩ z).cell? ⟨q, 1, none⟩ = some v ∧
    (((w.setCell ⟨q, 0, none⟩ u).setCell ⟨q, 1, none⟩ v).setCell ⟨q, 2, none⟩ z).cell? ⟨q, 2, none⟩ = some z := by
  have h1 : (w.setCell ⟨q, 0, none⟩ u).heap[q]? = some (.cells #[u, b, c] ty (0, 0)) := (heap_set_self h 0 _).trans rfl
  have h2 : ((w.setCell ⟨q, 0, none⟩ u).setCell ⟨q, 1, none⟩ v).heap[q]? = some (.cells #[u, v, c] ty (0, 0)) := (heap_set_self h1 1 _).trans rfl
  have h3 : (((w.setCell ⟨q, 0, none⟩ u).setCell ⟨q, 1, none⟩ v).setCell ⟨q, 2, none⟩ z).heap[q]? = some (.cells #[u, v, z] ty (0, 0)) := (heap_set_self h2 2 _).trans rfl
  refine ⟨by simp [World.cell?, h], by simp [World.frozen?, h], by simp [World.cell?, h1], by simp [World.frozen?, h1], by simp [World.cell?, h2], by simp [World.frozen?, h2], by simp [World.cell?, h3], by simp [World.cell?, h3], by simp [World.cell?, h3]⟩

set_option maxRecDepth 100000 in
set_option maxHeartbeats 4000000 in
theorem openS_any (g : Gr) (an : Option Addr) (cn : Nat) (ae : Option Addr) (ce : Nat) (barred : List (Int × Int × Int)) (ab : Option Addr) (cb : Nat) (w : World) (he : g.edges.length ≤ 1048576) (hg : GrAt w g an cn ae) (hbl : barred.length ≤ 1048576) (hbc : Cells w ab (edgeCells barred)) :
    Calls Tryz.prog 15 #[.agg #[.bool g.dir, .slice an g.nodes.length cn, .slice ae g.edges.length ce], .slice ab barred.length cb] w (OpenSPost w g barred an cn) := by
  obtain ⟨vn, hvn⟩ : ∃ vn, vn = Value.slice an g.nodes.length cn := ⟨_, rfl⟩
  obtain ⟨w2, hw2⟩ : ∃ w2, w2 = (w.alloc (.cells #[.bool g.dir, .slice an g.nodes.length cn, .slice ae g.edges.length ce] 25)).alloc (.cells #[.bool false, .slice none 0 0, .slice none 0 0] 25) := ⟨_, rfl⟩
  obtain ⟨w3, hw3⟩ : ∃ w3, w3 = w2.alloc (.cells #[.bool g.dir, .slice an g.nodes.length cn, .slice none 0 0] 25) := ⟨_, rfl⟩
  have z2 : w2.heap.size = w.heap.size + 1 + 1 := by rw [hw2]; simp
  have b2 : Below w.heap.size w w2 := by rw [hw2]; exact (alloc_below w _).trans ((alloc_below _ _).mono (by simp))
  have k0 : w2.cell? ⟨w.heap.size, 0, none⟩ = some (.bool g.dir) := by rw [hw2, Below.cell (alloc_below _ _) (by simp)]; simp
  have k1 : w2.cell? ⟨w.heap.size, 1, none⟩ = some vn := by rw [hw2, Below.cell (alloc_below _ _) (by simp), hvn]; simp
  have k2 : w2.cell? ⟨w.heap.size, 2, none⟩ = some (.slice ae g.edges.length ce) := by rw [hw2, Below.cell (alloc_below _ _) (by simp)]; simp
  have kz : w2.heap[w.heap.size + 1]? = some (.cells #[.bool false, .slice none 0 0, .slice none 0 0] 25 (0, 0)) := by
    have := heap_alloc_new (w.alloc (.cells #[.bool g.dir, .slice an g.nodes.length cn, .slice ae g.edges.length ce] 25)) (.cells #[.bool false, .slice none 0 0, .slice none 0 0] 25)
    rw [← hw2, show (w.alloc (.cells #[.bool g.dir, .slice an g.nodes.length cn, .slice ae g.edges.length ce] 25)).heap.size = w.heap.size + 1 by simp] at this
    exact this
  have hO3 : OG w2 w3 (w.heap.size + 1 + 1) g.dir vn [] (.slice none 0 0) := by
    refine ⟨?_, World.ownsRow_nil _ _ _ _, ?_⟩
    · have := heap_alloc_new w2 (.cells #[.bool g.dir, .slice an g.nodes.length cn, .slice none 0 0] 25)
      rw [← hw3, z2] at this
      rw [hvn]
      exact this
    · rw [hw3, ← z2]; exact alloc_below _ _
  have hK : Hid (∀ wr, Below (w.heap.size + 1 + 1) w2 wr → (Below w.heap.size w wr ∧ GrAt wr g an cn ae ∧ Cells wr ab (edgeCells barred)) ∧ wr.cell? ⟨w.heap.size, 0, none⟩ = some (.bool g.dir) ∧ wr.cell? ⟨w.heap.size, 1, none⟩ = some vn ∧ wr.cell? ⟨w.heap.size, 2, none⟩ = some (.slice ae g.edges.length ce) ∧ wr.heap[w.heap.size + 1]? = some (.cells #[.bool false, .slice none 0 0, .slice none 0 0] 25 (0, 0))) :=
    fun wr h => by
      have h' : Below w2.heap.size w2 wr := h.mono (by omega)
      have hbw := b2.trans (h.mono (by omega))
      exact ⟨⟨hbw, hg.below hbw, hbc.below hbw⟩, cell_below h' k0, cell_below h' k1, cell_below h' k2, (h.block _ (by omega)).trans kz⟩
  have hO3h := Lib.hid hO3
  have hgnh := Lib.hid hg.nodes
  have hw3h : Hid (w3 = (((w.alloc (.cells #[.bool g.dir, .slice an g.nodes.length cn, .slice ae g.edges.length ce] 25)).alloc (.cells #[.bool false, .slice none 0 0, .slice none 0 0] 25)).alloc (.cells #[.bool g.dir, .slice an g.nodes.length cn, .slice none 0 0] 25))) := by
    unfold Hid; rw [hw3, hw2]
  have hvnh := Lib.hid hvn
  clear hw2 hw3 k0 k1 k2 kz hO3 hg hbc b2 hvn
  go_enter Tryz.func15, Tryz.ntmps15
  go_wp2_with fail
  rw [← hw3h.out]
  go_loopw [7, 13] (fun _ iv wr => ∃ (k m : Nat) (b : Option Addr) (c2 : Nat), k ≤ g.edges.length ∧ iv = .int .i64 k ∧ m = (openEs g barred (g.edges.take k)).length ∧ m ≤ k ∧ OG w2 wr (w.heap.size + 1 + 1) g.dir vn (openEs g barred (g.edges.take k)) (.slice b m c2)) (fun _ iv _ => g.edges.length - (intOf iv).toNat)
  case atStart => exact ⟨0, 0, none, 0, Nat.zero_le _, rfl, rfl, Nat.le_refl _, hO3h.out⟩
  case round =>
    obtain ⟨k, m, b, c2, hk, rfl, hm, hmk, hO⟩ := hrel
    obtain ⟨⟨hbw, hgr, hbr⟩, d0, d1, d2, dz⟩ := hK.out wr hO.below
    have hmh := Lib.hid hm
    have hOh := Lib.hid hO
    clear hm hO
    by_cases hlt : k < g.edges.length
    · obtain ⟨eb, eo, rfl, _, hr⟩ := hgr.edges.at (by rw [edgeCells_length]; omega)
      obtain ⟨e1, e2, e3⟩ := edge_cells hr hlt
      obtain ⟨x, hx⟩ : ∃ x, x = g.edges[k] := ⟨_, rfl⟩
      rw [← hx] at e1 e2 e3
      have htk : g.edges.take (k + 1) = g.edges.take k ++ [x] := by rw [List.take_succ_eq_append_getElem hlt, ← hx]
      obtain ⟨w4, hw4⟩ : ∃ w4, w4 = wr.alloc (.cells #[.int .i64 x.1, .int .i64 x.2.1, .int .i64 x.2.2] 61) := ⟨_, rfl⟩
      have b4 : Below wr.heap.size wr w4 := by rw [hw4]; exact alloc_below _ _
      have l0 : w4.cell? ⟨wr.heap.size, 0, none⟩ = some (.int .i64 x.1) := by rw [hw4]; simp
      have l1 : w4.cell? ⟨wr.heap.size, 1, none⟩ = some (.int .i64 x.2.1) := by rw [hw4]; simp
      have l2 : w4.cell? ⟨wr.heap.size, 2, none⟩ = some (.int .i64 x.2.2) := by rw [hw4]; simp
      have hbar := Lib.hid (barred_any g an g.nodes.length cn (some ⟨eb, eo, none⟩) g.edges.length ce x.1 x.2.1 barred ab cb w4 hbl (hbr.below b4))
      rw [← hvnh.out] at hbar
      have hO4 := Lib.hid (hOh.out.keep b4)
      have f0 := cell_below b4 d0
      have f1 := cell_below b4 d1
      have f2 := cell_below b4 d2
      have htkh := Lib.hid htk
      have hw4h := Lib.hid hw4
      rw [hw4] at hbar
      obtain ⟨q, hq⟩ : ∃ q, q = barB g.dir barred x.1 x.2.1 := ⟨_, rfl⟩
      rw [← hq] at hbar
      have hqh := Lib.hid hq
      have l0h := Lib.hid l0
      have l1h := Lib.hid l1
      have l2h := Lib.hid l2
      rw [hw4] at f0 f1 f2
      clear hr hgr hbr hbw hx htk b4 l0 l1 l2 hw4 hq dz
      go_wp2_with fail
      refine (unhide hbar).mono ?_
      rintro e w5 ⟨rfl, hb5⟩
      rw [← hw4h.out] at hb5
      have hO5 := hO4.out.keep hb5
      have m0 := cell_below hb5 l0h.out
      have m1 := cell_below hb5 l1h.out
      have m2 := cell_below hb5 l2h.out
      cases q
      · have hes : openEs g barred (g.edges.take (k + 1)) = openEs g barred (g.edges.take k) ++ [x] := by
          unfold openEs
          rw [htkh.out, List.filter_append, List.filter_cons_of_pos (by rw [← hqh.out]; rfl), List.filter_nil]
        have c5 := hO5.at2
        have ho := Lib.hid (fun o => hO5.e.alloc o)
        rw [← hmh.out] at ho
        have hz5 : w.heap.size + 1 + 1 + 1 ≤ w5.heap.size := by have := lt_of_block hO5.blk; omega
        have hadd := Lib.hid (fun o b2 c3 w6 (hg : (w5.alloc o).grownBy w6 (Value.slice b m c2).ownBlock) (h2 : w6.ownsRow (w.heap.size + 1 + 1 + 1) 61 3 (.slice b2 (m + 1) c3) (m + 1) (edgeCells (openEs g barred (g.edges.take k)) ++ [.int .i64 x.1, .int .i64 x.2.1, .int .i64 x.2.2])) => hO5.add (x := x) hmh.out hg h2)
        have hesh := Lib.hid hes
        clear hO5 hes hb5 hbar hO4 hOh f0 f1 f2 l0h l1h l2h hw4h
        go_wp2_with (at_builtin; refine append_law 23 61 (.agg #[.int .i64 0, .int .i64 0, .int .i64 0]) 3 24 Tryz.underlying23 einfo rfl (by omega) (by omega) rfl _ _ rfl (w.heap.size + 1 + 1 + 1) b m c2 (edgeCells (openEs g barred (g.edges.take k))) rfl (unhide ho _) ⟨w5.heap.size, 0, none⟩ 1 1 [.int .i64 x.1, .int .i64 x.2.1, .int .i64 x.2.2] rfl rfl (enew w5 _ _ _ _) (eone _ _ _) (by omega) (by simp; omega) ?_; intro b2 c3 w6 hown6 hg6 hat6; obtain ⟨q1, q2, q3⟩ := unhide hadd _ _ _ _ hg6 hown6; clear hown6 hg6 hat6)
        go_roundw
        case rel => exact ⟨k + 1, m + 1, b2, c3, by omega, by go_num, by rw [hesh.out, List.length_append, ← hmh.out]; rfl, by omega, by rw [hesh.out]; exact q3.out⟩
        case measure => simp [intOf]; omega
      · have hes : openEs g barred (g.edges.take (k + 1)) = openEs g barred (g.edges.take k) := by
          unfold openEs
          rw [htkh.out, List.filter_append, List.filter_cons_of_neg (by rw [← hqh.out]; simp), List.filter_nil, List.append_nil]
        have hfin : Hid (m = (openEs g barred (g.edges.take (k + 1))).length ∧ OG w2 w5 (w.heap.size + 1 + 1) g.dir vn (openEs g barred (g.edges.take (k + 1))) (.slice b m c2)) := by
          unfold Hid
          rw [hes]
          exact ⟨hmh.out, hO5⟩
        clear hO5 hes hb5 hbar hO4 hOh f0 f1 f2 l0h l1h l2h hw4h
        go_wp2_with fail
        go_roundw
        case rel => exact ⟨k + 1, m, b, c2, by omega, by go_num, hfin.out.1, by omega, hfin.out.2⟩
        case measure => simp [intOf]; omega
    · have hkn : k = g.edges.length := by omega
      subst hkn
      have hO := hOh.out
      rw [List.take_length] at hO
      have o0 : wr.cell? ⟨w.heap.size + 1 + 1, 0, none⟩ = some (.bool g.dir) := by simp [World.cell?, hO.blk]
      have o1 : wr.cell? ⟨w.heap.size + 1 + 1, 1, none⟩ = some vn := by simp [World.cell?, hO.blk]
      have o2 := hO.at2
      obtain ⟨y0, y1, y2, y3, y4, y5, y6, y7, y8⟩ := ebox3 dz (.bool g.dir) vn (.slice b m c2)
      have hfin : Hid (OpenSPost w g barred an cn (.returned (.agg #[.bool g.dir, vn, .slice b m c2])) (((wr.setCell ⟨w.heap.size + 1, 0, none⟩ (.bool g.dir)).setCell ⟨w.heap.size + 1, 1, none⟩ vn).setCell ⟨w.heap.size + 1, 2, none⟩ (.slice b m c2))) := by
        have hml : m = (openG g barred).edges.length := by have := hmh.out; rw [List.take_length] at this; exact this
        have hbW : Below w.heap.size w (((wr.setCell ⟨w.heap.size + 1, 0, none⟩ (.bool g.dir)).setCell ⟨w.heap.size + 1, 1, none⟩ vn).setCell ⟨w.heap.size + 1, 2, none⟩ (.slice b m c2)) :=
          ((hbw.setCell (by show w.heap.size ≤ w.heap.size + 1; omega) _).setCell (by show w.heap.size ≤ w.heap.size + 1; omega) _).setCell (by show w.heap.size ≤ w.heap.size + 1; omega) _
        have hse : ∀ j, j ≠ w.heap.size + 1 → (((wr.setCell ⟨w.heap.size + 1, 0, none⟩ (.bool g.dir)).setCell ⟨w.heap.size + 1, 1, none⟩ vn).setCell ⟨w.heap.size + 1, 2, none⟩ (.slice b m c2)).heap[j]? = wr.heap[j]? := fun j hj => by
          rw [Below.heap_setCell _ _ _ _ hj, Below.heap_setCell _ _ _ _ hj, Below.heap_setCell _ _ _ _ hj]
        have hrow := owns_same (w' := ((wr.setCell ⟨w.heap.size + 1, 0, none⟩ (.bool g.dir)).setCell ⟨w.heap.size + 1, 1, none⟩ vn).setCell ⟨w.heap.size + 1, 2, none⟩ (.slice b m c2)) hO.e fun j hj => hse j (by have := (hO.e.lt j hj).1; omega)
        obtain ⟨ag, cg, eg, _, hcs, _⟩ := owns_cells hrow
        injection eg with eg1 _ _
        subst eg1
        refine ⟨b, c2, by rw [hvnh.out, hml], ⟨?_, hcs, hgr.none⟩, hbW⟩
        exact hgnh.out.below hbW
      obtain rfl : vn = Value.slice an g.nodes.length cn := hvnh.out
      clear hO hOh hK hgr hbr hbw dz hmh
      go_wp2_with fail
      (try simp only [Exit.inBlock, Exit.then])
      refine bodyPost_ret (v := .agg #[.bool g.dir, .slice an g.nodes.length cn, .slice b m c2]) (by simp [results, show Tryz.func15.results = #[.cell 4 25] from rfl, go_sem, y6, y7, y8]) rfl ?_
      exact hfin.out
end Go.Proofs.YtpmphefmmcbpaaaGreat
