/- plain.index and plain.lay. -/
import Derived.Test.YthpjmjohdliohaaGreatSetPl
import Derived.Deep.RegionLaw
import Derived.Deep.DeepCutAuto
namespace Go.Proofs.YthpjmjohdliohaaGreat
open Go.RowKit

theorem pindex_any (pb : Nat) (a : Option Addr) (n cap : Nat) (zs : List Int) (x : Int) (w : World) (hp : w.cell? ⟨pb, 0, none⟩ = some (.slice a n cap)) (hl : n = zs.length) (hsm : zs.length ≤ 1048576)
    (hc : Cells w a (ints zs)) (hs : zs.Pairwise (· < ·)) :
    Calls Tryz.prog 64 #[.pointer (some ⟨pb, 0, none⟩), .int .i64 x] w
      fun e w' => e = .returned (.tuple #[.int .i64 (posOf zs x : Nat), .bool (decide (x ∈ zs))]) ∧ w = w' := by
  subst hl
  have hsearch := Lib.hid (search_any a zs.length cap zs x w rfl hsm hc hs)
  clear hc hs
  go_enter Tryz.func64, Tryz.ntmps64
  go_wp2_with fail
  refine (unhide hsearch).mono ?_
  rintro e w1 ⟨rfl, rfl⟩
  go_wp2
  go_ret2
  exact ⟨rfl, rfl⟩

/-- What lay makes of the two tables. -/
def turnRow (ls : List (List Arc)) (i k wt : Nat) : List (List Arc) := ls.modify i fun l => setArc l k wt

theorem Built.drew {w : World} {B pb n f g : Nat} {vs : List Value} {ls : List (List Arc)} {f' g' : Nat} {vs' : List Value} {ls' : List (List Arc)} (h : Built w B pb n f g vs ls f' g' vs' ls') : Built w.drew B pb n f g vs ls f' g' vs' ls' :=
  ⟨h.cell, h.cell', h.pbB, h.gB, h.gB', h.hB, h.pg, h.pg', h.gg, h.own, h.own', h.len, h.len', h.rows, h.rows', h.dis, h.dis', h.cross⟩

theorem turnRow_ok {n : Nat} {ls : List (List Arc)} (h : ∀ l ∈ ls, RowOk n l) {i k wt : Nat} (hk : k < n) : ∀ l ∈ turnRow ls i k wt, RowOk n l := by
  intro l hl
  obtain ⟨j, hj, rfl⟩ := List.mem_iff_getElem.1 hl
  unfold turnRow at hj ⊢
  rw [List.length_modify] at hj
  rw [List.getElem_modify]
  split
  · exact setArc_ok (h _ (List.getElem_mem _)) hk
  · exact h _ (List.getElem_mem _)

/-- One row of the table turned by set: what the region that stores it needs. -/
theorem set_built {w : World} {B pb n f g : Nat} {vs : List Value} {ls : List (List Arc)} {f' g' : Nat} {vs' : List Value} {ls' : List (List Arc)} (h : Built w B pb n f g vs ls f' g' vs' ls')
    {i k : Nat} (hi : i < n) (hk : k < n) (hn : n ≤ 1048575) (hok : ∀ l ∈ ls, RowOk n l) :
    ∃ v, w.cell? ⟨g, i, none⟩ = some v ∧ ∀ wt, Calls Tryz.prog 92 #[v, .int .i64 k, .float .f64 wt] w fun e w1 => ∃ a1 n1 c1, e = .returned (.slice a1 n1 c1) ∧
      w1.cell? ⟨pb, f, none⟩ = some (.slice (some ⟨g, 0, none⟩) n n) ∧ w1.cell? ⟨g, i, none⟩ = some v ∧ w1.frozen? ⟨g, i, none⟩ = false ∧
      Hid (∃ vs1, Built (w1.setCell ⟨g, i, none⟩ (.slice a1 n1 c1)) B pb n f g vs1 (turnRow ls i k wt) f' g' vs' ls' ∧ Kept B g g' w (w1.setCell ⟨g, i, none⟩ (.slice a1 n1 c1))) := by
  have hv : vs[i]? = some (vs[i]'(by have := h.vlen; omega)) := List.getElem?_eq_getElem _
  have hl : ls[i]? = some (ls[i]'(by have := h.len; omega)) := List.getElem?_eq_getElem _
  generalize vs[i]'(by have := h.vlen; omega) = v at hv
  generalize hlx : ls[i]'(by have := h.len; omega) = l at hl
  have hlm : l ∈ ls := by rw [← hlx]; exact List.getElem_mem _
  have hr := h.rows i v l hv hl
  have hro := hok l hlm
  have hcell : w.cell? ⟨g, i, none⟩ = some v := owns_cell h.own hv
  obtain ⟨a, c, rfl, _, _, _⟩ := owns_cells hr
  refine ⟨_, hcell, fun wt => ?_⟩
  have hsh := asc_short hro
  refine (set_any B a l.length c l k wt w (by omega) (by omega) (fun a ha => by have := hro.2 a ha; omega) hro.1 hr h.hB).mono ?_
  rintro e w1 ⟨a1, n1, c1, rfl, rfl, hown, hg, hnew⟩
  have hB := hr.lt
  refine ⟨a1, _, c1, rfl, hg.cell h.cell (fun e => ?_), hg.cell hcell (fun e => ?_), ?_, vs.set i (.slice a1 (setArc l k wt).length c1), ?_⟩
  · have := (hB pb e.symm).1; have := h.pbB; omega
  · have := (hB g e.symm).1; have := h.gB; omega
  · rw [World.frozen?_of_block (w := w) (hg.block g (by have := h.gB; have := h.hB; omega) (fun e => by have := (hB g e.symm).1; have := h.gB; omega))]
    exact owns_free h.own _
  · have he : turnRow ls i k wt = ls.set i (setArc l k wt) := by
      unfold turnRow
      apply List.ext_getElem?
      intro j
      rw [List.getElem?_modify, List.getElem?_set]
      by_cases hj : i = j
      · subst hj
        have := (List.getElem?_eq_some_iff.1 hl).1
        rw [hl, if_pos rfl, if_pos this]; simp
      · rw [if_neg hj]; cases ls[j]? <;> simp [hj]
    rw [he]
    refine h.put hv hl hg hown ?_
    rcases hnew with rfl | ⟨q, rfl, hq⟩
    · left
      cases a1 <;> rfl
    · right
      intro b hb
      simp only [Value.ownBlock] at hb
      injection hb with hb
      omega

theorem Kept.ofDrew {B g h : Nat} {a b : World} (p : Kept B g h a.drew b) : Kept B g h a b := ⟨p.os, p.tape, p.output, p.size, p.block⟩

set_option maxHeartbeats 1000000 in
theorem lay_dir (B pb n g1 g2 : Nat) (v1 v2 : List Value) (l1 l2 : List (List Arc)) (i k wt : Nat) (w : World) (hb : Built w B pb n 1 g1 v1 l1 2 g2 v2 l2) (hi : i < n) (hk : k < n) (hn : n ≤ 1048575)
    (h1 : ∀ l ∈ l1, RowOk n l) (h2 : ∀ l ∈ l2, RowOk n l) :
    Calls Tryz.prog 65 #[.pointer (some ⟨pb, 0, none⟩), .int .i64 i, .int .i64 k, .float .f64 wt, .bool true] w
      fun e w' => e = .returned (.tuple #[]) ∧ (∃ v1' v2', Built w' B pb n 1 g1 v1' (turnRow l1 i k wt) 2 g2 v2' (turnRow l2 k i wt)) ∧ Kept B g1 g2 w w' := by
  have hlt1 : (i : Int) < n := by omega
  have hlt2 : (k : Int) < n := by omega
  have hbh := Lib.hid hb
  clear hb
  go_enter Tryz.func65, Tryz.ntmps65
  go_upto_region 0 with fail
  go_cut [] from 10 (fun wx => ∃ va vb, Built wx B pb n 1 g1 va (turnRow l1 i k wt) 2 g2 vb l2 ∧ Kept B g1 g2 w wx)
  case first =>
    obtain ⟨v, hc, hcall⟩ := set_built (unhide hbh).drew hi hk hn h1
    have hp1 := (unhide hbh).cell
    have hcall' := Lib.hid (hcall wt)
    have hc' : w.cell? ⟨g1, i, none⟩ = some v := hc
    clear hcall hc
    go_region_law (go_simp; go_at_call 92; refine (unhide hcall').mono ?_; rintro e w1 ⟨a1, n1, c1, rfl, hcp, hci, hcf, hfin⟩)
    all_goals go_wp2_with fail
    all_goals go_meet
    all_goals
      obtain ⟨vx, hbx, hkx⟩ := hfin.out
      exact ⟨_, _, hbx, (hkx.ofDrew)⟩
  case rest =>
  obtain ⟨va0, vb0, hb0, hk0⟩ := hcut
  replace hbh := Lib.hid hb0
  have hkh0 := Lib.hid hk0
  clear hb0 hk0
  go_upto_region 1 with fail
  go_cut [] from 10 (fun wx => ∃ va vb, Built wx B pb n 1 g1 va (turnRow l1 i k wt) 2 g2 vb (turnRow l2 k i wt) ∧ Kept B g1 g2 w wx)
  case first =>
    obtain ⟨v, hc, hcall⟩ := set_built (unhide hbh).swap.drew hk hi hn h2
    have hp1 := (unhide hbh).swap.cell
    have hcall' := Lib.hid (hcall wt)
    have hc' : wc.cell? ⟨g2, k, none⟩ = some v := hc
    clear hcall hc
    go_region_law (go_simp; go_at_call 92; refine (unhide hcall').mono ?_; rintro e w1 ⟨a1, n1, c1, rfl, hcp, hci, hcf, hfin⟩)
    all_goals go_wp2_with fail
    all_goals go_meet
    all_goals
      obtain ⟨vx, hbx, hkx⟩ := hfin.out
      exact ⟨_, _, hbx.swap, ((unhide hkh0).trans hkx.swap.ofDrew)⟩
  case rest =>
  obtain ⟨va1, vb1, hb1, hk1⟩ := hcut
  replace hbh := Lib.hid hb1
  have hkh1 := Lib.hid hk1
  clear hb1 hk1
  go_wp2
  go_end0
  exact ⟨rfl, ⟨_, _, unhide hbh⟩, unhide hkh1⟩

set_option maxHeartbeats 1000000 in
theorem lay_und (B pb n g1 g2 : Nat) (v1 v2 : List Value) (l1 l2 : List (List Arc)) (i k wt : Nat) (w : World) (hb : Built w B pb n 1 g1 v1 l1 2 g2 v2 l2) (hi : i < n) (hk : k < n) (hn : n ≤ 1048575)
    (h1 : ∀ l ∈ l1, RowOk n l) (h2 : ∀ l ∈ l2, RowOk n l) :
    Calls Tryz.prog 65 #[.pointer (some ⟨pb, 0, none⟩), .int .i64 i, .int .i64 k, .float .f64 wt, .bool false] w
      fun e w' => e = .returned (.tuple #[]) ∧ (∃ v1' v2', Built w' B pb n 1 g1 v1' (turnRow (turnRow l1 i k wt) k i wt) 2 g2 v2' (turnRow (turnRow l2 k i wt) i k wt)) ∧ Kept B g1 g2 w w' := by
  have hlt1 : (i : Int) < n := by omega
  have hlt2 : (k : Int) < n := by omega
  have hbh := Lib.hid hb
  clear hb
  go_enter Tryz.func65, Tryz.ntmps65
  go_upto_region 0 with fail
  go_cut [] from 10 (fun wx => ∃ va vb, Built wx B pb n 1 g1 va (turnRow l1 i k wt) 2 g2 vb l2 ∧ Kept B g1 g2 w wx)
  case first =>
    obtain ⟨v, hc, hcall⟩ := set_built (unhide hbh).drew hi hk hn h1
    have hp1 := (unhide hbh).cell
    have hcall' := Lib.hid (hcall wt)
    have hc' : w.cell? ⟨g1, i, none⟩ = some v := hc
    clear hcall hc
    go_region_law (go_simp; go_at_call 92; refine (unhide hcall').mono ?_; rintro e w1 ⟨a1, n1, c1, rfl, hcp, hci, hcf, hfin⟩)
    all_goals go_wp2_with fail
    all_goals go_meet
    all_goals
      obtain ⟨vx, hbx, hkx⟩ := hfin.out
      exact ⟨_, _, hbx, (hkx.ofDrew)⟩
  case rest =>
  obtain ⟨va0, vb0, hb0, hk0⟩ := hcut
  replace hbh := Lib.hid hb0
  have hkh0 := Lib.hid hk0
  clear hb0 hk0
  go_upto_region 1 with fail
  go_cut [] from 10 (fun wx => ∃ va vb, Built wx B pb n 1 g1 va (turnRow l1 i k wt) 2 g2 vb (turnRow l2 k i wt) ∧ Kept B g1 g2 w wx)
  case first =>
    obtain ⟨v, hc, hcall⟩ := set_built (unhide hbh).swap.drew hk hi hn h2
    have hp1 := (unhide hbh).swap.cell
    have hcall' := Lib.hid (hcall wt)
    have hc' : wc.cell? ⟨g2, k, none⟩ = some v := hc
    clear hcall hc
    go_region_law (go_simp; go_at_call 92; refine (unhide hcall').mono ?_; rintro e w1 ⟨a1, n1, c1, rfl, hcp, hci, hcf, hfin⟩)
    all_goals go_wp2_with fail
    all_goals go_meet
    all_goals
      obtain ⟨vx, hbx, hkx⟩ := hfin.out
      exact ⟨_, _, hbx.swap, ((unhide hkh0).trans hkx.swap.ofDrew)⟩
  case rest =>
  obtain ⟨va1, vb1, hb1, hk1⟩ := hcut
  replace hbh := Lib.hid hb1
  have hkh1 := Lib.hid hk1
  clear hb1 hk1
  go_upto_region 3 with fail
  go_cut [] from 10 (fun wx => ∃ va vb, Built wx B pb n 1 g1 va (turnRow (turnRow l1 i k wt) k i wt) 2 g2 vb (turnRow l2 k i wt) ∧ Kept B g1 g2 w wx)
  case first =>
    obtain ⟨v, hc, hcall⟩ := set_built (unhide hbh).drew hk hi hn (turnRow_ok h1 hk)
    have hp1 := (unhide hbh).cell
    have hcall' := Lib.hid (hcall wt)
    have hc' : wc.cell? ⟨g1, k, none⟩ = some v := hc
    clear hcall hc
    go_region_law (go_simp; go_at_call 92; refine (unhide hcall').mono ?_; rintro e w1 ⟨a1, n1, c1, rfl, hcp, hci, hcf, hfin⟩)
    all_goals go_wp2_with fail
    all_goals go_meet
    all_goals
      obtain ⟨vx, hbx, hkx⟩ := hfin.out
      exact ⟨_, _, hbx, ((unhide hkh1).trans hkx.ofDrew)⟩
  case rest =>
  obtain ⟨va2, vb2, hb2, hk2⟩ := hcut
  replace hbh := Lib.hid hb2
  have hkh2 := Lib.hid hk2
  clear hb2 hk2
  go_upto_region 4 with fail
  obtain ⟨v, hc, hcall⟩ := set_built (unhide hbh).swap.drew hi hk hn (turnRow_ok h2 hi)
  have hp1 := (unhide hbh).swap.cell
  have hcall' := Lib.hid (hcall wt)
  have hc' : wc.cell? ⟨g2, i, none⟩ = some v := hc
  clear hcall hc
  go_region_law (go_simp; go_at_call 92; refine (unhide hcall').mono ?_; rintro e w1 ⟨a1, n1, c1, rfl, hcp, hci, hcf, hfin⟩)
  all_goals go_wp2_with fail
  all_goals go_end0
  all_goals
    obtain ⟨vx, hbx, hkx⟩ := hfin.out
    exact ⟨rfl, ⟨_, _, hbx.swap⟩, (unhide hkh2).trans hkx.swap.ofDrew⟩
end Go.Proofs.YthpjmjohdliohaaGreat
