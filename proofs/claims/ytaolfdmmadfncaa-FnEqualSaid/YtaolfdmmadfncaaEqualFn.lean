/- laws.FnEqual: the walk. -/
import Derived.Test.YtaolfdmmadfncaaEqualImpl
import Derived.Test.YtaolfdmmadfncaaTableOf
import Derived.Test.YtaolfdmmadfncaaEqLaw2
import Derived.Deep.RegionHeld3
namespace Go.Proofs.Ytaolfdmmadfncaa
open Go.RowKit

/-- Behind the two tables: where they lie, what they hold. -/
def TwoTabs (a b : Gr) (lo pa pb : Nat) (w : World) : Prop :=
  ∃ (na sa wa nb sb wb : Value) (l1 h1 l2 h2 : Nat), SBlock w pa na sa wa ∧ SBlock w pb nb sb wb ∧ TabAt w l1 h1 (asc a.nodes) na sa wa (tableP (asc a.nodes) a.dir a.edges).1 (tableP (asc a.nodes) a.dir a.edges).2 ∧
    TabAt w l2 h2 (asc b.nodes) nb sb wb (tableP (asc b.nodes) b.dir b.edges).1 (tableP (asc b.nodes) b.dir b.edges).2 ∧ lo ≤ pa ∧ lo ≤ pb ∧ h1 ≤ w.heap.size ∧ h2 ≤ w.heap.size

theorem size_drew' (w : World) : w.drew.heap.size = w.heap.size := rfl
theorem nblk_alloc' (w : World) (o : Obj) : (w.alloc o).heap.size = w.heap.size + 1 := by simp

theorem bcell {W w1 : World} (hb : Below W.heap.size W w1) : (∀ b o, b < W.heap.size → w1.cell? ⟨b, o, none⟩ = W.cell? ⟨b, o, none⟩) ∧ (∀ b o, b < W.heap.size → w1.frozen? ⟨b, o, none⟩ = W.frozen? ⟨b, o, none⟩) :=
  ⟨fun b o h => hb.cell (p := ⟨b, o, none⟩) h, fun b o h => hb.frozen (p := ⟨b, o, none⟩) h⟩

theorem TwoTabs.below {a b : Gr} {lo pa pb : Nat} {w w' : World} (h : TwoTabs a b lo pa pb w) (hb : Below w.heap.size w w') : TwoTabs a b lo pa pb w' := by
  obtain ⟨na, sa, wa, nb, sb, wb, l1, h1, l2, h2, A, B, T1, T2, q1, q2, q3, q4⟩ := h
  exact ⟨na, sa, wa, nb, sb, wb, l1, h1, l2, h2, A.below hb, B.below hb, T1.below q3 hb, T2.below q4 hb, q1, q2, Nat.le_trans q3 hb.size, Nat.le_trans q4 hb.size⟩

/-- What the reading of the nodes needs. -/
theorem TwoTabs.nodes {a b : Gr} {lo pa pb : Nat} {w : World} (h : TwoTabs a b lo pa pb w) : ∃ a1 c1 a2 c2, w.cell? ⟨pa, 0, none⟩ = some (.slice a1 (asc a.nodes).length c1) ∧ w.cell? ⟨pb, 0, none⟩ = some (.slice a2 (asc b.nodes).length c2) ∧ Cells w a1 (ints (asc a.nodes)) ∧ Cells w a2 (ints (asc b.nodes)) := by
  obtain ⟨na, sa, wa, nb, sb, wb, l1, h1, l2, h2, A, B, T1, T2, _⟩ := h
  obtain ⟨a1, c1, rfl, k1⟩ := T1.nodes
  obtain ⟨a2, c2, rfl, k2⟩ := T2.nodes
  unfold SBlock at A B
  exact ⟨a1, c1, a2, c2, by simp [World.cell?, A], by simp [World.cell?, B], k1, k2⟩

/-- What the reading of a row needs. -/
theorem TwoTabs.row {a b : Gr} {lo pa pb k : Nat} {w : World} (h : TwoTabs a b lo pa pb w) (ha : okGraph a = true) (hb : okGraph b = true) (hk : k < (asc a.nodes).length) (he : asc a.nodes = asc b.nodes) :
    ∃ a0 ca ga b0 cb gb, w.cell? ⟨pa, 1, none⟩ = some (.slice (some ⟨a0, 0, none⟩) (asc a.nodes).length ca) ∧ w.cell? ⟨pb, 1, none⟩ = some (.slice (some ⟨b0, 0, none⟩) (asc b.nodes).length cb) ∧
      w.cell? ⟨a0, k, none⟩ = some (.slice (some ⟨ga, 0, none⟩) (asc a.nodes).length (asc a.nodes).length) ∧ w.cell? ⟨b0, k, none⟩ = some (.slice (some ⟨gb, 0, none⟩) (asc b.nodes).length (asc b.nodes).length) ∧
      Cells w (some ⟨ga, 0, none⟩) (bools ((rowsB a).getD k [])) ∧ Cells w (some ⟨gb, 0, none⟩) (bools ((rowsB b).getD k [])) ∧ ((rowsB a).getD k []).length = (asc a.nodes).length ∧ ((rowsB b).getD k []).length = (asc b.nodes).length := by
  obtain ⟨na, sa, wa, nb, sb, wb, l1, h1, l2, h2, A, B, T1, T2, _⟩ := h
  obtain ⟨a0, ca, ga, rfl, k1, k2, k3⟩ := T1.row (i := k) (rowsB_length ha) hk
  obtain ⟨b0, cb, gb, rfl, m1, m2, m3⟩ := T2.row (i := k) (rowsB_length hb) (by rw [← he]; exact hk)
  exact ⟨a0, ca, ga, b0, cb, gb, A.c1, B.c1, k1, m1, k2, m2, k3, m3⟩

set_option maxRecDepth 100000 in
set_option maxHeartbeats 4000000 in
theorem fnEqual_any (a b : Gr) (an : Option Addr) (cn : Nat) (ae : Option Addr) (ce : Nat) (bn : Option Addr) (dn : Nat) (be : Option Addr) (de : Nat) (w : World) (hm : a.nodes.length ≤ 9223372036854775807) (hm' : a.edges.length ≤ 9223372036854775807) (hn : b.nodes.length ≤ 9223372036854775807) (hn' : b.edges.length ≤ 9223372036854775807)
    (hga : GrAt w a an cn ae) (hgb : GrAt w b bn dn be) :
    Calls Try.prog 3 #[.agg #[.bool a.dir, .slice an a.nodes.length cn, .slice ae a.edges.length ce], .agg #[.bool b.dir, .slice bn b.nodes.length dn, .slice be b.edges.length de]] w
      fun e w' => e = .returned (.bool true) ∧ Below w.heap.size w w' := by
  obtain ⟨w2, hw2⟩ : ∃ w2, w2 = (w.alloc (.cells #[.bool a.dir, .slice an a.nodes.length cn, .slice ae a.edges.length ce] 25)).alloc (.cells #[.bool b.dir, .slice bn b.nodes.length dn, .slice be b.edges.length de] 25) := ⟨_, rfl⟩
  have hK : Hid (∀ wr, Below w2.heap.size w2 wr → Below w.heap.size w wr ∧ GrAt wr a an cn ae ∧ GrAt wr b bn dn be ∧
      (wr.cell? ⟨w.heap.size, 0, none⟩ = some (.bool a.dir) ∧ wr.cell? ⟨w.heap.size, 1, none⟩ = some (.slice an a.nodes.length cn) ∧ wr.cell? ⟨w.heap.size, 2, none⟩ = some (.slice ae a.edges.length ce)) ∧
      wr.cell? ⟨w.heap.size + 1, 0, none⟩ = some (.bool b.dir) ∧ wr.cell? ⟨w.heap.size + 1, 1, none⟩ = some (.slice bn b.nodes.length dn) ∧ wr.cell? ⟨w.heap.size + 1, 2, none⟩ = some (.slice be b.edges.length de)) := fun wr h => by
    have hb0 : Below w.heap.size w w2 := by rw [hw2]; exact (alloc_below w _).trans ((alloc_below _ _).mono (by simp))
    have h0 : Below w.heap.size w wr := hb0.trans (h.mono hb0.size)
    have e1 : wr.heap[w.heap.size]? = some (.cells #[.bool a.dir, .slice an a.nodes.length cn, .slice ae a.edges.length ce] 25 (0, 0)) := by
      rw [h.block _ (by rw [hw2]; simp; omega), hw2, Below.heap_alloc _ _ _ (by simp), heap_alloc_new]
    have e2 : wr.heap[w.heap.size + 1]? = some (.cells #[.bool b.dir, .slice bn b.nodes.length dn, .slice be b.edges.length de] 25 (0, 0)) := by
      rw [h.block _ (by rw [hw2]; simp), hw2]
      have := heap_alloc_new (w.alloc (.cells #[.bool a.dir, .slice an a.nodes.length cn, .slice ae a.edges.length ce] 25)) (.cells #[.bool b.dir, .slice bn b.nodes.length dn, .slice be b.edges.length de] 25)
      rwa [show (w.alloc (.cells #[.bool a.dir, .slice an a.nodes.length cn, .slice ae a.edges.length ce] 25)).heap.size = w.heap.size + 1 by simp] at this
    exact ⟨h0, hga.below h0, hgb.below h0, ⟨by simp [World.cell?, e1], by simp [World.cell?, e1], by simp [World.cell?, e1]⟩, by simp [World.cell?, e2], by simp [World.cell?, e2], by simp [World.cell?, e2]⟩
  have hfa := Lib.hid (fun W => fits_any a an cn ae ce W hm hm')
  have hfb := Lib.hid (fun W => fits_any b bn dn be de W hn hn')
  have hfa2 := Lib.hid (hfa.out w2)
  rw [hw2] at hfa2
  have hw2h := Lib.hid hw2
  clear hw2 hga hgb
  go_enter Try.func3, Try.ntmps3
  go_wp2_with fail
  refine (unhide hfa2).mono ?_
  rintro e w3 ⟨rfl, hb3⟩
  rw [← hw2h.out] at hb3
  have hb3h := Lib.hid hb3
  obtain ⟨hbw, _, _, ⟨k0, k1, k2⟩, k3, k4, k5⟩ := hK.out w3 hb3
  have hbwh := Lib.hid hbw
  clear hb3 hbw hfa2
  rcases hf : fitsB a with _ | _
  · go_wp2_with fail
    go_ret
    exact ⟨rfl, hbwh.out⟩
  clear hf hbwh
  go_wp2_with fail
  refine (hfb.out w3).mono ?_
  rintro e w4 ⟨rfl, hb4⟩
  have hb4' := hb3h.out.trans (hb4.mono hb3h.out.size)
  obtain ⟨hbw, hg1, hg2, ⟨k0', k1', k2'⟩, k3', k4', k5'⟩ := hK.out w4 hb4'
  have hb4h := Lib.hid hb4'
  have hbwh := Lib.hid hbw
  have hqa := Lib.hid (few_any a an cn ae ce w4 25 (by omega) hg1)
  clear hb4 hb4' hbw hg1 hg2 hb3h k0 k1 k2 k3 k4 k5 hfa hfb
  rcases hf : fitsB b with _ | _
  · go_wp2_with fail
    go_ret
    exact ⟨rfl, hbwh.out⟩
  clear hf hbwh
  go_wp2_with fail
  refine (unhide hqa).mono ?_
  rintro e w5 ⟨rfl, hb5⟩
  have hb5' := hb4h.out.trans (hb5.mono hb4h.out.size)
  obtain ⟨hbw, hg1, hg2, ⟨k0, k1, k2⟩, k3, k4, k5⟩ := hK.out w5 hb5'
  have hb5h := Lib.hid hb5'
  have hbwh := Lib.hid hbw
  have hqb := Lib.hid (few_any b bn dn be de w5 25 (by omega) hg2)
  clear hb5 hb5' hbw hg1 hg2 hb4h k0' k1' k2' k3' k4' k5' hqa
  rcases hfwa : fewB a 25 with _ | _
  · go_wp2_with fail
    go_ret
    exact ⟨rfl, hbwh.out⟩
  clear hbwh
  go_wp2_with fail
  refine (unhide hqb).mono ?_
  rintro e w6 ⟨rfl, hb6⟩
  have hb6' := hb5h.out.trans (hb6.mono hb5h.out.size)
  obtain ⟨hbw, hg1, hg2, ⟨k0', k1', k2'⟩, k3', k4', k5'⟩ := hK.out w6 hb6'
  have hb6h := Lib.hid hb6'
  have hbwh := Lib.hid hbw
  have hg1h := Lib.hid hg1
  have hg2h := Lib.hid hg2
  clear hb6 hb6' hbw hg1 hg2 hb5h k0 k1 k2 k3 k4 k5 hqb
  rcases hfwb : fewB b 25 with _ | _
  · go_wp2_with fail
    go_ret
    exact ⟨rfl, hbwh.out⟩
  clear hbwh
  unfold fewB at hfwa hfwb
  rw [Bool.and_eq_true, Bool.and_eq_true] at hfwa hfwb
  have ha25 : a.nodes.length ≤ 25 := of_decide_eq_true hfwa.1.1
  have hae : a.edges.length ≤ 8 * 25 := of_decide_eq_true hfwa.1.2
  have hb25 : b.nodes.length ≤ 25 := of_decide_eq_true hfwb.1.1
  have hbe : b.edges.length ≤ 8 * 25 := of_decide_eq_true hfwb.1.2
  have hoa := Lib.hid hfwa.2
  have hob := Lib.hid hfwb.2
  clear hfwa hfwb
  have heq := Lib.hid (equal_any a b an cn ae ce bn dn be de w6 (by omega) (by omega) (by omega) (by omega) hg1h.out hg2h.out hoa.out hob.out)
  clear hg1h hg2h
  go_wp2_with fail
  refine (unhide heq).mono ?_
  rintro e w7 ⟨rfl, hb7⟩
  have hb7' := hb6h.out.trans (hb7.mono hb6h.out.size)
  obtain ⟨hbw, hg1, hg2, ⟨k0, k1, k2⟩, k3, k4, k5⟩ := hK.out w7 hb7'
  have hb7h := Lib.hid hb7'
  obtain ⟨r, hr⟩ : ∃ r, r = decide (eqP (asc a.nodes) (outsOf a) (asc b.nodes) (outsOf b)) := ⟨_, rfl⟩
  rw [← hr]
  have hrh := Lib.hid hr
  have hg1h := Lib.hid hg1
  have hg2h := Lib.hid hg2
  clear hb7 hb7' hbw hb6h k0' k1' k2' k3' k4' k5' heq hr hg1 hg2
  go_wp2_with fail
  go_cut [7, 8] (fun s7 s8 wx => ∃ pa pb, s7 = .pointer (some ⟨pa, 0, none⟩) ∧ s8 = .pointer (some ⟨pb, 0, none⟩) ∧ TwoTabs a b w2.heap.size pa pb wx ∧ Below w2.heap.size w2 wx)
  case first =>
    have hTA : Hid (∀ W, Below w7.heap.size w7 W → Calls Try.prog 8 #[.agg #[.bool a.dir, .slice an a.nodes.length cn, .slice ae a.edges.length ce]] W (fun e w' => TabPost a W e w' ∧ Below w7.heap.size w7 w')) := fun W hW => (tableOf_any a an cn ae ce W (by omega) (by omega) (hg1h.out.below hW) hoa.out).mono fun e w' h => by
      have h' := h
      obtain ⟨_, _, _, _, _, _, _, _, _, hb⟩ := h'
      exact ⟨h, hW.trans (hb.mono hW.size)⟩
    have hTB : Hid (∀ W, Below w7.heap.size w7 W → Calls Try.prog 8 #[.agg #[.bool b.dir, .slice bn b.nodes.length dn, .slice be b.edges.length de]] W (fun e w' => TabPost b W e w' ∧ Below w7.heap.size w7 w')) := fun W hW => (tableOf_any b bn dn be de W (by omega) (by omega) (hg2h.out.below hW) hob.out).mono fun e w' h => by
      have h' := h
      obtain ⟨_, _, _, _, _, _, _, _, _, hb⟩ := h'
      exact ⟨h, hW.trans (hb.mono hW.size)⟩
    have hz2 : w.heap.size + 2 ≤ w7.heap.size := by have := hb7h.out.size; rw [hw2h.out] at this; simpa using this
    have ne10 : w7.heap.size ≠ w.heap.size := by omega
    have ne11 : w7.heap.size ≠ w.heap.size + 1 := by omega
    have ne12 : w7.heap.size + 1 ≠ w.heap.size := by omega
    have ne13 : w7.heap.size + 1 ≠ w.heap.size + 1 := by omega
    have hz27 : w2.heap.size ≤ w7.heap.size := hb7h.out.size
    have ne0 := World.new_ne w7 _ k0
    have ne3 := World.new_ne w7 _ k3
    go_region_held3 (fun w' => (w'.cell? ⟨w.heap.size, 0, none⟩ = some (.bool a.dir) ∧ w'.cell? ⟨w.heap.size, 1, none⟩ = some (.slice an a.nodes.length cn) ∧ w'.cell? ⟨w.heap.size, 2, none⟩ = some (.slice ae a.edges.length ce)) ∧
      w'.cell? ⟨w.heap.size + 1, 0, none⟩ = some (.bool b.dir) ∧ w'.cell? ⟨w.heap.size + 1, 1, none⟩ = some (.slice bn b.nodes.length dn) ∧ w'.cell? ⟨w.heap.size + 1, 2, none⟩ = some (.slice be b.edges.length de)) (go_keep)
      (first
        | (go_at_call 8; ((with_reducible refine (hTA.out _ (by repeat (first | exact Below.refl _ _ | exact BAh.out | refine Below.drew ?_ | refine Below.alloc ?_ (by first | omega | (simp <;> omega)) _))).mono ?_)); rintro e w8 ⟨⟨nA, sA, wA, LA, hA, rfl, lA, tA, zA, bA⟩, BA⟩; obtain ⟨_, _, _, ⟨c0, c1, c2⟩, c3, c4, c5⟩ := hK.out w8 (hb7h.out.trans (BA.mono hb7h.out.size)); obtain ⟨_, _, _, _, _, _, rfl, rfl, rfl⟩ := tA.shape; have BAh := Lib.hid BA; have z78 := BA.size; have tAh := Lib.hid tA; have bAh := Lib.hid bA; have yA := bA.size; (try simp only [size_drew'] at yA lA); (try simp only [nblk_alloc'] at yA lA); clear BA tA bA; (try have : w7.heap.size ≠ w8.heap.size := by omega); (try have : w8.heap.size ≠ w7.heap.size := by omega); (try have : w7.heap.size + 1 ≠ w8.heap.size := by omega); (try have : w8.heap.size ≠ w7.heap.size + 1 := by omega); (try have : w8.heap.size ≠ w.heap.size := by omega); (try have : w.heap.size ≠ w8.heap.size := by omega); (try have : w8.heap.size ≠ w.heap.size + 1 := by omega); (try have : w.heap.size + 1 ≠ w8.heap.size := by omega); (try have : w8.heap.size + 1 ≠ w.heap.size := by omega); (try have : w.heap.size ≠ w8.heap.size + 1 := by omega); (try have : w8.heap.size + 1 ≠ w.heap.size + 1 := by omega); (try have : w.heap.size + 1 ≠ w8.heap.size + 1 := by omega); (try have za7 : Hid (ZBlk w8 (w7.heap.size)) := by first | exact SBlock.below (ZBlk.new w7) bAh.out | exact SBlock.below (ZBlk.new w7).drew bAh.out | exact SBlock.below ((ZBlk.new w7).alloc _) bAh.out | exact SBlock.below ((ZBlk.new w7).alloc _).drew bAh.out); (try have za8 : Hid (ZBlk w8 (w7.heap.size + 1)) := by first | exact SBlock.below (by have := ZBlk.new (w7.alloc (.cells #[.slice none 0 0, .slice none 0 0, .slice none 0 0] 33)); rw [nblk_alloc'] at this; exact this) bAh.out | exact SBlock.below (by have := ZBlk.new (w7.alloc (.cells #[.slice none 0 0, .slice none 0 0, .slice none 0 0] 33)); rw [nblk_alloc'] at this; exact this.drew) bAh.out); (try (have hq := ZBlk.facts (w := w8) (p := w7.heap.size) za7.out; obtain ⟨⟨xa70, xa71, xa72⟩, xa7f, xa7a, xa7g⟩ := hq; have xa7a0 := fun o => (xa7a o).1; have xa7a1 := fun o => (xa7a o).2.1; have xa7a2 := fun o => (xa7a o).2.2; clear xa7a)); (try (have hq := ZBlk.facts (w := w8) (p := w7.heap.size + 1) za8.out; obtain ⟨⟨xa80, xa81, xa82⟩, xa8f, xa8a, xa8g⟩ := hq; have xa8a0 := fun o => (xa8a o).1; have xa8a1 := fun o => (xa8a o).2.1; have xa8a2 := fun o => (xa8a o).2.2; clear xa8a)))
        | (go_at_call 8; ((with_reducible refine (hTB.out _ (by repeat (first | exact Below.refl _ _ | exact BAh.out | refine Below.drew ?_ | refine Below.alloc ?_ (by first | omega | (simp <;> omega)) _))).mono ?_)); rintro e w9 ⟨⟨nB, sB, wB, LB, hB, rfl, lB, tB, zB, bB⟩, BB⟩; obtain ⟨_, _, _, ⟨d0, d1, d2⟩, d3, d4, d5⟩ := hK.out w9 (hb7h.out.trans (BB.mono hb7h.out.size)); obtain ⟨_, _, _, _, _, _, rfl, rfl, rfl⟩ := tB.shape; have BBh := Lib.hid BB; have z79 := BB.size; have tBh := Lib.hid tB; have bBh := Lib.hid bB; have yB := bB.size; (try simp only [size_drew'] at yB lB); (try simp only [nblk_alloc'] at yB lB); clear BB tB bB; (try have : w7.heap.size ≠ w9.heap.size := by omega); (try have : w9.heap.size ≠ w7.heap.size := by omega); (try have : w7.heap.size + 1 ≠ w9.heap.size := by omega); (try have : w9.heap.size ≠ w7.heap.size + 1 := by omega); (try have : w8.heap.size ≠ w9.heap.size := by omega); (try have : w9.heap.size ≠ w8.heap.size := by omega); (try have : w8.heap.size + 1 ≠ w9.heap.size := by omega); (try have : w9.heap.size ≠ w8.heap.size + 1 := by omega); (try have : w9.heap.size ≠ w.heap.size := by omega); (try have : w.heap.size ≠ w9.heap.size := by omega); (try have : w9.heap.size ≠ w.heap.size + 1 := by omega); (try have : w.heap.size + 1 ≠ w9.heap.size := by omega); (try have : w9.heap.size + 1 ≠ w.heap.size := by omega); (try have : w.heap.size ≠ w9.heap.size + 1 := by omega); (try have : w9.heap.size + 1 ≠ w.heap.size + 1 := by omega); (try have : w.heap.size + 1 ≠ w9.heap.size + 1 := by omega); (try have zb7 : Hid (ZBlk w9 (w7.heap.size)) := by first | exact SBlock.below ((id za7.out : SBlock _ _ _ _ _)) bBh.out | exact SBlock.below ((id za7.out : SBlock _ _ _ _ _).drew) bBh.out | exact SBlock.below ((SBlock.alloc za7.out _)) bBh.out | exact SBlock.below ((SBlock.alloc za7.out _).drew) bBh.out | exact SBlock.below (((SBlock.alloc za7.out _).alloc _)) bBh.out | exact SBlock.below (((SBlock.alloc za7.out _).alloc _).drew) bBh.out); (try have zb8 : Hid (ZBlk w9 (w7.heap.size + 1)) := by first | exact SBlock.below ((id za8.out : SBlock _ _ _ _ _)) bBh.out | exact SBlock.below ((id za8.out : SBlock _ _ _ _ _).drew) bBh.out | exact SBlock.below ((SBlock.alloc za8.out _)) bBh.out | exact SBlock.below ((SBlock.alloc za8.out _).drew) bBh.out | exact SBlock.below (((SBlock.alloc za8.out _).alloc _)) bBh.out | exact SBlock.below (((SBlock.alloc za8.out _).alloc _).drew) bBh.out); (try have zc7 : Hid (ZBlk w9 (w8.heap.size)) := by first | exact SBlock.below (ZBlk.new w8) bBh.out | exact SBlock.below (ZBlk.new w8).drew bBh.out | exact SBlock.below ((ZBlk.new w8).alloc _) bBh.out | exact SBlock.below ((ZBlk.new w8).alloc _).drew bBh.out); (try have zc8 : Hid (ZBlk w9 (w8.heap.size + 1)) := by first | exact SBlock.below (by have := ZBlk.new (w8.alloc (.cells #[.slice none 0 0, .slice none 0 0, .slice none 0 0] 33)); rw [nblk_alloc'] at this; exact this) bBh.out | exact SBlock.below (by have := ZBlk.new (w8.alloc (.cells #[.slice none 0 0, .slice none 0 0, .slice none 0 0] 33)); rw [nblk_alloc'] at this; exact this.drew) bBh.out); (try (have hq := ZBlk.facts (w := w9) (p := w7.heap.size) zb7.out; obtain ⟨⟨xb70, xb71, xb72⟩, xb7f, xb7a, xb7g⟩ := hq; have xb7a0 := fun o => (xb7a o).1; have xb7a1 := fun o => (xb7a o).2.1; have xb7a2 := fun o => (xb7a o).2.2; clear xb7a)); (try (have hq := ZBlk.facts (w := w9) (p := w7.heap.size + 1) zb8.out; obtain ⟨⟨xb80, xb81, xb82⟩, xb8f, xb8a, xb8g⟩ := hq; have xb8a0 := fun o => (xb8a o).1; have xb8a1 := fun o => (xb8a o).2.1; have xb8a2 := fun o => (xb8a o).2.2; clear xb8a)); (try (have hq := ZBlk.facts (w := w9) (p := w8.heap.size) zc7.out; obtain ⟨⟨xc70, xc71, xc72⟩, xc7f, xc7a, xc7g⟩ := hq; have xc7a0 := fun o => (xc7a o).1; have xc7a1 := fun o => (xc7a o).2.1; have xc7a2 := fun o => (xc7a o).2.2; clear xc7a)); (try (have hq := ZBlk.facts (w := w9) (p := w8.heap.size + 1) zc8.out; obtain ⟨⟨xc80, xc81, xc82⟩, xc8f, xc8a, xc8g⟩ := hq; have xc8a0 := fun o => (xc8a o).1; have xc8a1 := fun o => (xc8a o).2.1; have xc8a2 := fun o => (xc8a o).2.2; clear xc8a))))
    all_goals go_wp2_with fail
    all_goals go_meet
    all_goals
      refine ⟨_, _, rfl, rfl, ⟨_, _, _, _, _, _, _, _, _, _, ?_, ?_, tAh.out.out ?_, tBh.out.out ?_, ?_, ?_, ?_, ?_⟩, ?_⟩
      · repeat (first | with_reducible exact SBlock.new _ _ _ _ | with_reducible exact SBlock.new1 _ _ _ _ _ | with_reducible exact ZBlk.new _ | with_reducible exact zb7.out | with_reducible exact zb8.out | with_reducible exact zc7.out | with_reducible exact zc8.out | with_reducible refine SBlock.drew ?_ | ((with_reducible refine SBlock.other ?_ ?_); rotate_left; (first | omega | ((repeat (first | rw [nblk_alloc'] | rw [size_setCell'] | rw [size_drew'])); omega))) | with_reducible refine SBlock.set3z ?_ | with_reducible refine SBlock.alloc ?_ _ | with_reducible refine ZBlk.alloc ?_ _ | with_reducible refine ZBlk.drew ?_ | ((with_reducible refine ZBlk.other ?_ ?_); rotate_left; (first | omega | ((repeat (first | rw [nblk_alloc'] | rw [size_setCell'] | rw [size_drew'])); omega))))
      · repeat (first | with_reducible exact SBlock.new _ _ _ _ | with_reducible exact SBlock.new1 _ _ _ _ _ | with_reducible exact ZBlk.new _ | with_reducible exact zb7.out | with_reducible exact zb8.out | with_reducible exact zc7.out | with_reducible exact zc8.out | with_reducible refine SBlock.drew ?_ | ((with_reducible refine SBlock.other ?_ ?_); rotate_left; (first | omega | ((repeat (first | rw [nblk_alloc'] | rw [size_setCell'] | rw [size_drew'])); omega))) | with_reducible refine SBlock.set3z ?_ | with_reducible refine SBlock.alloc ?_ _ | with_reducible refine ZBlk.alloc ?_ _ | with_reducible refine ZBlk.drew ?_ | ((with_reducible refine ZBlk.other ?_ ?_); rotate_left; (first | omega | ((repeat (first | rw [nblk_alloc'] | rw [size_setCell'] | rw [size_drew'])); omega))))
      · repeat (first | with_reducible exact Out.refl _ _ _ | with_reducible refine Out.drew ?_ | ((with_reducible refine Out.setCell ?_ _ ?_); rotate_left; (first | omega | ((repeat (first | rw [nblk_alloc'] | rw [size_setCell'] | rw [size_drew'])); omega))) | ((with_reducible refine Out.alloc ?_ _ ?_); rotate_left; (first | omega | ((repeat (first | rw [nblk_alloc'] | rw [size_setCell'] | rw [size_drew'])); omega))) | ((with_reducible refine Out.below ?_ bBh.out ?_); rotate_left; (first | omega | ((repeat (first | rw [nblk_alloc'] | rw [size_setCell'] | rw [size_drew'])); omega))))
      · repeat (first | with_reducible exact Out.refl _ _ _ | with_reducible refine Out.drew ?_ | ((with_reducible refine Out.setCell ?_ _ ?_); rotate_left; (first | omega | ((repeat (first | rw [nblk_alloc'] | rw [size_setCell'] | rw [size_drew'])); omega))) | ((with_reducible refine Out.alloc ?_ _ ?_); rotate_left; (first | omega | ((repeat (first | rw [nblk_alloc'] | rw [size_setCell'] | rw [size_drew'])); omega))))
      · (first | omega | ((repeat (first | rw [nblk_alloc'] | rw [size_setCell'] | rw [size_drew'])); omega))
      · (first | omega | ((repeat (first | rw [nblk_alloc'] | rw [size_setCell'] | rw [size_drew'])); omega))
      · (first | omega | ((repeat (first | rw [nblk_alloc'] | rw [size_setCell'] | rw [size_drew'])); omega))
      · (first | omega | ((repeat (first | rw [nblk_alloc'] | rw [size_setCell'] | rw [size_drew'])); omega))
      · repeat (first | with_reducible exact hb7h.out.trans (BBh.out.mono hb7h.out.size) | with_reducible refine Below.drew ?_ | ((with_reducible refine below_set ?_ ?_); rotate_left; (first | omega | ((repeat (first | rw [nblk_alloc'] | rw [size_setCell'] | rw [size_drew'])); omega))) | ((with_reducible refine Below.alloc ?_ ?_ _); rotate_left; (first | omega | ((repeat (first | rw [nblk_alloc'] | rw [size_setCell'] | rw [size_drew'])); omega))))
  case rest =>
  obtain ⟨pa, pb, rfl, rfl, hTT, hbc⟩ := hcut
  obtain ⟨a1, c1, a2, c2, e1, e2, f1, f2⟩ := hTT.nodes
  have hal := asc_length a.nodes
  have hbl := asc_length b.nodes
  have hTTh := Lib.hid hTT
  have hbch := Lib.hid hbc
  have heqI := Lib.hid (eqInts_any a1 a2 _ _ c1 c2 (asc a.nodes) (asc b.nodes) wc rfl rfl (by omega) (by omega) f1 f2)
  have hbig : (asc a.nodes).length ≤ 25 := by omega
  have hbig2 : (asc b.nodes).length ≤ 25 := by omega
  clear hTT hbc f1 f2 k0 k1 k2 k3 k4 k5 hal hbl
  go_wp2_with fail
  refine (unhide heqI).mono ?_
  rintro e wd ⟨rfl, q, hwd⟩
  rw [← wantE_zero]
  have hbd : Below wc.heap.size wc wd := by rw [hwd]; exact drewN_below _ _
  have hbdh := Lib.hid hbd
  obtain ⟨z0, hz0⟩ : ∃ z, z = wantE a b 0 := ⟨_, rfl⟩
  rw [← hz0]
  have hz0h := Lib.hid hz0
  clear hwd hbd heqI e1 e2 hz0
  go_wp2_with fail
  go_loopw [9, 10] (fun s i wr => ∃ (k : Nat), k ≤ (asc a.nodes).length ∧ i = .int .i64 k ∧ s = .bool (wantE a b k) ∧ Below wc.heap.size wc wr) (fun _ i _ => (asc a.nodes).length - (intOf i).toNat)
  case atStart => exact ⟨0, Nat.zero_le _, rfl, congrArg Value.bool hz0h.out, hbdh.out⟩
  case round =>
    obtain ⟨k, hk, rfl, rfl, hb⟩ := hrel
    have hTr := hTTh.out.below hb
    obtain ⟨a1, c1, a2, c2, e1, _, _, _⟩ := hTr.nodes
    have hTrh := Lib.hid hTr
    have hbh := Lib.hid hb
    clear hTr hb
    obtain ⟨z, hz⟩ : ∃ z, z = wantE a b k := ⟨_, rfl⟩
    rw [← hz]
    have hzh := Lib.hid hz
    clear hz
    by_cases hgo : k < (asc a.nodes).length ∧ z = true
    · obtain ⟨hlt, hzt⟩ := hgo
      subst hzt
      have hnext := Lib.hid (wantE_succ hzh.out.symm)
      have hab := wantE_true hzh.out.symm
      have hlen : (asc b.nodes).length = (asc a.nodes).length := by rw [hab]
      obtain ⟨a0, ca, ga, b0, cb, gb, r1, r2, r3, r4, r5, r6, r7, r8⟩ := hTrh.out.row hoa.out hob.out hlt hab
      obtain ⟨ra, hra⟩ : ∃ ra, ra = (rowsB a).getD k [] := ⟨_, rfl⟩
      obtain ⟨rb, hrb⟩ : ∃ rb, rb = (rowsB b).getD k [] := ⟨_, rfl⟩
      rw [← hra] at r5 r7
      rw [← hrb] at r6 r8
      have hnx : Hid (wantE a b (k + 1) = decide (ra = rb)) := by unfold Hid; rw [hnext.out, hra, hrb]
      have heqB := Lib.hid (fun q => eqBools_any (some ⟨ga, 0, none⟩) (some ⟨gb, 0, none⟩) _ _ (asc a.nodes).length (asc b.nodes).length ra rb (wr.drewN q) r7.symm r8.symm (by omega) (by omega) (r5.drewN q) (r6.drewN q))
      have hlt2 : k < (asc b.nodes).length := by omega
      clear hab hlen hra hrb r5 r6 r7 r8 hnext
      go_wp2_with fail
      go_quiet ((go_at_call 10; exact Calls.quiet_of (heqB.out _)))
      go_wp2_with fail
      go_roundw
      case rel => exact ⟨k + 1, by omega, by go_num, congrArg Value.bool hnx.out.symm, below_draws hbh.out _⟩
      case measure => simp [intOf]; omega
    · have hend : Hid (z = r) := by
        unfold Hid
        rw [hrh.out, ← wantE_all hoa.out hob.out]
        by_cases hlt : k < (asc a.nodes).length
        · have hzf : z = false := by cases z <;> simp_all
          rw [hzf, wantE_stop hk (hzh.out.symm.trans hzf)]
        · have : k = (asc a.nodes).length := by omega
          rw [hzh.out, this]
      have hz' := hend.out
      have hbr := hbch.out.trans (hbh.out.mono hbch.out.size)
      obtain ⟨hbw, hg1, _, ⟨k0, k1, k2⟩, _, _, _⟩ := hK.out wr hbr
      have hself := Lib.hid (equal_any a a an cn ae ce an cn ae ce wr (by omega) (by omega) (by omega) (by omega) hg1 hg1 hoa.out hoa.out)
      have hbwh := Lib.hid hbw
      clear hbr hbw hg1
      by_cases hlt : k < (asc a.nodes).length
      · have hzf : z = false := by cases z <;> simp_all
        have hrf : r = false := by rw [← hz']; exact hzf
        clear hgo hz' hend hzh hrh
        subst hzf
        subst hrf
        go_wp2_with fail
        refine (unhide hself).mono ?_
        rintro e wf ⟨rfl, hbf⟩
        rw [eqP_self]
        have hbf' := Lib.hid (hbwh.out.trans (hbf.mono hbwh.out.size))
        clear hbf hself
        go_wp2_with fail
        go_ret
        exact ⟨rfl, hbf'.out⟩
      · clear hgo hzh hend hrh
        subst hz'
        have hrr : (z == z) = true := by simp
        go_wp2_with fail
        refine (unhide hself).mono ?_
        rintro e wf ⟨rfl, hbf⟩
        rw [eqP_self]
        have hbf' := Lib.hid (hbwh.out.trans (hbf.mono hbwh.out.size))
        clear hbf hself
        go_wp2_with fail
        go_ret
        exact ⟨rfl, hbf'.out⟩
end Go.Proofs.Ytaolfdmmadfncaa
