/- laws.FnComponentsTold: the walk. -/
import Derived.Test.YtpmphefmmcbpaaaGreatCompImpl
import Derived.Test.YtpmphefmmcbpaaaGreatSpecC
import Derived.Test.YtpmphefmmcbpaaaGreatLists
import Derived.Test.YtpmphefmmcbpaaaGreatFewOf
namespace Go.Proofs.YtpmphefmmcbpaaaGreat
open Go.RowKit

theorem LRows.below {w w' : World} {a : Option Addr} {L : List (List Int)} (h : LRows w a L) (hb : Below w.heap.size w w') : LRows w' a L := by
  obtain ⟨vs, h1, h2, h3⟩ := h
  refine ⟨vs, h1, h2.below hb, fun k hk => ?_⟩
  obtain ⟨ax, cx, h4, h5⟩ := h3 k hk
  exact ⟨ax, cx, h4, h5.below hb⟩

theorem lrows_same {a1 a2 : Option Addr} {c1 c2 n : Nat} {L : List (List Int)} {w : World} (hn : n = L.length) (hL : L.length ≤ 1000) (hl : ∀ c ∈ L, c.length ≤ 1000) (h1 : LRows w a1 L) (h2 : LRows w a2 L) :
    Calls Tryz.prog 28 #[.slice a1 n c1, .slice a2 n c2] w fun e w' => e = .returned (.bool true) ∧ ∃ q, w' = w.drewN q := by
  obtain ⟨vs1, x1, x2, x3⟩ := h1
  obtain ⟨vs2, y1, y2, y3⟩ := h2
  exact sameLists_true a1 a2 c1 c2 n vs1 vs2 L w hn hL hl x2 y2 (by omega) (by omega) x3 y3

theorem ordC_length (M : List (List Int)) : (ordC M).length = M.length := by
  unfold ordC headsC
  rw [List.length_map, asc_length, List.length_map]

theorem ordC_mem {M : List (List Int)} (hnd : (headsC M).Nodup) : ∀ c ∈ ordC M, c ∈ M := fun c hc => by
  obtain ⟨x, hx, rfl⟩ := List.mem_map.1 hc
  obtain ⟨d, hd, rfl⟩ := List.mem_map.1 (asc_mem.1 hx)
  rw [byHead_mem hnd hd]
  exact hd

/-- laws.sortedLists of the classes. -/
theorem sortedC_any (B : Nat) (a : Option Addr) (n cap : Nat) (vs : List Value) (C : List (List Int)) (w : World) (hn : n = C.length) (hnd : C.flatten.Nodup) (hne : ∀ c ∈ C, c ≠ []) (hfl : C.flatten.length ≤ 1000) (ho : w.ownsRow B 22 1 (.slice a n cap) n vs) (hr : IRows w B vs C) :
    Calls Tryz.prog 29 #[.slice a n cap] w fun e w' => ∃ a' cap', e = .returned (.slice a' n cap') ∧ LRows w' a' (ordC C) ∧ Below w.heap.size w w' := by
  have hh := headsC_nodup hnd hne
  have hCl := Nat.le_trans (flat_le hne) hfl
  have hS : HSort w none (headsC C) (byHead C vs (.slice none 0 0)) (byHead C C []) := hsort_of hh hne (fun c hc => Nat.le_trans (memLe hc) hfl) hr (fun j _ => by simp)
  have hR : HRows w (headsC C) (byHead C vs (.slice none 0 0)) (byHead C C []) := fun x hx => by
    obtain ⟨ax, cx, t, h1, h2, h3, h4⟩ := hS x hx
    exact ⟨ax, cx, t, h1, h4 w (World.grownBy.refl _ _), h2, h3⟩
  rw [← byHead_map (d := .slice none 0 0) hh hr.1] at ho
  have hhl : (headsC C).length = C.length := by unfold headsC; rw [List.length_map]
  refine (sortedLists_any B a n cap (headsC C) _ (byHead C C []) w (by omega) (by omega) ho hR hh).mono ?_
  rintro e w' ⟨a', cap', rfl, own, hb⟩
  refine ⟨a', cap', rfl, ?_, hb⟩
  refine lrows_of (own := none) hS ⟨hb.os, hb.tape, hb.output, hb.size, fun k hk _ => hb.block k hk⟩ own

/-- One node. -/
def g7 : Gr := ⟨false, [7], []⟩
theorem ok7 : okGraph g7 = true := by decide

theorem comps7 {M : List (List Int)} (h : Comps (sFrom g7) (asc g7.nodes) (asc g7.nodes).length M) : M.length = 1 := by
  have h1 : M.flatten.length ≤ (asc g7.nodes).length := nodup_len h.nd (h.sub (from_sym rfl))
  rw [asc_length] at h1
  have h2 : M.length ≤ M.flatten.length := flat_le h.ne
  have h3 : (7 : Int) ∈ M.flatten := h.all 7 (by rw [List.take_length]; exact asc_mem.2 (by simp [g7]))
  have h4 : M ≠ [] := fun e => by rw [e] at h3; cases h3
  have h5 := List.length_pos_iff.2 h4
  have h6 : g7.nodes.length = 1 := rfl
  omega

set_option maxRecDepth 100000 in
set_option maxHeartbeats 1000000 in
theorem compsLaw_any (w : World) : Calls Tryz.prog 31 #[] w fun e w' => e = .returned (.bool true) ∧ Below w.heap.size w w' := by
  obtain ⟨w1, hw1⟩ : ∃ w1, w1 = w.alloc (.cells #[.int .i64 7] 3) := ⟨_, rfl⟩
  have hb1 : Below w.heap.size w w1 := by rw [hw1]; exact alloc_below w _
  have c1 : Cells w1 (some ⟨w.heap.size, 0, none⟩) (ints [7]) := by
    have hblk : w1.heap[w.heap.size]? = some (.cells #[.int .i64 7] 3 (0, 0)) := by rw [hw1]; exact heap_alloc_new _ _
    refine Cells.mk (lt_of_block hblk) fun j u hj => ?_
    rw [cell_of_row w1 w.heap.size (0 + j) _ _ _ hblk]
    have e : ints [7] = [.int .i64 7] := rfl
    rw [e] at hj
    simpa using hj
  have h64 : ∀ x ∈ g7.nodes, In64 x := fun x hx => by
    have h : x = 7 := by simpa [g7] using hx
    subst h
    show (Lit.int .i64 7).wf = true
    rfl
  have e1 : g7.dir = false := rfl
  have e2 : g7.nodes.length = 1 := rfl
  have e3 : g7.edges.length = 0 := rfl
  have hwa := components_any g7 (some ⟨w.heap.size, 0, none⟩) 1 none 0 w1 (by rw [e2]; omega) (by rw [e3]; omega) ⟨c1, .inl rfl, fun e => by cases e⟩ ok7 rfl h64
  rw [e1, e2, e3] at hwa
  clear h64 e1 e2 e3 c1
  rw [hw1] at hwa
  have hwah := Lib.hid hwa
  have hb1h := Lib.hid hb1
  have hw1h := Lib.hid hw1
  clear hw1 hb1 hwa
  go_enter Tryz.func31, Tryz.ntmps31
  go_wp2_with fail
  refine (unhide hwah).mono ?_
  rintro e w2 ⟨M, a, c, hM, rfl, _, hb2⟩
  rw [← hw1h.out] at hb2
  rw [comps7 hM]
  have hbw : Hid (Below w.heap.size w w2) := hb1h.out.trans (hb2.mono hb1h.out.size)
  clear hM hb2 hwah
  go_wp2_with fail
  go_ret
  exact ⟨rfl, hbw.out⟩
set_option maxRecDepth 100000 in
set_option maxHeartbeats 8000000 in
theorem compTold_any (g : Gr) (an : Option Addr) (cn : Nat) (ae : Option Addr) (ce : Nat) (w : World) (hm : g.nodes.length ≤ 9223372036854775807) (hm' : g.edges.length ≤ 9223372036854775807) (hg : GrAt w g an cn ae) (h64 : ∀ x ∈ g.nodes, In64 x) :
    Calls Tryz.prog 6 #[.agg #[.bool g.dir, .slice an g.nodes.length cn, .slice ae g.edges.length ce]] w
      fun e w' => e = .returned (.bool true) ∧ Below w.heap.size w w' := by
  obtain ⟨w1, hw1⟩ : ∃ w1, w1 = w.alloc (.cells #[.bool g.dir, .slice an g.nodes.length cn, .slice ae g.edges.length ce] 25) := ⟨_, rfl⟩
  have hb1 : Below w.heap.size w w1 := by rw [hw1]; exact alloc_below w _
  have hz1 : w1.heap.size = w.heap.size + 1 := by rw [hw1]; simp
  have k0 : w1.cell? ⟨w.heap.size, 0, none⟩ = some (.bool g.dir) := by rw [hw1]; simp
  have k1 : w1.cell? ⟨w.heap.size, 1, none⟩ = some (.slice an g.nodes.length cn) := by rw [hw1]; simp
  have k2 : w1.cell? ⟨w.heap.size, 2, none⟩ = some (.slice ae g.edges.length ce) := by rw [hw1]; simp
  have hK : Hid (∀ wr, Below w1.heap.size w1 wr → (Below w.heap.size w wr ∧ GrAt wr g an cn ae) ∧ wr.cell? ⟨w.heap.size, 0, none⟩ = some (.bool g.dir) ∧ wr.cell? ⟨w.heap.size, 1, none⟩ = some (.slice an g.nodes.length cn) ∧ wr.cell? ⟨w.heap.size, 2, none⟩ = some (.slice ae g.edges.length ce)) :=
    fun wr h => ⟨⟨hb1.trans (h.mono (by omega)), (hg.below hb1).below h⟩, cell_below h k0, cell_below h k1, cell_below h k2⟩
  have hfits := Lib.hid (fits_any g an cn ae ce w1 hm hm')
  rw [hw1] at hfits
  have hw1h := Lib.hid hw1
  have h64h := Lib.hid h64
  clear hg hb1 hw1 k0 k1 k2 h64
  go_enter Tryz.func6, Tryz.ntmps6
  go_wp2_with fail
  refine (unhide hfits).mono ?_
  rintro e w2 ⟨rfl, hb2⟩
  rw [← hw1h.out] at hb2
  obtain ⟨⟨hbw2, hg2⟩, c0, c1, c2⟩ := hK.out w2 hb2
  have hb2h := Lib.hid hb2
  have hbw2h := Lib.hid hbw2
  rcases hf : fitsB g with _ | _
  · clear hb2 hbw2
    go_wp2_with fail
    go_ret
    exact ⟨rfl, hbw2h.out⟩
  have hfew := Lib.hid (fewOf_any g an cn ae ce false w2 14 (by omega) hg2)
  obtain ⟨fw, hfw⟩ : ∃ fw, fw = (g.dir == false && fewB g 14) := ⟨_, rfl⟩
  rw [← hfw] at hfew
  have hfwh := Lib.hid hfw
  clear hb2 hbw2 hg2 hfits hfw hf
  go_wp2_with fail
  refine (unhide hfew).mono ?_
  rintro e w3 ⟨rfl, hb3⟩
  have hb3' := hb2h.out.trans (hb3.mono hb2h.out.size)
  obtain ⟨⟨hbw3, hg3⟩, d0, d1, d2⟩ := hK.out w3 hb3'
  have hbw3h := Lib.hid hbw3
  have hb3h := Lib.hid hb3'
  have hg3h := Lib.hid hg3
  clear hb3 hb3' hbw3 hg3 hfew c0 c1 c2
  cases fw
  · go_wp2_with fail
    go_ret
    exact ⟨rfl, hbw3h.out⟩
  have hfw' := hfwh.out.symm
  rw [Bool.and_eq_true] at hfw'
  have hdir0 : g.dir = false := by have := hfw'.1; simpa using this
  have hfw2 := hfw'.2
  unfold fewB at hfw2
  rw [Bool.and_eq_true, Bool.and_eq_true] at hfw2
  have hn14 : g.nodes.length ≤ 14 := of_decide_eq_true hfw2.1.1
  have he112 : g.edges.length ≤ 8 * 14 := of_decide_eq_true hfw2.1.2
  have hok := Lib.hid hfw2.2
  have hco := Lib.hid (components_any g an cn ae ce w3 (by omega) (by omega) hg3h.out hok.out hdir0 h64h.out)
  have hsp := Lib.hid (fun (W : World) (hW : Below w1.heap.size w1 W) => specComps_any g an cn ae ce W (by omega) (by omega) (hK.out W hW).1.2 hdir0)
  have hsym := Lib.hid (from_sym hdir0)
  clear hfwh hfw' hfw2 hdir0 hm hm'
  go_wp2_with fail
  refine (unhide hco).mono ?_
  rintro e w4 ⟨M, la, lc, hM, rfl, hlr, hb4⟩
  have hb4' : Below w1.heap.size w1 w4 := hb3h.out.trans (hb4.mono hb3h.out.size)
  obtain ⟨⟨hbw4, _⟩, c0, c1, c2⟩ := hK.out w4 hb4'
  have hMh := Lib.hid hM
  have hlrh := Lib.hid hlr
  have hb4h := Lib.hid hb4'
  have hMfl : M.flatten.length ≤ 14 := by
    have h1 := nodup_len hM.nd (hM.sub hsym.out)
    rw [asc_length] at h1
    omega
  obtain ⟨n, hnM⟩ : ∃ n, n = M.length := ⟨_, rfl⟩
  rw [← hnM]
  have hnMh := Lib.hid hnM
  have hsp4 := Lib.hid (hsp.out w4 hb4')
  clear hlr hb4 hb4' hM hnM hco d0 d1 d2 hsp hbw4
  go_wp2_with fail
  refine (unhide hsp4).mono ?_
  rintro e w5 ⟨C, a5, c5, B, vs5, hC, rfl, own5, rows5, _, hb5⟩
  have hCM : ordC C = ordC M := ordC_eq hsym.out hC hMh.out
  have hCn : C.length = n := by
    have h1 := congrArg List.length hCM
    rw [ordC_length, ordC_length] at h1
    rw [h1, hnMh.out]
  have hCfl : C.flatten.length ≤ 1000 := by
    have h1 := nodup_len hC.nd (hC.sub hsym.out)
    rw [asc_length] at h1
    omega
  rw [hCn] at own5 ⊢
  have hso := Lib.hid (sortedC_any B a5 n c5 vs5 C w5 hCn.symm hC.nd hC.ne hCfl own5 rows5)
  have hCMh := Lib.hid hCM
  have hb5h := Lib.hid hb5
  clear hC own5 rows5 hb5 hCM hCn hCfl hsp4
  go_wp2_with fail
  refine (unhide hso).mono ?_
  rintro e w6 ⟨a6, c6, rfl, hlr6, hb6⟩
  rw [hCMh.out] at hlr6
  have hlr6' : LRows w6 la (ordC M) := (hlrh.out.below hb5h.out).below hb6
  have hnd := headsC_nodup hMh.out.nd hMh.out.ne
  have hsl := Lib.hid (lrows_same (c1 := lc) (c2 := c6) (n := n) (L := ordC M) (w := w6) (by rw [ordC_length]; exact hnMh.out) (by rw [ordC_length]; have := flat_le hMh.out.ne; omega)
    (fun c hc => by have := memLe (ordC_mem hnd c hc); omega) hlr6' hlr6)
  have hbw6 : Hid (Below w1.heap.size w1 w6) := hb4h.out.trans ((hb5h.out.trans (hb6.mono hb5h.out.size)).mono hb4h.out.size)
  clear hlr6 hlr6' hnd hb6 hso
  go_wp2_with fail
  refine (unhide hsl).mono ?_
  rintro e w7 ⟨rfl, q, rfl⟩
  have hcl := Lib.hid (compsLaw_any (w6.drewN q))
  have hbw7 : Hid (Below w1.heap.size w1 (w6.drewN q)) := below_draws hbw6.out q
  clear hsl
  go_wp2_with fail
  refine (unhide hcl).mono ?_
  rintro e w8 ⟨rfl, hb8⟩
  have hfin : Hid (Below w.heap.size w w8) := (hK.out w8 (hbw7.out.trans (hb8.mono hbw7.out.size))).1.1
  clear hb8 hcl
  go_wp2_with fail
  go_ret
  exact ⟨rfl, hfin.out⟩
end Go.Proofs.YtpmphefmmcbpaaaGreat
