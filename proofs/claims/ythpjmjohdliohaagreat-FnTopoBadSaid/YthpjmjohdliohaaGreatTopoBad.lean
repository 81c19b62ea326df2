/- laws.FnTopoBad: the walk. -/
import Derived.Test.YthpjmjohdliohaaGreatTbA
import Derived.Deep.RegionLaw
import Derived.Deep.QuietTactic
import Derived.BigRegion
namespace Go.Proofs.YthpjmjohdliohaaGreat
open Go.RowKit

set_option maxRecDepth 100000 in
set_option maxHeartbeats 16000000 in
theorem topoBad_any (g : Gr) (an : Option Addr) (cn : Nat) (ae : Option Addr) (ce : Nat) (w : World) (hm : g.nodes.length ≤ 9223372036854775807) (hm' : g.edges.length ≤ 9223372036854775807)
    (hg : GrAt w g an cn ae) (h64 : ∀ x ∈ g.nodes, In64 x) :
    Calls Tryz.prog 3 #[.agg #[.bool g.dir, .slice an g.nodes.length cn, .slice ae g.edges.length ce]] w fun e w' => e = .returned (.bool true) ∧ Below w.heap.size w w' := by
  obtain ⟨w1, hw1⟩ : ∃ w1, w1 = w.alloc (.cells #[.bool g.dir, .slice an g.nodes.length cn, .slice ae g.edges.length ce] 25) := ⟨_, rfl⟩
  have hb1 : Below w.heap.size w w1 := by rw [hw1]; exact alloc_below w _
  have hz1 : w1.heap.size = w.heap.size + 1 := by rw [hw1]; simp
  have k0 : w1.cell? ⟨w.heap.size, 0, none⟩ = some (.bool g.dir) := by rw [hw1]; simp
  have k1 : w1.cell? ⟨w.heap.size, 1, none⟩ = some (.slice an g.nodes.length cn) := by rw [hw1]; simp
  have k2 : w1.cell? ⟨w.heap.size, 2, none⟩ = some (.slice ae g.edges.length ce) := by rw [hw1]; simp
  have hK : Hid (∀ wr, Below w1.heap.size w1 wr → Below w.heap.size w wr ∧ GrAt wr g an cn ae ∧ wr.cell? ⟨w.heap.size, 0, none⟩ = some (.bool g.dir) ∧ wr.cell? ⟨w.heap.size, 1, none⟩ = some (.slice an g.nodes.length cn) ∧ wr.cell? ⟨w.heap.size, 2, none⟩ = some (.slice ae g.edges.length ce)) :=
    fun wr h => ⟨hb1.trans (h.mono (by omega)), (hg.below hb1).below h, cell_below h k0, cell_below h k1, cell_below h k2⟩
  have hfits := Lib.hid (fits_any g an cn ae ce w1 hm hm')
  rw [hw1] at hfits
  have hw1h := Lib.hid hw1
  have h64h := Lib.hid h64
  clear hg hb1 hw1 k0 k1 k2 h64
  go_enter Tryz.func3, Tryz.ntmps3
  go_wp2_with fail
  refine (unhide hfits).mono ?_
  rintro e w2 ⟨rfl, hb2⟩
  rw [← hw1h.out] at hb2
  obtain ⟨hbw2, hg2, c0, c1, c2⟩ := hK.out w2 hb2
  have hb2h := Lib.hid hb2
  have hbw2h := Lib.hid hbw2
  have hlt := Lib.hid (fun h => light_any g an cn ae ce w2 h hg2)
  clear hb2 hbw2 hg2 hfits
  rcases hf : fitsB g with _ | _
  · go_wp2_with fail
    go_ret
    exact ⟨rfl, hbw2h.out⟩
  clear hf
  by_cases hn1 : 40 < g.nodes.length
  · have hn2 : (40 : Int) < (g.nodes.length : Int) := by omega
    go_wp2_with fail
    go_ret
    exact ⟨rfl, hbw2h.out⟩
  have hn2 : ¬ (40 : Int) < (g.nodes.length : Int) := by omega
  by_cases he1 : 200 < g.edges.length
  · have he2 : (200 : Int) < (g.edges.length : Int) := by omega
    go_wp2_with fail
    go_ret
    exact ⟨rfl, hbw2h.out⟩
  have he2 : ¬ (200 : Int) < (g.edges.length : Int) := by omega
  have hlt2 := Lib.hid (hlt.out (by omega))
  go_wp2_with fail
  refine (unhide hlt2).mono ?_
  rintro e w3 ⟨rfl, hb3⟩
  have hb3h := Lib.hid (hb2h.out.trans (hb3.mono hb2h.out.size))
  have hbw3 := Lib.hid (hK.out w3 hb3h.out).1
  clear hb3 hlt hlt2 c0 c1 c2
  rcases hL : lightB g with _ | _
  · obtain ⟨_, _, c0, c1, c2⟩ := hK.out w3 hb3h.out
    go_wp2_with fail
    go_ret
    exact ⟨rfl, hbw3.out⟩
  clear hL
  obtain ⟨_, hgx, c0, c1, c2⟩ := hK.out w3 hb3h.out
  have hcx := Lib.hid (well_any g an cn ae ce w3 (by omega) (by omega) hgx)
  clear hgx
  go_wp2_with fail
  refine (unhide hcx).mono ?_
  rintro e w4 ⟨rfl, hbx⟩
  have hb4h := Lib.hid (hb3h.out.trans (hbx.mono hb3h.out.size))
  clear hbx hcx c0 c1 c2
  obtain ⟨_, hgx, c0, c1, c2⟩ := hK.out w4 hb4h.out
  have hcx := Lib.hid (sortU_any g an cn ae ce w4 (by omega) (by omega) hgx h64h.out)
  clear hgx
  go_wp2_with fail
  refine (unhide hcx).mono ?_
  rintro e w5 ⟨x4_0, x4_1, x4_2, x4_3, x4_4, x4_5, x4_6, rfl, hbx⟩
  have hb5h := Lib.hid (hb4h.out.trans (hbx.mono hb4h.out.size))
  clear hbx hcx c0 c1 c2
  obtain ⟨_, hgx, c0, c1, c2⟩ := hK.out w5 hb5h.out
  have hcx := Lib.hid (sortStU_any g an cn ae ce w5 (by omega) (by omega) hgx h64h.out)
  clear hgx
  go_wp2_with fail
  refine (unhide hcx).mono ?_
  rintro e w6 ⟨x5_0, x5_1, x5_2, x5_3, x5_4, x5_5, x5_6, rfl, hbx⟩
  have hb6h := Lib.hid (hb5h.out.trans (hbx.mono hb5h.out.size))
  clear hbx hcx c0 c1 c2
  obtain ⟨_, hgx, c0, c1, c2⟩ := hK.out w6 hb6h.out
  have hcx := Lib.hid (sccU_any g an cn ae ce w6 (by omega) (by omega) hgx h64h.out)
  clear hgx
  go_wp2_with fail
  refine (unhide hcx).mono ?_
  rintro e w7 ⟨x6_0, x6_1, x6_2, rfl, hbx⟩
  have hb7h := Lib.hid (hb6h.out.trans (hbx.mono hb6h.out.size))
  clear hbx hcx c0 c1 c2
  obtain ⟨_, hgx, c0, c1, c2⟩ := hK.out w7 hb7h.out
  have hcx := Lib.hid (compU_any g an cn ae ce w7 (by omega) (by omega) hgx h64h.out)
  clear hgx
  go_wp2_with fail
  refine (unhide hcx).mono ?_
  rintro e w8 ⟨x7_0, x7_1, x7_2, rfl, hbx⟩
  have hb8h := Lib.hid (hb7h.out.trans (hbx.mono hb7h.out.size))
  clear hbx hcx c0 c1 c2
  obtain ⟨_, hgx, c0, c1, c2⟩ := hK.out w8 hb8h.out
  have hcx := Lib.hid (degenU_any g an cn ae ce w8 (by omega) (by omega) hgx h64h.out)
  clear hgx
  go_wp2_with fail
  refine (unhide hcx).mono ?_
  rintro e w9 ⟨x8_0, x8_1, x8_2, x8_3, x8_4, x8_5, rfl, hbx⟩
  have hb9h := Lib.hid (hb8h.out.trans (hbx.mono hb8h.out.size))
  clear hbx hcx c0 c1 c2
  obtain ⟨_, hgx, c0, c1, c2⟩ := hK.out w9 hb9h.out
  have hcx := Lib.hid (kcoreU_any g an cn ae ce w9 (by omega) (by omega) hgx h64h.out)
  clear hgx
  go_wp2_with fail
  refine (unhide hcx).mono ?_
  rintro e w10 ⟨x9_0, x9_1, x9_2, rfl, hbx⟩
  have hb10h := Lib.hid (hb9h.out.trans (hbx.mono hb9h.out.size))
  clear hbx hcx c0 c1 c2
  obtain ⟨_, hgx, c0, c1, c2⟩ := hK.out w10 hb10h.out
  have hcx := Lib.hid (ucycU_any g an cn ae ce w10 (by omega) (by omega) hgx h64h.out)
  clear hgx
  go_wp2_with fail
  refine (unhide hcx).mono ?_
  rintro e w11 ⟨x10_0, x10_1, x10_2, rfl, hbx⟩
  have hb11h := Lib.hid (hb10h.out.trans (hbx.mono hb10h.out.size))
  clear hbx hcx c0 c1 c2
  obtain ⟨_, hgx, c0, c1, c2⟩ := hK.out w11 hb11h.out
  have hcx := Lib.hid (isPathI_any g an cn ae ce w11 (by omega) (by omega) hgx)
  clear hgx
  go_wp2_with fail
  refine (unhide hcx).mono ?_
  rintro e w12 ⟨x11_0, rfl, hbx⟩
  have hb12h := Lib.hid (hb11h.out.trans (hbx.mono hb11h.out.size))
  clear hbx hcx c0 c1 c2
  obtain ⟨_, hgx, c0, c1, c2⟩ := hK.out w12 hb12h.out
  have hcx := Lib.hid (equalU_any g an cn ae ce w12 (by omega) (by omega) hgx)
  clear hgx
  go_wp2_with fail
  refine (unhide hcx).mono ?_
  rintro e w13 ⟨x12_0, rfl, hbx⟩
  have hb13h := Lib.hid (hb12h.out.trans (hbx.mono hb12h.out.size))
  clear hbx hcx c0 c1 c2
  obtain ⟨hbwx, _, c0, c1, c2⟩ := hK.out w13 hb13h.out
  have hfin := Lib.hid hbwx
  clear hbwx
  rcases ho : okGraph g with _ | _ <;> rcases hd : g.dir with _ | _ <;> rw [hd] at c0 <;> clear ho hd <;>
    (go_wp2_with fail
     go_quiet (fail)
     go_wp2_with fail
     go_ret
     exact ⟨rfl, below_draws hfin.out _⟩)
end Go.Proofs.YthpjmjohdliohaaGreat
