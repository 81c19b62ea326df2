/- topo.SortStabilized without an order; impl.SortStabilized at a good directed graph. -/
import Derived.Test.YthpjmjohdliohaaGreatScc3
import Derived.Test.YthpjmjohdliohaaGreatSortA
namespace Go.Proofs.YthpjmjohdliohaaGreat
open Go.RowKit

set_option maxRecDepth 100000 in
theorem tsort3_any (pb : Nat) (ids : List Int) (outs ins : List (List Arc)) (w : World) (hids : ids.length ≤ 1000) (h64 : ∀ x ∈ ids, In64 x) (hp : PlainAt w pb ids outs ins) (hM : (sccsOf (succAs ids outs) (asc ids).reverse).length ≤ 1000)
    (hl : ∀ c ∈ sccsOf (succAs ids outs) (asc ids).reverse, c.length ≤ 1000) :
    Calls Tryz.prog 22 #[.iface 47 (.agg #[.pointer (some ⟨pb, 0, none⟩)]), .nilFunc] w (TSortPost w (sccsOf (succAs ids outs) (asc ids).reverse)) := by
  have hon := order_nil
  have hs := Lib.hid (stab3_any pb ids outs ins w hids h64 hp)
  unfold lexv at hs
  obtain ⟨M, hMe⟩ : ∃ M, M = sccsOf (succAs ids outs) (asc ids).reverse := ⟨_, rfl⟩
  rw [← hMe] at hs hM hl ⊢
  have hlh : Hid (∀ k (hk : k < M.length), M[k].length ≤ 1000) := fun k hk => hl _ (List.getElem_mem hk)
  clear hp h64 hl hMe
  go_enter Tryz.func22, Tryz.ntmps22
  go_wp2_with fail
  refine (unhide hs).mono ?_
  rintro e w1 ⟨a, c, B, vs, rfl, hwB, hov, hrows, hap, hnd, hB, hb⟩
  have hsf := Lib.hid (sortedFrom_any a c B vs M w1 hM hlh.out hov hrows hap hnd hB)
  have hbh := Lib.hid hb
  clear hs hov hrows hap hnd hb
  go_wp2_with fail
  refine (unhide hsf).mono ?_
  rintro e w2 ⟨a2, c2, er, rfl, ho2, he2, hb2⟩
  have hfin : Hid (TSortPost w M (.returned (.tuple #[.slice a2 M.length c2, er])) w2) := by
    obtain ⟨a3, c3, e3, _, hcs, _⟩ := owns_cells ho2
    injection e3 with e4 _ e5
    subst e4
    exact ⟨a2, c2, w1.heap.size, B, er, rfl, by rw [← topV_map]; exact hcs, he2, hbh.out.trans (hb2.mono hwB)⟩
  clear ho2 he2 hb2 hsf
  go_wp2_with fail
  go_ret2
  exact hfin.out

/-- The components as Tarjan's algorithm finds them in the order of the numbers. -/
def stComps (g : Gr) : List (List Int) := sccsOf (succAs (asc g.nodes) (outsOf g)) (asc (asc g.nodes)).reverse

set_option maxRecDepth 100000 in
set_option maxHeartbeats 2000000 in
theorem sortSt_any (g : Gr) (an : Option Addr) (cn : Nat) (ae : Option Addr) (ce : Nat) (w : World) (hn : g.nodes.length ≤ 1000) (he : g.edges.length ≤ 1048576) (hg : GrAt w g an cn ae) (hok : okGraph g = true) (hd : g.dir = true) (h64 : ∀ x ∈ g.nodes, In64 x) :
    Calls Tryz.prog 8 #[.agg #[.bool g.dir, .slice an g.nodes.length cn, .slice ae g.edges.length ce]] w (SortRes w (stComps g)) := by
  have how := oneWay_any g an cn ae ce (w.alloc (.cells #[.bool g.dir, .slice an g.nodes.length cn, .slice ae g.edges.length ce] 25)) (by omega) he (hg.below (alloc_below w _))
  have howh := Lib.hid how
  have hokh := Lib.hid hok
  have hdh := Lib.hid hd
  have h64h := Lib.hid h64
  have hids : (asc g.nodes).length ≤ 1000 := by rw [asc_length]; exact hn
  have hsok := Lib.hid (sccs_ok (ids := (asc (asc g.nodes)).reverse) (succ := succAs (asc g.nodes) (outsOf g)) (fun x hx y hy => by
    rw [List.mem_reverse, asc_mem] at hx ⊢
    unfold succAs at hy
    rw [List.mem_reverse, asc_mem] at hy
    have := (gSucc_mem hok (asc_mem.1 hx)).1 hy
    exact asc_mem.2 this.1))
  have hfl : (stComps g).flatten.length ≤ 1000 := by
    have h1 := hsok.out.nd
    have h2 := nodup_len h1 (fun x hx => (hsok.out.mem x).1 hx)
    rw [List.length_reverse, asc_length] at h2
    show (sccsOf (succAs (asc g.nodes) (outsOf g)) (asc (asc g.nodes)).reverse).flatten.length ≤ 1000
    omega
  have hLl : (stComps g).length ≤ 1000 := by
    have h2 : (stComps g).length ≤ (stComps g).flatten.length := flatten_len hsok.out.ne
    omega
  have hcl : Hid (∀ k (hk : k < (stComps g).length), (stComps g)[k].length ≤ 1000) := fun k hk => by have := mem_len (List.getElem_mem hk); omega
  have hcl2 : Hid (∀ k (hk : k < (cycL (stComps g) (stComps g).length).reverse.length), (cycL (stComps g) (stComps g).length).reverse[k].length ≤ 1000) := fun k hk => by
    have hm := List.mem_reverse.1 (List.getElem_mem hk)
    obtain ⟨d, hd', e⟩ := cycL_mem hm
    rw [e, asc_length]
    rcases hd' with rfl | hd'
    · exact Nat.zero_le _
    · have := mem_len hd'; omega
  clear how hok hd h64 hg hsok hfl
  go_enter Tryz.func8, Tryz.ntmps8
  go_wp2_with fail
  refine (unhide howh).mono ?_
  rintro e w1 ⟨pb, rfl, hb1, hp⟩
  rw [hokh.out, hdh.out]
  have hp1 := hp hokh.out
  have hb1' : Below w.heap.size w w1 := (alloc_below w _).trans (hb1.mono (by simp))
  have hts := Lib.hid (fun o => tsort3_any pb (asc g.nodes) _ _ (w1.alloc o) hids (fun x hx => h64h.out x (asc_mem.1 hx)) (hp1.below (alloc_below w1 o)) hLl (fun c hc => by obtain ⟨k, hk, e⟩ := List.mem_iff_getElem.1 hc; rw [← e]; exact hcl.out k hk))
  have hb1h := Lib.hid hb1'
  clear hb1 hp hp1 hb1' howh
  go_wp2_with fail
  refine (hts.out _).mono ?_
  rintro e w4 ⟨a, c, S, B, er, rfl, hcs, her, hb4⟩
  have hLs : sccsOf (succAs (asc g.nodes) (tabs bitsOf (asc g.nodes) g.dir g.edges).1) (asc (asc g.nodes)).reverse = stComps g := rfl
  rw [hLs] at hcs her ⊢
  obtain ⟨M, hM⟩ : ∃ M, M = stComps g := ⟨_, rfl⟩
  rw [← hM] at hcs her hLl hcl2 ⊢
  have hcy := cycL_le M M.length
  have hsl := Lib.hid (slots_any a M.length c S B (M.map topO).reverse er (cycL M M.length).reverse w4 (by rw [List.length_reverse, List.length_map]) (by rw [List.length_reverse, List.length_map]; exact hLl) (by rw [List.length_reverse]; omega) hcl2.out hcs her)
  have hbw : Hid (Below w.heap.size w w4) := hb1h.out.trans (((alloc_below w1 _).trans (hb4.mono (by simp))).mono hb1h.out.size)
  have hMh := Lib.hid hM
  clear hts hcs her hb4 hLs hcl hcl2 hM hcy
  go_wp2_with fail
  refine (unhide hsl).mono ?_
  rintro e w5 ⟨a1, c1, a2, c2, vs, rfl, ho5, hv5, hr5, _, hb5⟩
  have e1 : ((M.map topO).reverse).length = M.length := by rw [List.length_reverse, List.length_map]
  have e2 : (cycL M M.length).reverse.length = (cycL M M.length).length := List.length_reverse
  have e3 : decide ((cycL M M.length).reverse = []) = decide (cycL M M.length = []) := by simp
  rw [e1] at ho5 ⊢
  rw [e2] at hv5 ⊢
  rw [e3]
  have hfin : Hid (SortRes w (stComps g) (.returned (.tuple #[.slice a1 M.length c1, .slice a2 (cycL M M.length).length c2, .bool (decide (cycL M M.length = [])), .bool false])) w5) := by
    rw [← hMh.out]
    exact ⟨a1, c1, a2, c2, w4.heap.size, vs, rfl, ho5, hv5, hr5, hbw.out.size, hbw.out.trans (hb5.mono hbw.out.size)⟩
  obtain ⟨n2, hn2⟩ : ∃ n2, n2 = (cycL M M.length).length := ⟨_, rfl⟩
  obtain ⟨q, hq⟩ : ∃ q, q = decide (cycL M M.length = []) := ⟨_, rfl⟩
  rw [← hn2, ← hq] at hfin ⊢
  clear ho5 hv5 hr5 hb5 hsl e1 e2 e3 hn2 hq
  go_wp2_with fail
  go_returns
  exact hfin.out
end Go.Proofs.YthpjmjohdliohaaGreat
