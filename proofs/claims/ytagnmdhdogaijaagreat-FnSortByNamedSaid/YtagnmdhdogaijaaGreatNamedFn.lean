/- laws.FnSortByNamed: the walk. -/
import Derived.Test.YtagnmdhdogaijaaGreatNamed0
import Derived.Test.YtagnmdhdogaijaaGreatOrderOf
import Derived.Deep.RegionHeld3
import Derived.Deep.AppendLies
namespace Go.Proofs.YtagnmdhdogaijaaGreat
open Go.RowKit

/-- The edges with their ends' places. -/
def namE (pl : List Int) (es : List (Int × Int × Int)) : List (Int × Int × Int) := es.map fun e => (idxI pl e.1, idxI pl e.2.1, 0)
theorem namE_succ (pl : List Int) {es : List (Int × Int × Int)} {k : Nat} (hk : k < es.length) : namE pl (es.take (k + 1)) = namE pl (es.take k) ++ [(idxI pl es[k].1, idxI pl es[k].2.1, 0)] := by
  unfold namE
  rw [List.take_succ_eq_append_getElem hk, List.map_append]; rfl
theorem namE_len (pl : List Int) (es : List (Int × Int × Int)) : (namE pl es).length = es.length := List.length_map _

theorem owns_c0 {w : World} {B : Nat} {e : TypeId} {s n c : Nat} {a : Option Addr} {xs : List Value} (h : w.ownsRow B e s (.slice a n c) n xs) (ha : a = none) : c = 0 := by
  subst ha
  obtain ⟨_, h3 | ⟨g, cap, cur, hv, _⟩⟩ := h
  · injection h3.1
  · injection hv with hv
    cases hv

theorem owns_cs {w : World} {B : Nat} {e : TypeId} {n c : Nat} {a : Option Addr} {xs : List Value} (h : w.ownsRow B e 1 (.slice a n c) n xs) : Cells w a xs := by
  obtain ⟨aa, ca, he, _, hc, _⟩ := owns_cells h
  injection he with he1 _ _
  subst he1
  exact hc

set_option maxRecDepth 100000 in
set_option linter.unusedSimpArgs false in
set_option maxHeartbeats 16000000 in
theorem named_any (g : Gr) (an : Option Addr) (cn : Nat) (ae : Option Addr) (ce b8 : Nat) (aw : Option Addr) (cw : Nat) (bs : List Nat) (w : World) (hm : g.nodes.length ≤ 9223372036854775807) (hm' : g.edges.length ≤ 9223372036854775807) (hmb : bs.length ≤ 9223372036854775807)
    (hg : GrAt w g an cn ae) (h64 : ∀ x ∈ g.nodes, In64 x) (h8 : b8 < 256) (h256 : ∀ b ∈ bs, b < 256) (hcw : Cells w aw (bytes8 bs)) :
    Calls Tryz.prog 6 #[.agg #[.bool g.dir, .slice an g.nodes.length cn, .slice ae g.edges.length ce], .int .u8 b8, .slice aw bs.length cw] w
      fun e w' => e = .returned (.bool true) ∧ Below w.heap.size w w' := by
  obtain ⟨w1, hw1⟩ : ∃ w1, w1 = w.alloc (.cells #[.bool g.dir, .slice an g.nodes.length cn, .slice ae g.edges.length ce] 25) := ⟨_, rfl⟩
  have hb1 : Below w.heap.size w w1 := by rw [hw1]; exact alloc_below w _
  have hz1 : w1.heap.size = w.heap.size + 1 := by rw [hw1]; simp
  have k0 : w1.cell? ⟨w.heap.size, 0, none⟩ = some (.bool g.dir) := by rw [hw1]; simp
  have k1 : w1.cell? ⟨w.heap.size, 1, none⟩ = some (.slice an g.nodes.length cn) := by rw [hw1]; simp
  have k2 : w1.cell? ⟨w.heap.size, 2, none⟩ = some (.slice ae g.edges.length ce) := by rw [hw1]; simp
  have hK : Hid (∀ wr, Below w1.heap.size w1 wr → (Below w.heap.size w wr ∧ GrAt wr g an cn ae ∧ Cells wr aw (bytes8 bs)) ∧ wr.cell? ⟨w.heap.size, 0, none⟩ = some (.bool g.dir) ∧ wr.cell? ⟨w.heap.size, 1, none⟩ = some (.slice an g.nodes.length cn) ∧ wr.cell? ⟨w.heap.size, 2, none⟩ = some (.slice ae g.edges.length ce)) :=
    fun wr h => ⟨⟨hb1.trans (h.mono (by omega)), (hg.below hb1).below h, (hcw.below hb1).below h⟩, cell_below h k0, cell_below h k1, cell_below h k2⟩
  have hfits := Lib.hid (fits_any g an cn ae ce w1 hm hm')
  rw [hw1] at hfits
  have hw1h := Lib.hid hw1
  have h64h := Lib.hid h64
  have h256h := Lib.hid h256
  clear hg hb1 hw1 k0 k1 k2 hcw h64 h256
  go_enter Tryz.func6, Tryz.ntmps6
  go_wp2_with fail
  refine (unhide hfits).mono ?_
  rintro e w2 ⟨rfl, hb2⟩
  rw [← hw1h.out] at hb2
  obtain ⟨⟨hbw2, hg2, _⟩, c0, c1, c2⟩ := hK.out w2 hb2
  have hb2h := Lib.hid hb2
  have hbw2h := Lib.hid hbw2
  have hfew := Lib.hid (fewOf_any g an cn ae ce true w2 25 (by omega) hg2)
  obtain ⟨fw, hfw⟩ : ∃ fw, fw = (g.dir == true && fewB g 25) := ⟨_, rfl⟩
  rw [← hfw] at hfew
  have hfwh := Lib.hid hfw
  clear hb2 hbw2 hg2 hfits hfw
  rcases hf : fitsB g with _ | _
  · go_wp2_with fail
    go_ret
    exact ⟨rfl, hbw2h.out⟩
  clear hf
  by_cases hp1 : 2147483647 < bs.length
  · have hp2 : (2147483647 : Int) < (bs.length : Int) := by omega
    go_wp2_with fail
    go_ret
    exact ⟨rfl, hbw2h.out⟩
  have hp2 : ¬ (2147483647 : Int) < (bs.length : Int) := by omega
  go_wp2_with fail
  refine (unhide hfew).mono ?_
  rintro e w3 ⟨rfl, hb3⟩
  have hb3' := hb2h.out.trans (hb3.mono hb2h.out.size)
  obtain ⟨⟨hbw3, hg3, hcw3⟩, d0, d1, d2⟩ := hK.out w3 hb3'
  have hbw3h := Lib.hid hbw3
  have hb3h := Lib.hid hb3'
  have hg3h := Lib.hid hg3
  have hcw3h := Lib.hid hcw3
  clear hb3 hb3' hbw3 hg3 hcw3 hfew c0 c1 c2
  cases fw
  · go_wp2_with fail
    go_ret
    exact ⟨rfl, hbw3h.out⟩
  by_cases hq1 : 60 < bs.length
  · have hq2 : (60 : Int) < (bs.length : Int) := by omega
    go_wp2_with fail
    go_ret
    exact ⟨rfl, hbw3h.out⟩
  have hq2 : ¬ (60 : Int) < (bs.length : Int) := by omega
  have hfw' := hfwh.out.symm
  rw [Bool.and_eq_true] at hfw'
  have hdir0 : g.dir = true := by have := hfw'.1; simpa using this
  have hdir := Lib.hid hdir0
  have hfw2 := hfw'.2
  unfold fewB at hfw2
  rw [Bool.and_eq_true, Bool.and_eq_true] at hfw2
  have hn25 : g.nodes.length ≤ 25 := of_decide_eq_true hfw2.1.1
  have he200 : g.edges.length ≤ 8 * 25 := of_decide_eq_true hfw2.1.2
  have hok := Lib.hid hfw2.2
  have hord := Lib.hid (orderOf_any g an cn ae ce b8 aw cw bs w3 (by omega) hg3h.out h8 (by omega) h256h.out hcw3h.out)
  clear hfwh hfw' hfw2 hdir0 hm hm' hmb hp1 hq1
  go_wp2_with fail
  refine (unhide hord).mono ?_
  rintro e w4 ⟨a4, c4, pl, rfl, hperm, own4, hb4⟩
  have hPl : Hid (PlOk g pl) := ⟨hok.out, hdir.out, hperm⟩
  have hpn : Hid (pl.length = g.nodes.length) := hperm.length_eq
  have hb4' := hb3h.out.trans (hb4.mono hb3h.out.size)
  obtain ⟨⟨_, _, _⟩, e0, e1, e2⟩ := hK.out w4 hb4'
  have hpc : Hid (Cells w4 a4 (ints pl)) := owns_cs own4
  have hp0 : Hid (a4 = none → c4 = 0) := owns_c0 own4
  have hb4h := Lib.hid hb4'
  clear hperm own4 hb4 hb4' hord d0 d1 d2
  obtain ⟨n, hne⟩ : ∃ n, n = g.nodes.length := ⟨_, rfl⟩
  have hneh := Lib.hid hne
  rw [← hne] at hn25 e1 ⊢
  clear hne
  go_wp2_with fail
  have hst := Lib.hid (HG.start w4)
  go_loopw [9] (fun kv wr => ∃ (k : Nat) (v1 : Value), k ≤ n ∧ kv = .int .i64 k ∧ HG w4 wr w4.heap.size (condNodes k) [] v1 (.slice none 0 0)) (fun kv _ => n - (intOf kv).toNat)
  case atStart => exact ⟨0, _, Nat.zero_le _, rfl, hst.out⟩
  case round =>
    obtain ⟨k, v1, hk, rfl, hgk⟩ := hrel
    by_cases hlt : k < n
    · obtain ⟨a1, c1, a2, c2, rfl, _, _⟩ := hgk.shape
      rw [condNodes_length] at hgk
      have f1 := hgk.at1
      have hzw := lt_of_block hgk.blk
      have ho : Hid (∀ o, (wr.alloc o).ownsRow (w4.heap.size + 1) 3 1 (.slice a1 k c1) k (ints (condNodes k))) := fun o => by have := hgk.n; rw [condNodes_length] at this; exact this.alloc o
      have hgh := Lib.hid hgk
      clear hgk e0 e1 e2
      go_wp2_with (at_builtin; refine append_law 22 3 (.int .i64 0) 1 8 Tryz.underlying22 info_int rfl (by omega) (by omega) rfl _ _ rfl (w4.heap.size + 1) a1 k c1 (ints (condNodes k)) rfl (unhide ho _) ⟨wr.heap.size, 0, none⟩ 1 1 [.int .i64 k] rfl rfl (new_one wr _ _) (one_int _) (by omega) (by simp; omega) ?_; intro b2 c2 w6 hown2 hg2 hat2; obtain ⟨s1, s2, s3⟩ := hgh.out.node (condNodes_length k).symm hg2 hown2 hat2; clear hown2 hg2 hat2 ho hgh)
      go_roundw
      case rel => exact ⟨k + 1, _, by omega, by go_num, by rw [condNodes_succ]; exact s3.out⟩
      case measure => simp [intOf]; omega
    · have hkn : n = k := by omega
      subst hkn
      clear hst
      have hgh := Lib.hid hgk
      clear hgk
      go_wp2_with fail
      go_loopw [10] (fun kv wr => ∃ (k : Nat) (v1 v2 : Value), k ≤ g.edges.length ∧ kv = .int .i64 k ∧ HG w4 wr w4.heap.size (condNodes n) (namE pl (g.edges.take k)) v1 v2) (fun kv _ => g.edges.length - (intOf kv).toNat)
      case atStart => exact ⟨0, _, _, Nat.zero_le _, rfl, by rw [List.take_zero]; exact hgh.out⟩
      case round =>
        clear e0 e1 e2 hgh
        obtain ⟨k, v1, v2, hk, rfl, hgk⟩ := hrel
        have hb1k : Hid (Below w1.heap.size w1 wr) := hb4h.out.trans (hgk.below.mono hb4h.out.size)
        obtain ⟨⟨_, hgi, _⟩, d0, d1, d2⟩ := hK.out wr hb1k.out
        rw [← hneh.out] at d1
        have hpw : Cells wr a4 (ints pl) := hpc.out.below hgk.below
        by_cases hlt : k < g.edges.length
        · obtain ⟨⟨_, hgi4, _⟩, _, _, d24⟩ := hK.out w4 hb4h.out
          obtain ⟨b, off, rfl, hbl, hrg⟩ := hgi4.edges.at (by rw [edgeCells_length]; omega)
          obtain ⟨x04, x14, _⟩ := edge_cells hrg hlt
          have x0 := cell_below hgk.below x04
          have x1 := cell_below hgk.below x14
          have hce := namE_succ pl hlt
          obtain ⟨U, hU⟩ : ∃ U, U = g.edges[k].1 := ⟨_, rfl⟩
          obtain ⟨V, hV⟩ : ∃ V, V = g.edges[k].2.1 := ⟨_, rfl⟩
          rw [← hU] at x0 x04 hce
          rw [← hV] at x1 x14 hce
          obtain ⟨a1, c1, a2, c2, rfl, rfl, _⟩ := hgk.shape
          have hE : Hid (∀ W, Below w4.heap.size w4 W → W.cell? ⟨w.heap.size, 2, none⟩ = some (.slice (some ⟨b, off, none⟩) g.edges.length ce) ∧ W.cell? ⟨b, off + k * 3, none⟩ = some (.int .i64 U) ∧ W.cell? ⟨b, off + k * 3 + 1, none⟩ = some (.int .i64 V)) := fun W hW => ⟨cell_below hW d24, cell_below hW x04, cell_below hW x14⟩
          have hbk : Hid (Below w4.heap.size w4 wr) := hgk.below
          have hrow : Hid (∀ j, (Value.slice a2 (namE pl (g.edges.take k)).length c2).ownBlock = some j → w4.heap.size ≤ j) := fun j hj => by have := (hgk.e.lt j hj).1; omega
          have hI : Hid (∀ q x, Calls Tryz.prog 21 #[.slice a4 n c4, .int .i64 x] (wr.drewN q) fun e w' => e = .returned (.int .i64 (idxI pl x)) ∧ wr.drewN q = w') := fun q x =>
            index_any a4 n c4 pl x (wr.drewN q) (by have := hpn.out; have := hneh.out; omega) (by have := hpn.out; have := hneh.out; omega) (hpw.drewN q)
          have hm : (namE pl (g.edges.take k)).length = k := by rw [namE_len, List.length_take]; omega
          rw [hm] at hgk
          have f2 := hgk.at2
          have hzw := lt_of_block hgk.blk
          have hceh := Lib.hid hce
          obtain ⟨iu, hiu⟩ : ∃ iu, iu = idxI pl U := ⟨_, rfl⟩
          obtain ⟨iv, hiv⟩ : ∃ iv, iv = idxI pl V := ⟨_, rfl⟩
          have hIU := Lib.hid (fun q => hI.out q U)
          have hIV := Lib.hid (fun q => hI.out q V)
          rw [← hiu] at hceh hIU
          rw [← hiv] at hceh hIV
          have ho : Hid (∀ o, ((wr.drew).alloc o).ownsRow (w4.heap.size + 1) 34 3 (.slice a2 k c2) k (edgeCells (namE pl (g.edges.take k)))) := fun o => by have := ((hgk.draw 1).e).alloc o; rw [hm] at this; exact this
          have hgh : Hid (HG w4 wr.drew w4.heap.size (condNodes n) (namE pl (g.edges.take k)) (.slice a1 (condNodes n).length c1) (.slice a2 k c2)) := hgk.draw 1
          have hmh := Lib.hid hm
          have hIU1 : Hid (Calls Tryz.prog 21 #[.slice a4 n c4, .int .i64 U] wr.drew fun e w' => e = .returned (.int .i64 iu) ∧ w' = wr.drew) := (hIU.out 1).mono fun e w' ⟨h1, h2⟩ => ⟨h1, h2.symm⟩
          have hIV1 : Hid (Calls Tryz.prog 21 #[.slice a4 n c4, .int .i64 V] wr.drew fun e w' => e = .returned (.int .i64 iv) ∧ w' = wr.drew) := (hIV.out 1).mono fun e w' ⟨h1, h2⟩ => ⟨h1, h2.symm⟩
          have hnew : Hid (∀ (j : Nat) u, [Value.int .i64 iu, .int .i64 iv, .int .i64 0][j]? = some u → ((wr.drew).alloc (.cells #[.int .i64 iu, .int .i64 iv, .int .i64 0] 34)).cell? ((⟨wr.heap.size, 0, none⟩ : Addr).add j) = some u) := new_three wr.drew _ _ _ _
          obtain ⟨i0, hi0, hz0, hz1, hz2⟩ := info_parts info_edge
          rw [hmh.out] at hrow
          clear hgk hU hV hce hrg hbl hgi hpw hI hiu hiv hm hIU hIV d0 d1 hgi4 d24 x04 x14
          go_wp2_with fail
          have hE2 : Hid (∀ o w6, (wr.drew.alloc o).grownBy w6 (Value.slice a2 k c2).ownBlock → (w6.cell? ⟨w.heap.size, 2, none⟩ = some (.slice (some ⟨b, off, none⟩) g.edges.length ce) ∧ w6.cell? ⟨b, off + k * 3, none⟩ = some (.int .i64 U) ∧ w6.cell? ⟨b, off + k * 3 + 1, none⟩ = some (.int .i64 V)) ∧ ∀ v, (w6.setCell ⟨w4.heap.size, 2, none⟩ v).cell? ⟨w.heap.size, 2, none⟩ = some (.slice (some ⟨b, off, none⟩) g.edges.length ce) ∧ (w6.setCell ⟨w4.heap.size, 2, none⟩ v).cell? ⟨b, off + k * 3, none⟩ = some (.int .i64 U) ∧ (w6.setCell ⟨w4.heap.size, 2, none⟩ v).cell? ⟨b, off + k * 3 + 1, none⟩ = some (.int .i64 V)) := fun o w6 hg6 => by
            have hb6 := (hbk.out.drew.alloc (by show _ ≤ wr.heap.size; omega) o).grown hg6 (by show _ ≤ ((wr.drew).alloc _).heap.size; simp; omega) (fun j e => hrow.out j e)
            exact ⟨hE.out w6 hb6, fun v => hE.out _ (hb6.setCell (Nat.le_refl _) v)⟩
          have f2' : ∀ o, (wr.drew.alloc o).cell? ⟨w4.heap.size, 2, none⟩ = some (.slice a2 k c2) := fun o => cell_alloc (w := wr.drew) f2 o
          refine wp_region_noPanic ?_
          refine wp_region_held_drew (S := fun w' => w'.cell? ⟨w.heap.size, 2, none⟩ = some (.slice (some ⟨b, off, none⟩) g.edges.length ce) ∧ w'.cell? ⟨b, off + k * 3, none⟩ = some (.int .i64 U) ∧ w'.cell? ⟨b, off + k * 3 + 1, none⟩ = some (.int .i64 V)) (by kernel_rfl) ?_ (fun hHeld => ?_)
          · (try dsimp only); go_keep
          refine wpAnyH_take (i := 0) (oi := _) (v := ?_) rfl (by kernel_rfl) (by kernel_rfl) (by kernel_rfl) (fun _ _ _ h => h) (Or.inl ⟨by rfl, ?_⟩) (by assumption) ?_
          rotate_left
          · intro w hSw; (try dsimp only at hSw); go_simp; try with_reducible rfl
          try simp only [Act.put, List.setIfInBounds_toArray, List.set_cons_zero, List.set_cons_succ]
          refine wpAnyH_take (i := 2) (oi := _) (v := ?_) rfl (by kernel_rfl) (by kernel_rfl) (by kernel_rfl) (fun _ _ _ h => h) (Or.inl ⟨by rfl, ?_⟩) (by assumption) ?_
          rotate_left
          · intro w hSw; (try dsimp only at hSw); go_simp; try with_reducible rfl
          try simp only [Act.put, List.setIfInBounds_toArray, List.set_cons_zero, List.set_cons_succ]
          refine wpAnyH_take (i := 3) (oi := _) (v := ?_) rfl (by kernel_rfl) (by kernel_rfl) (by kernel_rfl) (fun _ _ _ h => h) (Or.inl ⟨by rfl, ?_⟩) (by assumption) ?_
          rotate_left
          · intro w hSw; (try dsimp only at hSw); go_simp; try with_reducible rfl
          try simp only [Act.put, List.setIfInBounds_toArray, List.set_cons_zero, List.set_cons_succ]
          refine wpAnyH_take (i := 4) (oi := _) (v := ?_) rfl (by kernel_rfl) (by kernel_rfl) (by kernel_rfl) (fun _ _ _ h => h) (Or.inl ⟨by rfl, ?_⟩) (by assumption) ?_
          rotate_left
          · intro w hSw; (try dsimp only at hSw); go_simp; try with_reducible rfl
          try simp only [Act.put, List.setIfInBounds_toArray, List.set_cons_zero, List.set_cons_succ]
          refine wpAnyH_take (i := 5) (oi := _) (v := ?_) rfl (by kernel_rfl) (by kernel_rfl) (by kernel_rfl) (fun _ _ _ h => h) (Or.inl ⟨by rfl, ?_⟩) (by assumption) ?_
          rotate_left
          · intro w hSw; (try dsimp only at hSw); go_simp; try with_reducible rfl
          try simp only [Act.put, List.setIfInBounds_toArray, List.set_cons_zero, List.set_cons_succ]
          refine wpAnyH_take (i := 6) (oi := _) (v := ?_) rfl (by kernel_rfl) (by kernel_rfl) (by kernel_rfl) (fun _ _ _ h => h) (Or.inl ⟨by rfl, ?_⟩) (by assumption) ?_
          rotate_left
          · intro w hSw; (try dsimp only at hSw); go_simp; try with_reducible rfl
          try simp only [Act.put, List.setIfInBounds_toArray, List.set_cons_zero, List.set_cons_succ]
          refine wpAnyH_take (i := 7) (oi := _) (v := ?_) rfl (by kernel_rfl) (by kernel_rfl) (by kernel_rfl) (fun _ _ _ h => h) (Or.inl ⟨by rfl, ?_⟩) (by assumption) ?_
          rotate_left
          · intro w hSw; (try dsimp only at hSw); go_simp; try with_reducible rfl
          try simp only [Act.put, List.setIfInBounds_toArray, List.set_cons_zero, List.set_cons_succ]
          refine wpAnyH_take (i := 8) (oi := _) (v := ?_) rfl (by kernel_rfl) (by kernel_rfl) (by kernel_rfl) (fun _ _ _ h => h) (Or.inl ⟨by rfl, ?_⟩) (by assumption) ?_
          rotate_left
          · intro w hSw; (try dsimp only at hSw); go_simp; try with_reducible rfl
          try simp only [Act.put, List.setIfInBounds_toArray, List.set_cons_zero, List.set_cons_succ]
          refine wpAnyH_take (i := 10) (oi := _) (v := ?_) rfl (by kernel_rfl) (by kernel_rfl) (by kernel_rfl) (fun _ _ _ h => h) (Or.inl ⟨by rfl, ?_⟩) (by assumption) ?_
          rotate_left
          · intro w hSw; (try dsimp only at hSw); go_simp; try with_reducible rfl
          try simp only [Act.put, List.setIfInBounds_toArray, List.set_cons_zero, List.set_cons_succ]
          refine wpAnyH_take (i := 11) (oi := _) (v := ?_) rfl (by kernel_rfl) (by kernel_rfl) (by kernel_rfl) (fun _ _ _ h => h) (Or.inl ⟨by rfl, ?_⟩) (by assumption) ?_
          rotate_left
          · intro w hSw; (try dsimp only at hSw); go_simp; try with_reducible rfl
          try simp only [Act.put, List.setIfInBounds_toArray, List.set_cons_zero, List.set_cons_succ]
          refine wpAnyH_take (i := 12) (oi := _) (v := ?_) rfl (by kernel_rfl) (by kernel_rfl) (by kernel_rfl) (fun _ _ _ h => h) (Or.inl ⟨by rfl, ?_⟩) (by assumption) ?_
          rotate_left
          · intro w hSw; (try dsimp only at hSw); go_simp; try with_reducible rfl
          try simp only [Act.put, List.setIfInBounds_toArray, List.set_cons_zero, List.set_cons_succ]
          refine wpAnyH_take (i := 13) (oi := _) (v := ?_) rfl (by kernel_rfl) (by kernel_rfl) (by kernel_rfl) (fun _ _ _ h => h) (Or.inl ⟨by rfl, ?_⟩) (by assumption) ?_
          rotate_left
          · intro w hSw; (try dsimp only at hSw); go_simp; try with_reducible rfl
          try simp only [Act.put, List.setIfInBounds_toArray, List.set_cons_zero, List.set_cons_succ]
          refine wpAnyH_take (i := 14) (oi := _) (v := ?_) rfl (by kernel_rfl) (by kernel_rfl) (by kernel_rfl) (fun _ _ _ h => h) (Or.inl ⟨by rfl, ?_⟩) (by assumption) ?_
          rotate_left
          · intro w hSw; (try dsimp only at hSw); go_simp; try with_reducible rfl
          try simp only [Act.put, List.setIfInBounds_toArray, List.set_cons_zero, List.set_cons_succ]
          refine wpAnyH_take (i := 15) (oi := _) (v := ?_) rfl (by kernel_rfl) (by kernel_rfl) (by kernel_rfl) (fun _ _ _ h => h) (Or.inl ⟨by rfl, ?_⟩) (by assumption) ?_
          rotate_left
          · intro w hSw; (try dsimp only at hSw); go_simp; try with_reducible rfl
          try simp only [Act.put, List.setIfInBounds_toArray, List.set_cons_zero, List.set_cons_succ]
          refine wpAnyH_take (i := 16) (oi := _) (v := ?_) rfl (by kernel_rfl) (by kernel_rfl) (by kernel_rfl) (fun _ _ _ h => h) (Or.inl ⟨by rfl, ?_⟩) (by assumption) ?_
          rotate_left
          · intro w hSw; (try dsimp only at hSw); go_simp; try with_reducible rfl
          try simp only [Act.put, List.setIfInBounds_toArray, List.set_cons_zero, List.set_cons_succ]
          refine wpAnyH_ready (rs := [1, 9]) (by kernel_rfl) (by simp) ?_
          refine AllReadyH.cons (o := _) rfl (fun K hK => ?_) ?_
          · skip
            go_simp
            refine hK.out _ _ ?_ (fun hHeld => ?_)
            · (try dsimp only); go_keep
            clear hK K
            try simp only [Act.put, List.setIfInBounds_toArray, List.set_cons_zero, List.set_cons_succ]
            refine wpAnyH_ready (rs := [9]) (by kernel_rfl) (by simp) ?_
            refine AllReadyH.cons (o := _) rfl (fun K hK => ?_) ?_
            · skip
              go_simp
              go_at_call 21
              refine (hIU1.out).mono ?_
              rintro e w6 ⟨rfl, rfl⟩
              go_wp2_with fail
              refine hK.out _ _ ?_ (fun hHeld => ?_)
              · (try dsimp only); go_keep
              clear hK K
              try simp only [Act.put, List.setIfInBounds_toArray, List.set_cons_zero, List.set_cons_succ]
              refine wpAnyH_ready (rs := [17]) (by kernel_rfl) (by simp) ?_
              refine AllReadyH.cons (o := _) rfl (fun K hK => ?_) ?_
              · skip
                go_simp
                go_at_call 21
                refine (hIV1.out).mono ?_
                rintro e w6 ⟨rfl, rfl⟩
                go_wp2_with fail
                refine hK.out _ _ ?_ (fun hHeld => ?_)
                · (try dsimp only); go_keep
                clear hK K
                try simp only [Act.put, List.setIfInBounds_toArray, List.set_cons_zero, List.set_cons_succ]
                refine wpAnyH_take (i := 18) (oi := _) (v := ?_) rfl (by kernel_rfl) (by kernel_rfl) (by kernel_rfl) (fun _ _ _ h => h) (Or.inl ⟨by rfl, ?_⟩) (by assumption) ?_
                rotate_left
                · intro w hSw; (try dsimp only at hSw); go_simp; try with_reducible rfl
                try simp only [Act.put, List.setIfInBounds_toArray, List.set_cons_zero, List.set_cons_succ]
                refine wpAnyH_ready (rs := [19]) (by kernel_rfl) (by simp) ?_
                refine AllReadyH.cons (o := _) rfl (fun K hK => ?_) ?_
                · skip
                  go_simp
                  refine hK.out _ _ ?_ (fun hHeld => ?_)
                  · (try dsimp only); go_keep
                  clear hK K
                  try simp only [Act.put, List.setIfInBounds_toArray, List.set_cons_zero, List.set_cons_succ]
                  refine wpAnyH_ready (rs := [20]) (by kernel_rfl) (by simp) ?_
                  refine AllReadyH.cons (o := _) rfl (fun K hK => ?_) ?_
                  · skip
                    refine step_append_lies _ rfl (.tmp 65) (.tmp 83) 23 rfl (w4.heap.size + 1) 34 i0 (.agg #[.int .i64 0, .int .i64 0, .int .i64 0]) 3 24 Tryz.underlying23 hi0 hz0 hz1 hz2 rfl (by omega) (.slice a2 k c2) k (edgeCells (namE pl (g.edges.take k))) rfl (ho.out _) ⟨wr.heap.size, 0, none⟩ 1 1 [.int .i64 iu, .int .i64 iv, .int .i64 0] rfl rfl hnew.out (one_edge _ _ _) (by omega) (by unfold maxLen; omega) (by omega) (by show _ ≤ ((wr.drew).alloc _).heap.size; simp; omega) (wr.heap.size + 1) (by simp) ?_
                    intro g2 c3 w6 hown6 hg6 hat6 _
                    obtain ⟨s1, s2, s3⟩ := hgh.out.edgeL (x := (iu, iv, 0)) hmh.out.symm hg6 hown6 (fun j hj => by have hj' : some g2 = some j := hj; injection hj' with hj'; subst hj'; rcases hat6 with h | h; exact .inl h; exact .inr (by rw [h]; simp))
                    obtain ⟨⟨s4, s5, s6⟩, s7⟩ := hE2.out _ _ hg6
                    clear hown6 hg6 hat6
                    refine hK.out _ _ ?_ (fun hHeld => ?_)
                    · (try dsimp only); exact ⟨s4, s5, s6⟩
                    clear hK K
                    try simp only [Act.put, List.setIfInBounds_toArray, List.set_cons_zero, List.set_cons_succ]
                    refine wpAnyH_take (i := 21) (oi := _) (v := ?_) rfl (by kernel_rfl) (by kernel_rfl) (by kernel_rfl) (fun _ _ _ h => h) (Or.inl ⟨by rfl, ?_⟩) (by assumption) ?_
                    rotate_left
                    · intro w hSw; (try dsimp only at hSw); go_simp; try with_reducible rfl
                    try simp only [Act.put, List.setIfInBounds_toArray, List.set_cons_zero, List.set_cons_succ]
                    refine wpAnyH_ready (rs := [22]) (by kernel_rfl) (by simp) ?_
                    refine AllReadyH.cons (o := _) rfl (fun K hK => ?_) ?_
                    · skip
                      go_simp
                      refine hK.out _ _ ?_ (fun hHeld => ?_)
                      · (try dsimp only); exact s7 _
                      clear hK K
                      try simp only [Act.put, List.setIfInBounds_toArray, List.set_cons_zero, List.set_cons_succ]
                      refine wpAnyH_done (by kernel_rfl) ?_ _
                      refine NoPanic.normal ?_
                      go_wp2_with fail
                      go_roundw
                      case rel => exact ⟨k + 1, _, _, by omega, by go_num, by rw [hceh.out]; exact s3.out⟩
                      case measure => simp [intOf]; omega
                    exact AllReadyH.nil
                  exact AllReadyH.nil
                exact AllReadyH.nil
              exact AllReadyH.nil
            exact AllReadyH.nil
          refine AllReadyH.cons (o := _) rfl (fun K hK => ?_) ?_
          · skip
            go_simp
            go_at_call 21
            refine (hIU1.out).mono ?_
            rintro e w6 ⟨rfl, rfl⟩
            go_wp2_with fail
            refine hK.out _ _ ?_ (fun hHeld => ?_)
            · (try dsimp only); go_keep
            clear hK K
            try simp only [Act.put, List.setIfInBounds_toArray, List.set_cons_zero, List.set_cons_succ]
            refine wpAnyH_ready (rs := [1, 17]) (by kernel_rfl) (by simp) ?_
            refine AllReadyH.cons (o := _) rfl (fun K hK => ?_) ?_
            · skip
              go_simp
              refine hK.out _ _ ?_ (fun hHeld => ?_)
              · (try dsimp only); go_keep
              clear hK K
              try simp only [Act.put, List.setIfInBounds_toArray, List.set_cons_zero, List.set_cons_succ]
              refine wpAnyH_ready (rs := [17]) (by kernel_rfl) (by simp) ?_
              refine AllReadyH.cons (o := _) rfl (fun K hK => ?_) ?_
              · skip
                go_simp
                go_at_call 21
                refine (hIV1.out).mono ?_
                rintro e w6 ⟨rfl, rfl⟩
                go_wp2_with fail
                refine hK.out _ _ ?_ (fun hHeld => ?_)
                · (try dsimp only); go_keep
                clear hK K
                try simp only [Act.put, List.setIfInBounds_toArray, List.set_cons_zero, List.set_cons_succ]
                refine wpAnyH_take (i := 18) (oi := _) (v := ?_) rfl (by kernel_rfl) (by kernel_rfl) (by kernel_rfl) (fun _ _ _ h => h) (Or.inl ⟨by rfl, ?_⟩) (by assumption) ?_
                rotate_left
                · intro w hSw; (try dsimp only at hSw); go_simp; try with_reducible rfl
                try simp only [Act.put, List.setIfInBounds_toArray, List.set_cons_zero, List.set_cons_succ]
                refine wpAnyH_ready (rs := [19]) (by kernel_rfl) (by simp) ?_
                refine AllReadyH.cons (o := _) rfl (fun K hK => ?_) ?_
                · skip
                  go_simp
                  refine hK.out _ _ ?_ (fun hHeld => ?_)
                  · (try dsimp only); go_keep
                  clear hK K
                  try simp only [Act.put, List.setIfInBounds_toArray, List.set_cons_zero, List.set_cons_succ]
                  refine wpAnyH_ready (rs := [20]) (by kernel_rfl) (by simp) ?_
                  refine AllReadyH.cons (o := _) rfl (fun K hK => ?_) ?_
                  · skip
                    refine step_append_lies _ rfl (.tmp 65) (.tmp 83) 23 rfl (w4.heap.size + 1) 34 i0 (.agg #[.int .i64 0, .int .i64 0, .int .i64 0]) 3 24 Tryz.underlying23 hi0 hz0 hz1 hz2 rfl (by omega) (.slice a2 k c2) k (edgeCells (namE pl (g.edges.take k))) rfl (ho.out _) ⟨wr.heap.size, 0, none⟩ 1 1 [.int .i64 iu, .int .i64 iv, .int .i64 0] rfl rfl hnew.out (one_edge _ _ _) (by omega) (by unfold maxLen; omega) (by omega) (by show _ ≤ ((wr.drew).alloc _).heap.size; simp; omega) (wr.heap.size + 1) (by simp) ?_
                    intro g2 c3 w6 hown6 hg6 hat6 _
                    obtain ⟨s1, s2, s3⟩ := hgh.out.edgeL (x := (iu, iv, 0)) hmh.out.symm hg6 hown6 (fun j hj => by have hj' : some g2 = some j := hj; injection hj' with hj'; subst hj'; rcases hat6 with h | h; exact .inl h; exact .inr (by rw [h]; simp))
                    obtain ⟨⟨s4, s5, s6⟩, s7⟩ := hE2.out _ _ hg6
                    clear hown6 hg6 hat6
                    refine hK.out _ _ ?_ (fun hHeld => ?_)
                    · (try dsimp only); exact ⟨s4, s5, s6⟩
                    clear hK K
                    try simp only [Act.put, List.setIfInBounds_toArray, List.set_cons_zero, List.set_cons_succ]
                    refine wpAnyH_take (i := 21) (oi := _) (v := ?_) rfl (by kernel_rfl) (by kernel_rfl) (by kernel_rfl) (fun _ _ _ h => h) (Or.inl ⟨by rfl, ?_⟩) (by assumption) ?_
                    rotate_left
                    · intro w hSw; (try dsimp only at hSw); go_simp; try with_reducible rfl
                    try simp only [Act.put, List.setIfInBounds_toArray, List.set_cons_zero, List.set_cons_succ]
                    refine wpAnyH_ready (rs := [22]) (by kernel_rfl) (by simp) ?_
                    refine AllReadyH.cons (o := _) rfl (fun K hK => ?_) ?_
                    · skip
                      go_simp
                      refine hK.out _ _ ?_ (fun hHeld => ?_)
                      · (try dsimp only); exact s7 _
                      clear hK K
                      try simp only [Act.put, List.setIfInBounds_toArray, List.set_cons_zero, List.set_cons_succ]
                      refine wpAnyH_done (by kernel_rfl) ?_ _
                      refine NoPanic.normal ?_
                      go_wp2_with fail
                      go_roundw
                      case rel => exact ⟨k + 1, _, _, by omega, by go_num, by rw [hceh.out]; exact s3.out⟩
                      case measure => simp [intOf]; omega
                    exact AllReadyH.nil
                  exact AllReadyH.nil
                exact AllReadyH.nil
              exact AllReadyH.nil
            refine AllReadyH.cons (o := _) rfl (fun K hK => ?_) ?_
            · skip
              go_simp
              go_at_call 21
              refine (hIV1.out).mono ?_
              rintro e w6 ⟨rfl, rfl⟩
              go_wp2_with fail
              refine hK.out _ _ ?_ (fun hHeld => ?_)
              · (try dsimp only); go_keep
              clear hK K
              try simp only [Act.put, List.setIfInBounds_toArray, List.set_cons_zero, List.set_cons_succ]
              refine wpAnyH_take (i := 18) (oi := _) (v := ?_) rfl (by kernel_rfl) (by kernel_rfl) (by kernel_rfl) (fun _ _ _ h => h) (Or.inl ⟨by rfl, ?_⟩) (by assumption) ?_
              rotate_left
              · intro w hSw; (try dsimp only at hSw); go_simp; try with_reducible rfl
              try simp only [Act.put, List.setIfInBounds_toArray, List.set_cons_zero, List.set_cons_succ]
              refine wpAnyH_ready (rs := [1, 19]) (by kernel_rfl) (by simp) ?_
              refine AllReadyH.cons (o := _) rfl (fun K hK => ?_) ?_
              · skip
                go_simp
                refine hK.out _ _ ?_ (fun hHeld => ?_)
                · (try dsimp only); go_keep
                clear hK K
                try simp only [Act.put, List.setIfInBounds_toArray, List.set_cons_zero, List.set_cons_succ]
                refine wpAnyH_ready (rs := [19]) (by kernel_rfl) (by simp) ?_
                refine AllReadyH.cons (o := _) rfl (fun K hK => ?_) ?_
                · skip
                  go_simp
                  refine hK.out _ _ ?_ (fun hHeld => ?_)
                  · (try dsimp only); go_keep
                  clear hK K
                  try simp only [Act.put, List.setIfInBounds_toArray, List.set_cons_zero, List.set_cons_succ]
                  refine wpAnyH_ready (rs := [20]) (by kernel_rfl) (by simp) ?_
                  refine AllReadyH.cons (o := _) rfl (fun K hK => ?_) ?_
                  · skip
                    refine step_append_lies _ rfl (.tmp 65) (.tmp 83) 23 rfl (w4.heap.size + 1) 34 i0 (.agg #[.int .i64 0, .int .i64 0, .int .i64 0]) 3 24 Tryz.underlying23 hi0 hz0 hz1 hz2 rfl (by omega) (.slice a2 k c2) k (edgeCells (namE pl (g.edges.take k))) rfl (ho.out _) ⟨wr.heap.size, 0, none⟩ 1 1 [.int .i64 iu, .int .i64 iv, .int .i64 0] rfl rfl hnew.out (one_edge _ _ _) (by omega) (by unfold maxLen; omega) (by omega) (by show _ ≤ ((wr.drew).alloc _).heap.size; simp; omega) (wr.heap.size + 1) (by simp) ?_
                    intro g2 c3 w6 hown6 hg6 hat6 _
                    obtain ⟨s1, s2, s3⟩ := hgh.out.edgeL (x := (iu, iv, 0)) hmh.out.symm hg6 hown6 (fun j hj => by have hj' : some g2 = some j := hj; injection hj' with hj'; subst hj'; rcases hat6 with h | h; exact .inl h; exact .inr (by rw [h]; simp))
                    obtain ⟨⟨s4, s5, s6⟩, s7⟩ := hE2.out _ _ hg6
                    clear hown6 hg6 hat6
                    refine hK.out _ _ ?_ (fun hHeld => ?_)
                    · (try dsimp only); exact ⟨s4, s5, s6⟩
                    clear hK K
                    try simp only [Act.put, List.setIfInBounds_toArray, List.set_cons_zero, List.set_cons_succ]
                    refine wpAnyH_take (i := 21) (oi := _) (v := ?_) rfl (by kernel_rfl) (by kernel_rfl) (by kernel_rfl) (fun _ _ _ h => h) (Or.inl ⟨by rfl, ?_⟩) (by assumption) ?_
                    rotate_left
                    · intro w hSw; (try dsimp only at hSw); go_simp; try with_reducible rfl
                    try simp only [Act.put, List.setIfInBounds_toArray, List.set_cons_zero, List.set_cons_succ]
                    refine wpAnyH_ready (rs := [22]) (by kernel_rfl) (by simp) ?_
                    refine AllReadyH.cons (o := _) rfl (fun K hK => ?_) ?_
                    · skip
                      go_simp
                      refine hK.out _ _ ?_ (fun hHeld => ?_)
                      · (try dsimp only); exact s7 _
                      clear hK K
                      try simp only [Act.put, List.setIfInBounds_toArray, List.set_cons_zero, List.set_cons_succ]
                      refine wpAnyH_done (by kernel_rfl) ?_ _
                      refine NoPanic.normal ?_
                      go_wp2_with fail
                      go_roundw
                      case rel => exact ⟨k + 1, _, _, by omega, by go_num, by rw [hceh.out]; exact s3.out⟩
                      case measure => simp [intOf]; omega
                    exact AllReadyH.nil
                  exact AllReadyH.nil
                exact AllReadyH.nil
              refine AllReadyH.cons (o := _) rfl (fun K hK => ?_) ?_
              · skip
                go_simp
                refine hK.out _ _ ?_ (fun hHeld => ?_)
                · (try dsimp only); go_keep
                clear hK K
                try simp only [Act.put, List.setIfInBounds_toArray, List.set_cons_zero, List.set_cons_succ]
                refine wpAnyH_ready (rs := [1]) (by kernel_rfl) (by simp) ?_
                refine AllReadyH.cons (o := _) rfl (fun K hK => ?_) ?_
                · skip
                  go_simp
                  refine hK.out _ _ ?_ (fun hHeld => ?_)
                  · (try dsimp only); go_keep
                  clear hK K
                  try simp only [Act.put, List.setIfInBounds_toArray, List.set_cons_zero, List.set_cons_succ]
                  refine wpAnyH_ready (rs := [20]) (by kernel_rfl) (by simp) ?_
                  refine AllReadyH.cons (o := _) rfl (fun K hK => ?_) ?_
                  · skip
                    refine step_append_lies _ rfl (.tmp 65) (.tmp 83) 23 rfl (w4.heap.size + 1) 34 i0 (.agg #[.int .i64 0, .int .i64 0, .int .i64 0]) 3 24 Tryz.underlying23 hi0 hz0 hz1 hz2 rfl (by omega) (.slice a2 k c2) k (edgeCells (namE pl (g.edges.take k))) rfl (ho.out _) ⟨wr.heap.size, 0, none⟩ 1 1 [.int .i64 iu, .int .i64 iv, .int .i64 0] rfl rfl hnew.out (one_edge _ _ _) (by omega) (by unfold maxLen; omega) (by omega) (by show _ ≤ ((wr.drew).alloc _).heap.size; simp; omega) (wr.heap.size + 1) (by simp) ?_
                    intro g2 c3 w6 hown6 hg6 hat6 _
                    obtain ⟨s1, s2, s3⟩ := hgh.out.edgeL (x := (iu, iv, 0)) hmh.out.symm hg6 hown6 (fun j hj => by have hj' : some g2 = some j := hj; injection hj' with hj'; subst hj'; rcases hat6 with h | h; exact .inl h; exact .inr (by rw [h]; simp))
                    obtain ⟨⟨s4, s5, s6⟩, s7⟩ := hE2.out _ _ hg6
                    clear hown6 hg6 hat6
                    refine hK.out _ _ ?_ (fun hHeld => ?_)
                    · (try dsimp only); exact ⟨s4, s5, s6⟩
                    clear hK K
                    try simp only [Act.put, List.setIfInBounds_toArray, List.set_cons_zero, List.set_cons_succ]
                    refine wpAnyH_take (i := 21) (oi := _) (v := ?_) rfl (by kernel_rfl) (by kernel_rfl) (by kernel_rfl) (fun _ _ _ h => h) (Or.inl ⟨by rfl, ?_⟩) (by assumption) ?_
                    rotate_left
                    · intro w hSw; (try dsimp only at hSw); go_simp; try with_reducible rfl
                    try simp only [Act.put, List.setIfInBounds_toArray, List.set_cons_zero, List.set_cons_succ]
                    refine wpAnyH_ready (rs := [22]) (by kernel_rfl) (by simp) ?_
                    refine AllReadyH.cons (o := _) rfl (fun K hK => ?_) ?_
                    · skip
                      go_simp
                      refine hK.out _ _ ?_ (fun hHeld => ?_)
                      · (try dsimp only); exact s7 _
                      clear hK K
                      try simp only [Act.put, List.setIfInBounds_toArray, List.set_cons_zero, List.set_cons_succ]
                      refine wpAnyH_done (by kernel_rfl) ?_ _
                      refine NoPanic.normal ?_
                      go_wp2_with fail
                      go_roundw
                      case rel => exact ⟨k + 1, _, _, by omega, by go_num, by rw [hceh.out]; exact s3.out⟩
                      case measure => simp [intOf]; omega
                    exact AllReadyH.nil
                  exact AllReadyH.nil
                exact AllReadyH.nil
              exact AllReadyH.nil
            exact AllReadyH.nil
          exact AllReadyH.nil
        · have hkn : k = g.edges.length := by omega
          subst hkn
          rw [List.take_length] at hgk
          obtain ⟨a1, c1, a2, c2, rfl, rfl, _⟩ := hgk.shape
          obtain ⟨m, hm⟩ : ∃ m, m = (namE pl g.edges).length := ⟨_, rfl⟩
          have hml : m ≤ 1048576 := by rw [hm, namE_len]; omega
          rw [condNodes_length, ← hm] at hgk
          have hH : Hid (∀ W, Below wr.heap.size wr W → W.cell? ⟨w4.heap.size, 0, none⟩ = some (.bool true) ∧ W.cell? ⟨w4.heap.size, 1, none⟩ = some (.slice a1 n c1) ∧ W.cell? ⟨w4.heap.size, 2, none⟩ = some (.slice a2 m c2) ∧
              Calls Tryz.prog 22 #[.agg #[.bool true, .slice a1 n c1, .slice a2 m c2]] W (SortRes W (stComps (namG pl g.edges)))) := fun W hW => by
            have hgw := hgk.keep hW
            have hnp : pl.length = n := by rw [hpn.out]; exact hneh.out.symm
            have hga : GrAt W (namG pl g.edges) a1 c1 a2 := by
              obtain ⟨x1, y1, x2, y2, e1, e2, h⟩ := hgw.shape
              injection e1 with e1 _ e3
              injection e2 with e2 _ _
              subst e1; subst e2; subst e3
              unfold namG
              rw [hnp]
              exact h
            have en : (namG pl g.edges).nodes.length = n := by show (condNodes pl.length).length = n; rw [condNodes_length]; exact hnp
            have ee : (namG pl g.edges).edges.length = m := hm.symm
            refine ⟨hgw.at0, hgw.at1, hgw.at2, ?_⟩
            have := sortSt_any (namG pl g.edges) a1 c1 a2 c2 W (by rw [en]; omega) (by rw [ee]; exact hml) hga (nam_ok hPl.out) rfl (cond_in64 (by omega))
            rw [en, ee] at this
            exact this
          have hsb := sortByI_any g an cn ae ce a4 c4 pl wr (by have := hneh.out; omega) (by omega) hgi h64h.out (by have := hneh.out; have := hpn.out; omega) hpw hp0.out
          rw [hpn.out, ← hneh.out] at hsb
          have hsbh := Lib.hid hsb
          have hwrb : Hid (Below w4.heap.size w4 wr) := hgk.below
          clear hgk hsb hm hml hgi hpw
          go_wp2_with fail
          refine (unhide hsbh).mono ?_
          rintro e w5 ⟨hb5, _, hgood⟩
          obtain ⟨ba, bc, bb, bd, B5, vs5, rfl, hoA, hrA, hB5, hoB⟩ := hgood hPl.out.good
          have hb5h := Lib.hid hb5
          obtain ⟨h0, h1, h2, hss⟩ := hH.out w5 hb5
          have hssh := Lib.hid hss
          have hlb := gBy_len hPl.out
          have hlc := cycBy_nil hPl.out
          have hq : decide (cycBy pl (gBy g pl) (gBy g pl).length = []) = decide (cycL (stComps (namG pl g.edges)) (stComps (namG pl g.edges)).length = []) := by
            rw [Bool.eq_iff_iff, decide_eq_true_iff, decide_eq_true_iff, ← List.length_eq_zero_iff, hlc, List.length_eq_zero_iff]
          rw [hq, hlc, hlb]
          rw [hlb] at hoA
          rw [hlc] at hoB
          have hoAh := Lib.hid hoA
          have hoBh := Lib.hid hoB
          have hrAh := Lib.hid hrA
          clear hgood hb5 hss hlb hlc hq hoA hoB hrA hH d0 d1 d2 hsbh
          go_wp2_with fail
          refine (unhide hssh).mono ?_
          rintro e w6 ⟨ca, cc, da, dc, B6, vs6, rfl, hoC, hoD, hrD, hB6, hb6⟩
          have hTop : Hid (∀ k, k < (stComps (namG pl g.edges)).length → ∃ (o : Option Int) (ga gc : Nat), ba = some ⟨ga, 0, none⟩ ∧ ca = some ⟨gc, 0, none⟩ ∧ (∀ W, Below w6.heap.size w6 W → ga < W.heap.size ∧ W.cell? ⟨gc, k * 2, none⟩ = some (.bool o.isNone) ∧ W.cell? ⟨gc, k * 2 + 1, none⟩ = some (.int .i64 (o.getD 0)) ∧ W.cell? ⟨ga, k * 2, none⟩ = some (.bool o.isNone) ∧ W.cell? ⟨ga, k * 2 + 1, none⟩ = some (.int .i64 ((o.map (nameAt pl)).getD 0))) ∧
              (∀ x, o = some x → ∃ j : Nat, ∃ hj : j < pl.length, x = (j : Int) ∧ nameAt pl x = pl[j])) := fun k hk => by
            have hkT : k < (((stComps (namG pl g.edges)).map topO).reverse).length := by rw [List.length_reverse, List.length_map]; exact hk
            obtain ⟨hk', et, hx⟩ := top_at hPl.out hkT
            obtain ⟨ga, rfl, hga, _⟩ := owns_at hoAh.out (by omega)
            obtain ⟨gc, rfl, _⟩ := owns_at hoC (by omega)
            obtain ⟨s1, s2⟩ := slotCells_at _ k _ (List.getElem?_eq_getElem hkT)
            obtain ⟨r1, r2⟩ := slotCells_at _ k _ (List.getElem?_eq_getElem hk')
            refine ⟨_, ga, gc, rfl, rfl, fun W hW => ⟨?_, cell_below hW (owns_cell hoC s1), cell_below hW (owns_cell hoC s2), ?_, ?_⟩, hx⟩
            · have h1 := (hoAh.out.lt ga rfl).2
              have h2 := hb6.size
              have h3 := hW.size
              omega
            · have := cell_below (hb6.trans (hW.mono hb6.size)) (owns_cell hoAh.out r1)
              rw [this, et]
              cases (((stComps (namG pl g.edges)).map topO).reverse)[k] <;> rfl
            · have := cell_below (hb6.trans (hW.mono hb6.size)) (owns_cell hoAh.out r2)
              rw [this, et]
          have hCyc : Hid (∀ k, k < (cycL (stComps (namG pl g.edges)) (stComps (namG pl g.edges)).length).length → ∃ (gb gd : Nat) (d b : List Int) (ad ab : Option Addr) (cd cb : Nat), bb = some ⟨gb, 0, none⟩ ∧ da = some ⟨gd, 0, none⟩ ∧ (∀ W, Below w6.heap.size w6 W → W.cell? ⟨gd, k, none⟩ = some (.slice ad d.length cd) ∧ Cells W ad (ints d) ∧ W.cell? ⟨gb, k, none⟩ = some (.slice ab d.length cb) ∧ Cells W ab (ints b)) ∧
              b.length = d.length ∧ d.length ≤ 25 ∧ (ab = none → cb = 0) ∧ asc b = asc (d.map (nameAt pl)) ∧ ∀ i (hi : i < d.length), ∃ j : Nat, ∃ hj : j < pl.length, d[i] = (j : Int) ∧ nameAt pl d[i] = pl[j]) := fun k hk => by
            have hkD : k < ((cycL (stComps (namG pl g.edges)) (stComps (namG pl g.edges)).length).reverse).length := by rw [List.length_reverse]; exact hk
            obtain ⟨hk', ea, hx⟩ := cyc_at hPl.out hkD
            have el := cycN_len hPl.out hk' hkD
            have en := st_len hPl.out hkD
            obtain ⟨gb, rfl, _⟩ := owns_at hoBh.out (by omega)
            obtain ⟨gd, rfl, _⟩ := owns_at hoD (by omega)
            have hv5 : vs5[k]? = some (vs5[k]'(by have := hrAh.out.1; omega)) := List.getElem?_eq_getElem _
            have hv6 : vs6[k]? = some (vs6[k]'(by have := hrD.1; omega)) := List.getElem?_eq_getElem _
            have o5 := hrAh.out.2 k _ _ hv5 (List.getElem?_eq_getElem hk')
            have o6 := hrD.2 k _ _ hv6 (List.getElem?_eq_getElem hkD)
            obtain ⟨ab, cb, e5, _, cs5, _⟩ := owns_cells o5
            obtain ⟨ad, cd, e6, _, cs6, _⟩ := owns_cells o6
            have z5 : ab = none → cb = 0 := fun h => owns_c0 (e5 ▸ o5) h
            rw [e5, el] at hv5
            rw [e6] at hv6
            refine ⟨gb, gd, _, _, ad, ab, cd, cb, rfl, rfl, fun W hW => ⟨cell_below hW (owns_cell hoD hv6), cs6.below hW, cell_below (hb6.trans (hW.mono hb6.size)) (owns_cell hoBh.out hv5), cs5.below (hb6.trans (hW.mono hb6.size))⟩, el, ?_, z5, ea, hx⟩
            have := hpn.out
            have := hneh.out
            omega
          have hm25 : (stComps (namG pl g.edges)).length ≤ 25 := by
            have := st_cnt hPl.out
            have := hpn.out
            have := hneh.out
            omega
          have hm25' : (cycL (stComps (namG pl g.edges)) (stComps (namG pl g.edges)).length).length ≤ 25 := Nat.le_trans (cycL_le _ _) hm25
          have hbw6 : Hid (∀ W, Below w6.heap.size w6 W → Below w.heap.size w W ∧ Cells W a4 (ints pl)) := fun W hW => by
            have h46 : Below w4.heap.size w4 w6 := hwrb.out.trans ((hb5h.out.trans (hb6.mono hb5h.out.size)).mono hwrb.out.size)
            have h4W := h46.trans (hW.mono h46.size)
            exact ⟨(hK.out W (hb4h.out.trans (h4W.mono hb4h.out.size))).1.1, hpc.out.below h4W⟩
          obtain ⟨m1, hm1⟩ : ∃ m1, m1 = (stComps (namG pl g.edges)).length := ⟨_, rfl⟩
          obtain ⟨q, hq⟩ : ∃ q, q = decide (cycL (stComps (namG pl g.edges)) (stComps (namG pl g.edges)).length = []) := ⟨_, rfl⟩
          obtain ⟨m2, hm2⟩ : ∃ m2, m2 = (cycL (stComps (namG pl g.edges)) (stComps (namG pl g.edges)).length).length := ⟨_, rfl⟩
          rw [← hq, ← hm2, ← hm1]
          rw [← hm1] at hTop hm25
          rw [← hm2] at hCyc hm25'
          have hnpl : Hid (pl.length = n) := by rw [hneh.out]; exact hpn.out
          clear hoC hoD hrD hB6 hb6 hm1 hm2 hq hoAh hoBh hrAh hssh h0 h1 h2 hwrb hb5h
          go_wp2_with fail
          go_loopw [19, 20] (fun kv _ wr => ∃ k : Nat, k ≤ m1 ∧ kv = .int .i64 k ∧ Below w6.heap.size w6 wr) (fun kv _ _ => m1 - (intOf kv).toNat)
          case atStart => exact ⟨0, Nat.zero_le _, rfl, Below.refl _ _⟩
          case round =>
            obtain ⟨k, hk, rfl, hb⟩ := hrel
            by_cases hlt : k < m1
            · obtain ⟨o, ga, gc, rfl, rfl, hcs, hox⟩ := hTop.out k hlt
              obtain ⟨hgl, x0, x1, y0, y1⟩ := hcs wr hb
              have hbh := Lib.hid hb
              obtain ⟨_, hpw⟩ := hbw6.out wr hb
              clear hcs hb
              rcases o with _ | x
              · have x0' : wr.cell? ⟨gc, k * 2, none⟩ = some (.bool true) := x0
                have x1' : wr.cell? ⟨gc, k * 2 + 1, none⟩ = some (.int .i64 0) := x1
                have y0' : wr.cell? ⟨ga, k * 2, none⟩ = some (.bool true) := y0
                have y1' : wr.cell? ⟨ga, k * 2 + 1, none⟩ = some (.int .i64 0) := y1
                have y2 : ∀ o, (wr.alloc o).cell? ⟨ga, k * 2, none⟩ = _ := fun o => cell_alloc y0' o
                have y3 : ∀ o, (wr.alloc o).cell? ⟨ga, k * 2 + 1, none⟩ = _ := fun o => cell_alloc y1' o
                have heq := slot_same true 0
                clear x0 x1 y0 y1 hox hpw
                go_wp2_with fail
                go_region
                all_goals
                  go_wp2_with fail
                  go_roundw
                  case rel => exact ⟨k + 1, by omega, by go_num, (hbh.out.trans ((alloc_below wr _).mono hbh.out.size)).drew⟩
                  case measure => simp [intOf]; omega
              · obtain ⟨j, hj, rfl, hjn⟩ := hox x rfl
                obtain ⟨z, hz⟩ : ∃ z, z = pl[j] := ⟨_, rfl⟩
                rw [← hz] at hjn
                have x0' : wr.cell? ⟨gc, k * 2, none⟩ = some (.bool false) := x0
                have x1' : wr.cell? ⟨gc, k * 2 + 1, none⟩ = some (.int .i64 (j : Int)) := x1
                have y0' : wr.cell? ⟨ga, k * 2, none⟩ = some (.bool false) := y0
                have y1' : wr.cell? ⟨ga, k * 2 + 1, none⟩ = some (.int .i64 z) := by rw [y1]; show some (Value.int .i64 (nameAt pl j)) = _; rw [hjn]
                obtain ⟨gp, op, rfl, _, hr⟩ := hpw.at (by rw [ints_length]; omega)
                have p0 := hr _ _ (ints_get pl j hj)
                rw [← hz] at p0
                have hjl : j < n := by have := hnpl.out; omega
                have hj0 : ¬ ((j : Int) < 0) := by omega
                have hj1 : ¬ ((n : Int) ≤ (j : Int)) := by omega
                have p1 : ∀ o, (wr.alloc o).cell? ⟨gp, op + j, none⟩ = _ := fun o => cell_alloc p0 o
                have y2 : ∀ o, (wr.alloc o).cell? ⟨ga, k * 2, none⟩ = _ := fun o => cell_alloc y0' o
                have y3 : ∀ o, (wr.alloc o).cell? ⟨ga, k * 2 + 1, none⟩ = _ := fun o => cell_alloc y1' o
                have heq := slot_same false z
                clear x0 x1 y0 y1 hox hpw hr hz hjn
                go_wp2_with fail
                go_region
                all_goals
                  go_wp2_with fail
                  go_roundw
                  case rel => exact ⟨k + 1, by omega, by go_num, (hbh.out.trans ((alloc_below wr _).mono hbh.out.size)).drew⟩
                  case measure => simp [intOf]; omega
            · have hkm : m1 = k := by omega
              subst hkm
              have hbh := Lib.hid hb
              clear hb
              go_wp2_with fail
              go_loopw [21, 22, 23] (fun kv _ _ wr => ∃ k : Nat, k ≤ m2 ∧ kv = .int .i64 k ∧ Below w6.heap.size w6 wr) (fun kv _ _ _ => m2 - (intOf kv).toNat)
              case atStart => exact ⟨0, Nat.zero_le _, rfl, hbh.out⟩
              case round =>
                obtain ⟨k, hk, rfl, hb⟩ := hrel
                by_cases hlt : k < m2
                · obtain ⟨gb, gd, d, b, ad, ab, cd, cb, rfl, rfl, hcs, hbl, hdl, hz0, hasc, hdx⟩ := hCyc.out k hlt
                  obtain ⟨wk, hwk⟩ : ∃ wk, wk = wr := ⟨_, rfl⟩
                  subst hwk
                  have hbh := Lib.hid hb
                  have hW : Hid (∀ W, Below wk.heap.size wk W → W.cell? ⟨gd, k, none⟩ = some (.slice ad d.length cd) ∧ W.cell? ⟨gb, k, none⟩ = some (.slice ab d.length cb) ∧ Cells W ad (ints d) ∧ Cells W ab (ints b) ∧ Cells W a4 (ints pl)) := fun W hWb => by
                    have h6 := hb.trans (hWb.mono hb.size)
                    obtain ⟨z1, z2, z3, z4⟩ := hcs W h6
                    exact ⟨z1, z3, z2, z4, (hbw6.out W h6).2⟩
                  have hasch := Lib.hid hasc
                  have hdxh := Lib.hid hdx
                  have hz0h := Lib.hid hz0
                  have hblh := Lib.hid hbl
                  obtain ⟨f1, f2, _, _, _⟩ := hW.out wk (Below.refl _ _)
                  clear hb hcs hasc hdx hz0 hbl
                  go_wp2_with fail
                  clear f1 f2
                  go_loopw [22, 23] (fun l iv wr => ∃ (i : Nat) (lb : Option Addr) (lc : Nat), i ≤ d.length ∧ iv = .int .i64 i ∧ l = .slice lb i lc ∧ wr.ownsRow wk.heap.size 3 1 (.slice lb i lc) i (ints ((d.take i).map (nameAt pl))) ∧ Below wk.heap.size wk wr) (fun _ iv _ => d.length - (intOf iv).toNat)
                  case atStart => exact ⟨0, none, 0, Nat.zero_le _, rfl, rfl, World.ownsRow_nil _ _ _ _, Below.refl _ _⟩
                  case round =>
                    obtain ⟨i, lb, lc, hi, rfl, rfl, hown, hb2⟩ := hrel
                    obtain ⟨f1, f2, g1, g2, g3⟩ := hW.out wr hb2
                    by_cases hli : i < d.length
                    · obtain ⟨j, hj, hd, hjn⟩ := hdxh.out i hli
                      obtain ⟨z, hz⟩ : ∃ z, z = pl[j] := ⟨_, rfl⟩
                      rw [← hz] at hjn
                      have htk : Hid (ints ((d.take (i + 1)).map (nameAt pl)) = ints ((d.take i).map (nameAt pl)) ++ [.int .i64 z]) := by
                        unfold Hid
                        rw [List.take_succ_eq_append_getElem hli, List.map_append]
                        show ints (_ ++ [nameAt pl d[i]]) = _
                        rw [hjn]
                        unfold ints
                        rw [List.map_append]; rfl
                      obtain ⟨bd2, od, rfl, _, hrd⟩ := g1.at (by rw [ints_length]; omega)
                      have x0 := hrd _ _ (ints_get d i hli)
                      rw [hd] at x0
                      obtain ⟨gp, op, rfl, _, hrp⟩ := g3.at (by rw [ints_length]; omega)
                      have p0 := hrp _ _ (ints_get pl j hj)
                      rw [← hz] at p0
                      have hjl : j < n := by have := hnpl.out; omega
                      have hj0 : ¬ ((j : Int) < 0) := by omega
                      have hj1 : ¬ ((n : Int) ≤ (j : Int)) := by omega
                      have hBs := hb2.size
                      have ho := Lib.hid (fun o => hown.alloc o)
                      have hfin := Lib.hid (fun o b2 c2 w2 (h2 : w2.ownsRow wk.heap.size 3 1 (.slice b2 (i + 1) c2) (i + 1) (ints ((d.take i).map (nameAt pl)) ++ [.int .i64 z])) (hg : (wr.alloc o).grownBy w2 (Value.slice lb i lc).ownBlock) =>
                        show w2.ownsRow wk.heap.size 3 1 (.slice b2 (i + 1) c2) (i + 1) (ints ((d.take (i + 1)).map (nameAt pl))) ∧ Below wk.heap.size wk w2 from
                          ⟨by rw [htk.out]; exact h2, (hb2.alloc hBs o).grown hg (by simp; omega) (fun j e => (hown.lt j e).1)⟩)
                      clear f2 g1 g2 g3 hd hjn hz hrd hrp hown hb2 htk
                      go_wp2_with (at_builtin; refine append_law 22 3 (.int .i64 0) 1 8 Tryz.underlying22 info_int rfl (by omega) (by omega) rfl _ _ rfl wk.heap.size lb i lc (ints ((d.take i).map (nameAt pl))) rfl (unhide ho _) ⟨wr.heap.size, 0, none⟩ 1 1 [.int .i64 z] rfl rfl (new_one wr _ _) (one_int _) (by omega) (by simp; omega) ?_; intro b2 c2 w7 hown2 hg2 hat2; have hf := Lib.hid (unhide hfin _ _ _ _ hown2 hg2); clear hown2 hg2 hat2)
                      go_roundw
                      case rel => exact ⟨i + 1, b2, c2, by omega, by go_num, rfl, hf.out.1, hf.out.2⟩
                      case measure => simp [intOf]; omega
                    · have hid : i = d.length := by omega
                      subst hid
                      rw [List.take_length] at hown
                      have hL : ((d.map (nameAt pl))).length = d.length := List.length_map _
                      have hlc0 : lb = none → lc = 0 := owns_c0 hown
                      have hlcs : Cells wr lb (ints (d.map (nameAt pl))) := owns_cs hown
                      have hS1 : Hid (∀ W, Below wr.heap.size wr W → Calls Tryz.prog 18 #[.slice lb d.length lc] W fun e w' => ∃ a' c', e = .returned (.slice a' d.length c') ∧ Cells w' a' (ints (asc (d.map (nameAt pl)))) ∧ Below wr.heap.size wr w' ∧ w'.cell? ⟨gb, k, none⟩ = some (.slice ab d.length cb)) := fun W hWb =>
                        (sorted_any lb _ lc (d.map (nameAt pl)) W hL.symm (by rw [hL]; omega) (hlcs.below hWb) hlc0).mono fun e w' ⟨a', c', h1, h2, _, h4⟩ => by
                          have h5 := hWb.trans (h4.mono hWb.size)
                          exact ⟨a', c', h1, owns_cs h2, h5, (hW.out w' (hb2.trans (h5.mono hb2.size))).2.1⟩
                      have hS2 : Hid (∀ W, Below wr.heap.size wr W → Calls Tryz.prog 18 #[.slice ab d.length cb] W fun e w' => ∃ a' c', e = .returned (.slice a' d.length c') ∧ Cells w' a' (ints (asc b)) ∧ Below W.heap.size W w' ∧ w'.cell? ⟨gb, k, none⟩ = some (.slice ab d.length cb)) := fun W hWb =>
                        (sorted_any ab _ cb b W hblh.out.symm (by rw [hblh.out]; omega) (hW.out W (hb2.trans (hWb.mono hb2.size))).2.2.2.1 hz0h.out).mono fun e w' ⟨a', c', h1, h2, _, h4⟩ => by
                          have h5 := hWb.trans (h4.mono hWb.size)
                          exact ⟨a', c', h1, owns_cs h2, h4, (hW.out w' (hb2.trans (h5.mono hb2.size))).2.1⟩
                      have hEQ : Hid (∀ W a5 c5 a6 c6, Cells W a5 (ints (asc (d.map (nameAt pl)))) → Cells W a6 (ints (asc b)) → Calls Tryz.prog 17 #[.slice a5 d.length c5, .slice a6 d.length c6] W fun e w' => e = .returned (.bool true) ∧ ∃ q, w' = W.drewN q) := fun W a5 c5 a6 c6 h5 h6 =>
                        (eqInts_any a5 a6 _ _ c5 c6 (asc (d.map (nameAt pl))) (asc b) W (by rw [asc_length, hL]) (by rw [asc_length]; exact hblh.out.symm) (by rw [asc_length, hL]; omega) (by rw [asc_length, hblh.out]; omega) h5 h6).mono fun e w' ⟨h1, h2⟩ => ⟨by rw [h1, decide_eq_true hasch.out.symm], h2⟩
                      have hb2h := Lib.hid hb2
                      clear hown hb2 g1 g2 g3 hlc0 hlcs hL
                      go_wp2_with fail
                      clear f1
                      go_region_held3 (fun w' => w'.cell? ⟨gb, k, none⟩ = some (.slice ab d.length cb)) (go_keep) (first
                        | (go_at_call 18; ((with_reducible refine (hS1.out _ (by repeat (first | exact Below.refl _ _ | refine Below.drew ?_))).mono ?_)); rintro e w7 ⟨a7, c7, rfl, hc7, hb7, s1⟩)
                        | (go_at_call 18; ((with_reducible refine (hS2.out w7 hb7).mono ?_)); rintro e w8 ⟨a8, c8, rfl, hc8, hb8, s2⟩)
                        | (go_at_call 17; ((with_reducible refine (hEQ.out w8 _ _ _ _ (hc7.below hb8) hc8).mono ?_)); rintro e w9 ⟨rfl, q9, rfl⟩))
                      all_goals
                        go_wp2_with fail
                        go_roundw
                        case rel => exact ⟨k + 1, by omega, by go_num, below_draws (hbh.out.trans ((hb2h.out.trans ((hb7.trans (hb8.mono hb7.size)).mono hb2h.out.size)).mono hbh.out.size)) _⟩
                        case measure => simp [intOf]; omega
                · have hkm : m2 = k := by omega
                  subst hkm
                  have hbh := Lib.hid hb
                  have har := Lib.hid (arranges_any wr)
                  have hbw := (hbw6.out wr hb).1
                  have hbwh := Lib.hid hbw
                  clear hb hbw
                  go_wp2_with fail
                  refine (unhide har).mono ?_
                  rintro e w10 ⟨rfl, hb10⟩
                  have hfin : Hid (Below w.heap.size w w10) := hbwh.out.trans (hb10.mono hbwh.out.size)
                  clear har hb10
                  go_wp2_with fail
                  go_ret
                  exact ⟨rfl, hfin.out⟩
end Go.Proofs.YtagnmdhdogaijaaGreat
