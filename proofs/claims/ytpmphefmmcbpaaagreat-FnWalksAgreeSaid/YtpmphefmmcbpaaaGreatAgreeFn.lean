/- laws.FnWalksAgree: the walk. -/
import Derived.Test.YtpmphefmmcbpaaaGreatWalksOne
import Derived.Test.YtpmphefmmcbpaaaGreatFormed
import Derived.Deep.LoopGhost
namespace Go.Proofs.YtpmphefmmcbpaaaGreat
open Go.RowKit

theorem cloneInts_any (n cap : Nat) (a : Option Addr) (zs : List Int) (w : World) (hl : n = zs.length) (hn : n ≤ 1048576) (hc : Cells w a (ints zs)) (hne : a ≠ none) :
    Calls Tryz.prog 19 #[.slice a n cap] w fun e w' => ∃ a' cap', e = .returned (.slice a' n cap') ∧ w'.ownsRow w.heap.size 3 1 (.slice a' n cap') n (ints zs) ∧ Below w.heap.size w w' := by
  subst hl
  obtain ⟨p, rfl⟩ : ∃ p, a = some p := by
    cases a with
    | none => exact absurd rfl hne
    | some p => exact ⟨p, rfl⟩
  rcases Nat.eq_zero_or_pos zs.length with h0 | h0
  · have hz : zs = [] := List.eq_nil_of_length_eq_zero h0
    subst hz
    refine (Tryz.slices_Clone_int_zero p cap w).mono ?_
    rintro e w' ⟨v', rfl, hown, _, hb⟩
    obtain ⟨a', cap', rfl, _⟩ := owns_cells hown
    exact ⟨a', cap', rfl, hown, hb⟩
  · obtain ⟨b, off, hp, _, hr⟩ := hc.at (by rw [ints_length]; exact h0)
    injection hp with hp
    subst hp
    refine (Tryz.slices_Clone_int b off zs.length cap zs w (Nat.le_refl _) (by omega) (fun j hj => ?_)).mono ?_
    · have := hr _ _ (ints_get zs j hj)
      rw [this, List.getD_eq_getElem?_getD, List.getElem?_eq_getElem hj]
      rfl
    · rintro e w' ⟨v', rfl, hown, _, hb⟩
      rw [List.take_length] at hown
      obtain ⟨a', cap', rfl, _⟩ := owns_cells hown
      exact ⟨a', cap', rfl, hown, hb⟩

set_option maxRecDepth 100000 in
set_option maxHeartbeats 8000000 in
theorem agree_any (g : Gr) (an : Option Addr) (cn : Nat) (ae : Option Addr) (ce : Nat) (u v : Int) (barred : List (Int × Int × Int)) (ab : Option Addr) (cb : Nat) (w : World) (hm : g.nodes.length ≤ 9223372036854775807) (hm' : g.edges.length ≤ 9223372036854775807) (hcap : g.nodes.length ≤ cn) (hg : GrAt w g an cn ae) (h64 : ∀ x ∈ g.nodes, In64 x)
    (hbl : barred.length ≤ 9223372036854775807) (hbc : Cells w ab (edgeCells barred)) :
    Calls Tryz.prog 4 #[.agg #[.bool g.dir, .slice an g.nodes.length cn, .slice ae g.edges.length ce], .int .i64 u, .int .i64 v, .slice ab barred.length cb] w
      fun e w' => e = .returned (.bool true) ∧ Below w.heap.size w w' := by
  obtain ⟨w1, hw1⟩ : ∃ w1, w1 = w.alloc (.cells #[.bool g.dir, .slice an g.nodes.length cn, .slice ae g.edges.length ce] 25) := ⟨_, rfl⟩
  have hb1 : Below w.heap.size w w1 := by rw [hw1]; exact alloc_below w _
  have hz1 : w1.heap.size = w.heap.size + 1 := by rw [hw1]; simp
  have k0 : w1.cell? ⟨w.heap.size, 0, none⟩ = some (.bool g.dir) := by rw [hw1]; simp
  have k1 : w1.cell? ⟨w.heap.size, 1, none⟩ = some (.slice an g.nodes.length cn) := by rw [hw1]; simp
  have k2 : w1.cell? ⟨w.heap.size, 2, none⟩ = some (.slice ae g.edges.length ce) := by rw [hw1]; simp
  have hK : Hid (∀ wr, Below w1.heap.size w1 wr → (Below w.heap.size w wr ∧ GrAt wr g an cn ae ∧ Cells wr ab (edgeCells barred)) ∧ wr.cell? ⟨w.heap.size, 0, none⟩ = some (.bool g.dir) ∧ wr.cell? ⟨w.heap.size, 1, none⟩ = some (.slice an g.nodes.length cn) ∧ wr.cell? ⟨w.heap.size, 2, none⟩ = some (.slice ae g.edges.length ce)) :=
    fun wr h => ⟨⟨hb1.trans (h.mono (by omega)), (hg.below hb1).below h, (hbc.below hb1).below h⟩, cell_below h k0, cell_below h k1, cell_below h k2⟩
  have hfits := Lib.hid (fits_any g an cn ae ce w1 hm hm')
  rw [hw1] at hfits
  have hw1h := Lib.hid hw1
  have h64h := Lib.hid h64
  have hone := Lib.hid walksOne_any
  clear hg hb1 hw1 k0 k1 k2 h64 hbc
  go_enter Tryz.func4, Tryz.ntmps4
  go_wp2_with fail
  refine (unhide hfits).mono ?_
  rintro e w2 ⟨rfl, hb2⟩
  rw [← hw1h.out] at hb2
  obtain ⟨⟨hbw2, hg2, hbc2⟩, c0, c1, c2⟩ := hK.out w2 hb2
  have hb2h := Lib.hid hb2
  have hbw2h := Lib.hid hbw2
  have hg2h := Lib.hid hg2
  rcases hf : fitsB g with _ | _
  · clear hb2 hbw2 hg2 hbc2
    go_wp2_with fail
    go_ret
    exact ⟨rfl, hbw2h.out⟩
  by_cases hbig : 2147483647 < barred.length
  · clear hb2 hbw2 hg2 hbc2
    go_wp2_with fail
    go_ret
    exact ⟨rfl, hbw2h.out⟩
  have hsz := Lib.hid (sized_any g an cn ae ce 40 w2 (by omega) hm hm' hg2)
  clear hb2 hbw2 hg2 hbc2 hfits hf hw1h
  go_wp2_with fail
  refine (unhide hsz).mono ?_
  rintro e w3 ⟨b3, rfl, hs3, hb3⟩
  have hb3' := hb2h.out.trans (hb3.mono hb2h.out.size)
  obtain ⟨⟨hbw3, hg3, hbc3⟩, d0, d1, d2⟩ := hK.out w3 hb3'
  have hb3h := Lib.hid hb3'
  have hbw3h := Lib.hid hbw3
  have hg3h := Lib.hid hg3
  have hbc3h := Lib.hid hbc3
  have hs3h := Lib.hid hs3
  clear hb3 hb3' hbw3 hg3 hbc3 hs3 hsz c0 c1 c2 hb2h hbw2h hg2h
  cases b3
  · go_wp2_with fail
    refine (unhide hone _).mono ?_
    rintro e w4 ⟨rfl, hb4⟩
    have hb4' := Lib.hid (hbw3h.out.trans (hb4.mono hbw3h.out.size))
    clear hb4
    go_wp2_with fail
    go_ret
    exact ⟨rfl, hb4'.out⟩
  by_cases hb60 : 60 < barred.length
  · go_wp2_with fail
    refine (unhide hone _).mono ?_
    rintro e w4 ⟨rfl, hb4⟩
    have hb4' := Lib.hid (hbw3h.out.trans (hb4.mono hbw3h.out.size))
    clear hb4
    go_wp2_with fail
    go_ret
    exact ⟨rfl, hb4'.out⟩
  have hsized := Lib.hid (hs3h.out rfl)
  have hn40 : g.nodes.length ≤ 40 := hsized.out.1
  have he200 : g.edges.length ≤ 200 := hsized.out.2.1
  have hfm := Lib.hid (formed_any g an cn ae ce w3 (by omega) (by omega) hcap hg3h.out)
  clear hs3h hm hm'
  go_wp2_with fail
  refine (unhide hfm).mono ?_
  rintro e w4 ⟨b4, rfl, hs4, hb4⟩
  have hb4' := hb3h.out.trans (hb4.mono hb3h.out.size)
  obtain ⟨⟨hbw4, hg4, hbc4⟩, c0, c1, c2⟩ := hK.out w4 hb4'
  have hb4h := Lib.hid hb4'
  have hbw4h := Lib.hid hbw4
  have hg4h := Lib.hid hg4
  have hbc4h := Lib.hid hbc4
  have hs4h := Lib.hid hs4
  clear hb4 hb4' hbw4 hg4 hbc4 hs4 hfm d0 d1 d2 hb3h hbw3h hg3h hbc3h
  cases b4
  · go_wp2_with fail
    refine (unhide hone _).mono ?_
    rintro e w5 ⟨rfl, hb5⟩
    have hb5' := Lib.hid (hbw4h.out.trans (hb5.mono hbw4h.out.size))
    clear hb5
    go_wp2_with fail
    go_ret
    exact ⟨rfl, hb5'.out⟩
  have hok := Lib.hid (ok_of hsized.out (hs4h.out rfl))
  have hcon := Lib.hid (contall_any an g.nodes.length cn g.nodes u w4 rfl (by omega) hg4h.out.nodes)
  clear hs4h hsized
  go_wp2_with fail
  refine (unhide hcon).mono ?_
  rintro e w5 ⟨rfl, rfl⟩
  by_cases hu : u ∈ g.nodes
  rotate_left
  · have hud : decide (u ∈ g.nodes) = false := decide_eq_false hu
    rw [hud]
    go_wp2_with fail
    refine (unhide hone _).mono ?_
    rintro e w6 ⟨rfl, hb6⟩
    have hb6' := Lib.hid (hbw4h.out.trans (hb6.mono hbw4h.out.size))
    clear hb6
    go_wp2_with fail
    go_ret
    exact ⟨rfl, hb6'.out⟩
  have hud : decide (u ∈ g.nodes) = true := decide_eq_true hu
  rw [hud]
  have hB := Lib.hid (bfirst_any g an cn ae ce u v barred ab cb w4 (by omega) (by omega) hg4h.out hok.out hu h64h.out (by omega) hbc4h.out)
  have huh := Lib.hid hu
  clear hcon hud hu
  go_wp2_with fail
  refine (unhide hB).mono ?_
  rintro e w6 ⟨L, aL, cL, ok, hBE, hLl, rfl, hcL, hb6⟩
  have hb6' := hb4h.out.trans (hb6.mono hb4h.out.size)
  obtain ⟨⟨hbw6, hg6, hbc6⟩, d0, d1, d2⟩ := hK.out w6 hb6'
  have hD := Lib.hid (dfirst_any g an cn ae ce u v barred ab cb w6 (by omega) (by omega) hg6 hok.out huh.out h64h.out (by omega) hbc6)
  have hb6h := Lib.hid hb6'
  have hbw6h := Lib.hid hbw6
  have hBEh := Lib.hid hBE
  have hcLh := Lib.hid hcL
  obtain ⟨fv, hfv⟩ : ∃ fv, fv = (if ok then v else 0) := ⟨_, rfl⟩
  rw [← hfv]
  have hfvh := Lib.hid hfv
  clear hb6 hb6' hbw6 hg6 hbc6 hBE hcL hB c0 c1 c2 hb4h hbw4h hg4h hbc4h hfv
  go_wp2_with fail
  refine (unhide hD).mono ?_
  rintro e w7 ⟨V, aV, cV, is, hDE, hVl, rfl, hcV, hb7⟩
  have hsame : ok = is := ends_same hBEh.out hDE
  subst hsame
  rw [← hfvh.out]
  have hvv : (fv != fv) = false := by simp
  have hbw7 := hbw6h.out.trans (hb7.mono hbw6h.out.size)
  have hcL7 := hcLh.out.below hb7
  have hDEh := Lib.hid hDE
  have hbw7h := Lib.hid hbw7
  have hcL7h := Lib.hid hcL7
  have hcVh := Lib.hid hcV
  clear hb7 hDE hbw7 hcL7 hcV hD d0 d1 d2 hb6h hbw6h hcLh hok h64h
  cases ok
  rotate_left
  · go_wp2_with fail
    refine (unhide hone _).mono ?_
    rintro e w8 ⟨rfl, hb8⟩
    have hb8' := Lib.hid (hbw7h.out.trans (hb8.mono hbw7h.out.size))
    clear hb8
    go_wp2_with fail
    go_ret
    exact ⟨rfl, hb8'.out⟩
  have hagree := Lib.hid (ends_agree hBEh.out hDEh.out)
  have hVne : V ≠ [] := by
    rcases hDEh.out with ⟨_, hW, _⟩ | ⟨h, _⟩
    · exact hW.ne
    · cases h
  have hVs : Hid (aV ≠ none) := by
    obtain ⟨bV, oV, rfl, _⟩ := hcVh.out.at (by rw [ints_length]; exact List.length_pos_iff.2 hVne)
    unfold Hid
    simp
  clear hVne hBEh hDEh huh hcap hbl hbig hb60 hn40 he200
  have hz7 := hbw7h.out.size
  go_wp2_with fail
  go_loopw [17, 18] (fun s iv wr => ∃ (k : Nat) (b : Option Addr) (cb : Nat), k ≤ L.length ∧ iv = .int .i64 k ∧ s = .slice b k cb ∧ wr.ownsRow w7.heap.size 3 1 (.slice b k cb) k (ints ((L.take k).map Prod.fst)) ∧ Below w7.heap.size w7 wr) (fun _ iv _ => L.length - (intOf iv).toNat)
  case atStart => exact ⟨0, none, 0, Nat.zero_le _, rfl, rfl, World.ownsRow_nil _ _ _ _, Below.refl _ _⟩
  case round =>
    obtain ⟨k, b, cb2, hk, rfl, rfl, hown, hb⟩ := hrel
    by_cases hlt : k < L.length
    · obtain ⟨nb, no, rfl, _, hr⟩ := (hcL7h.out.below hb).at (by rw [visCells_length]; omega)
      have hnd := hr _ _ (visCells_get L k hlt).1
      obtain ⟨x, hx⟩ : ∃ x, x = L[k].1 := ⟨_, rfl⟩
      rw [← hx] at hnd
      have htk : Hid (ints ((L.take (k + 1)).map Prod.fst) = ints ((L.take k).map Prod.fst) ++ [.int .i64 x]) := by
        unfold Hid; rw [List.take_succ_eq_append_getElem hlt, List.map_append]; unfold ints; rw [List.map_append, hx]; rfl
      have hBs := hb.size
      have ho := Lib.hid (fun o => hown.alloc o)
      have hfin := Lib.hid (fun o b2 c2 w2 (h2 : w2.ownsRow w7.heap.size 3 1 (.slice b2 (k + 1) c2) (k + 1) (ints ((L.take k).map Prod.fst) ++ [.int .i64 x])) (hg : (wr.alloc o).grownBy w2 (Value.slice b k cb2).ownBlock) =>
        show w2.ownsRow w7.heap.size 3 1 (.slice b2 (k + 1) c2) (k + 1) (ints ((L.take (k + 1)).map Prod.fst)) ∧ Below w7.heap.size w7 w2 from
          ⟨by rw [htk.out]; exact h2, (hb.alloc hBs o).grown hg (by simp; omega) (fun j e => (hown.lt j e).1)⟩)
      clear hx hr hown hb htk
      go_wp2_with (at_builtin; refine append_law 22 3 (.int .i64 0) 1 8 Tryz.underlying22 info_int rfl (by omega) (by omega) rfl _ _ rfl w7.heap.size b k cb2 (ints ((L.take k).map Prod.fst)) rfl (unhide ho _) ⟨wr.heap.size, 0, none⟩ 1 1 [.int .i64 x] rfl rfl (new_one wr _ _) (one_int _) (by omega) (by simp; omega) ?_; intro b2 c2 w2 hown2 hg2 hat2; have hf := Lib.hid (unhide hfin _ _ _ _ hown2 hg2); clear hown2 hg2 hat2)
      go_roundw
      case rel => exact ⟨k + 1, b2, c2, by omega, by go_num, rfl, hf.out.1, hf.out.2⟩
      case measure => simp [intOf]; omega
    · have hkn : k = L.length := by omega
      subst hkn
      rw [List.take_length] at hown
      have hclone := Lib.hid (cloneInts_any V.length cV aV V wr rfl (by omega) (hcVh.out.below hb) hVs.out)
      have hownh := Lib.hid hown
      have hbh := Lib.hid hb
      clear hown hb hlt
      go_wp2_with fail
      refine (unhide hclone).mono ?_
      rintro e w8 ⟨ay, cy, rfl, hoy, hb8⟩
      have hox8 : w8.ownsRow w7.heap.size 3 1 (.slice b L.length cb2) L.length (ints (L.map Prod.fst)) := owns_same hownh.out fun j hj => hb8.block j (hownh.out.lt j hj).2
      have hsx := Lib.hid (sortInt_any w7.heap.size L.length cb2 b (L.map Prod.fst) w8 (by omega) hox8)
      have hb8' : Below w7.heap.size w7 w8 := hbh.out.trans (hb8.mono hbh.out.size)
      have hxlt : ∀ j, (Value.slice b L.length cb2).ownBlock = some j → w7.heap.size ≤ j ∧ j < wr.heap.size := fun j hj => hownh.out.lt j hj
      have hoyh := Lib.hid hoy
      have hb8h := Lib.hid hb8'
      have hxlth := Lib.hid hxlt
      have hz8 := hb8'.size
      clear hoy hb8 hox8 hb8' hxlt hclone
      go_wp2_with fail
      refine (unhide hsx).mono ?_
      rintro e w9 ⟨rfl, hox9, hg9⟩
      have hoy9 : w9.ownsRow wr.heap.size 3 1 (.slice ay V.length cy) V.length (ints V) := owns_same hoyh.out fun j hj => by
        have h1 := hoyh.out.lt j hj
        exact hg9.block j h1.2 (fun e => by have := hxlth.out j e.symm; omega)
      have hsy := Lib.hid (sortInt_any wr.heap.size V.length cy ay V w9 (by omega) hoy9)
      have hb9 : Below w7.heap.size w7 w9 := hb8h.out.grown hg9 (by omega) (fun j e => (hxlth.out j e).1)
      have hylt : ∀ j, (Value.slice ay V.length cy).ownBlock = some j → wr.heap.size ≤ j := fun j hj => (hoyh.out.lt j hj).1
      have hox9h := Lib.hid hox9
      have hb9h := Lib.hid hb9
      have hylth := Lib.hid hylt
      have hz9 := hb9.size
      have hzr := hbh.out.size
      clear hox9 hg9 hoy9 hb9 hylt hsx
      go_wp2_with fail
      refine (unhide hsy).mono ?_
      rintro e w10 ⟨rfl, hoy10, hg10⟩
      have hox10 : w10.ownsRow w7.heap.size 3 1 (.slice b L.length cb2) L.length (ints (asc (L.map Prod.fst))) := owns_same hox9h.out fun j hj => by
        have h1 := hox9h.out.lt j hj
        exact hg10.block j h1.2 (fun e => by have h2 := hylth.out j e.symm; have h3 := hxlth.out j hj; omega)
      have hb10 : Below w7.heap.size w7 w10 := hb9h.out.grown hg10 (by omega) (fun j e => by have := hylth.out j e; omega)
      obtain ⟨ax', cx', ex, _, hcx, _⟩ := owns_cells hox10
      injection ex with ex1 _ ex2
      subst ex1; subst ex2
      obtain ⟨ay', cy', ey, _, hcy, _⟩ := owns_cells hoy10
      injection ey with ey1 _ ey2
      subst ey1; subst ey2
      have hl1 : L.length = (asc (L.map Prod.fst)).length := by rw [asc_length, List.length_map]
      have hl2 : V.length = (asc V).length := (asc_length V).symm
      have heq := Lib.hid (eqInts_any b ay L.length V.length cb2 cy (asc (L.map Prod.fst)) (asc V) w10 hl1 hl2 (by omega) (by omega) hcx hcy)
      have hd : decide (asc (L.map Prod.fst) = asc V) = true := decide_eq_true hagree.out
      rw [hd] at heq
      have hbf : Hid (Below w.heap.size w w10) := hbw7h.out.trans (hb10.mono hbw7h.out.size)
      clear hoy10 hg10 hox10 hb10 hcx hcy hl1 hl2 hd hsy
      go_wp2_with fail
      refine (unhide heq).mono ?_
      rintro e w11 ⟨rfl, q11, hw11⟩
      have hb11 : Hid (Below w.heap.size w w11) := by unfold Hid; rw [hw11]; exact below_draws hbf.out q11
      clear hw11
      go_wp2_with fail
      refine (unhide hone _).mono ?_
      rintro e w12 ⟨rfl, hb12⟩
      have hb12' := Lib.hid (hb11.out.trans (hb12.mono hb11.out.size))
      clear hb12
      go_wp2_with fail
      go_ret
      exact ⟨rfl, hb12'.out⟩
end Go.Proofs.YtpmphefmmcbpaaaGreat
