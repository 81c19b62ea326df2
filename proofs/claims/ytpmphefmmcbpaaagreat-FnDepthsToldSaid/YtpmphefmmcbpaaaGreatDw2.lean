/- DepthFirst.Walk of impl.DepthFirst (Und). -/
import Derived.Test.YtpmphefmmcbpaaaGreatDw1
import Derived.Test.YtpmphefmmcbpaaaGreatNodes
import Derived.Deep.LoopGhost
import Derived.Deep.CutBlock
import Derived.Deep.DeepCutAuto
import Derived.WalkSpells
namespace Go.Proofs.YtpmphefmmcbpaaaGreat
open Go.RowKit

set_option linter.unusedSimpArgs false in
set_option maxRecDepth 100000 in
set_option maxHeartbeats 8000000 in
theorem dwUnd_any (gb : Nat) (ids : List Int) (outs ins : List (List Arc)) (A tb pb ub dp bp : Nat) (dir : Bool) (barred : List (Int × Int × Int)) (u v : Int) (w : World) (hids : ids.length ≤ 1000) (hbl : barred.length ≤ 1048576) (h64 : ∀ x ∈ ids, In64 x)
    (hap : ∀ x, Reach (succF ids outs dir barred) u x → x ∈ ids) (h1 : DBlk w tb (visitFn pb) (freeFn dp bp) (.slice none 0 0) (.map none)) (h2 : VBlk w pb 22 (.slice none 0 0)) (l1 : A ≤ tb) (l2 : A ≤ pb) (hne : tb ≠ pb)
    (hE : DEnv w [tb, pb] gb ids outs ins dp bp dir barred ub v) :
    Calls Tryz.prog 54
      #[.pointer (some ⟨tb, 0, none⟩), .iface 99 (.agg #[.pointer (some ⟨gb, 0, none⟩)]), .iface 84 (.int .i64 u), endFn ub] w
      fun e w' => ∃ (mb B : Nat) (S V : List Int) (a : Option Addr) (n c : Nat) (ap : Option Addr) (cp : Nat), DInv (succF ids outs dir barred) u V S ∧
        ((e = .returned .nilIface ∧ S = [] ∧ v ∉ V) ∨ (e = .returned (.iface 84 (.int .i64 v)) ∧ ∃ V0, V = V0 ++ [v])) ∧ ∃ S',
        DfsAt w' ids A B tb mb pb (visitFn pb) (freeFn dp bp) 22 3 (Value.int .i64) V.reverse S' V (.slice a n c) (.slice ap V.length cp) ∧ Moves [tb, pb] w (dfoot tb mb pb (.slice a n c) (.slice ap V.length cp)) w' := by
  have hmm := @run_makeMap Tryz.prog
  have hme := fun w => run_eql_map_nil (P := Tryz.prog) w 80 2 169 none Tryz.underlying80
  have c3 := h1.c3
  have f3 := h1.free 3
  have c31 : ∀ o, (w.alloc o).cell? ⟨tb, 3, none⟩ = some (.map none) := fun o => cell_alloc c3 o
  have f31 : ∀ o, (w.alloc o).frozen? ⟨tb, 3, none⟩ = false := fun o => free_below (alloc_below w o) c3 f3
  have hmade := Lib.hid (dmade (ids := ids) h1 h2 l1 l2 hne)
  have hEh := Lib.hid hE
  have haph := Lib.hid hap
  have h64h := Lib.hid h64
  have hf1 := func_visit pb
  have hf2 := func_free dp bp
  have hf3 := func_end ub
  unfold visitFn at hf1
  unfold freeFn at hf2
  unfold endFn at hf3 ⊢
  clear h1 h2 hE hap h64
  go_enter Tryz.func54, Tryz.ntmps54
  go_upto_if 18 with fail
  go_cut [] from 14 (fun wx => ∃ mb B, DfsAt wx ids A B tb mb pb (visitFn pb) (freeFn dp bp) 22 3 (Value.int .i64) [] [] [] (.slice none 0 0) (.slice none 0 0) ∧ Moves [tb, pb] w (dfoot tb mb pb (.slice none 0 0) (.slice none 0 0)) wx)
  case first =>
    go_wp2_with fail
    go_meet
    exact hmade.out
  case rest =>
  obtain ⟨mb, B, hD, hM⟩ := hcut
  have hpush := Lib.hid (spush_any none 0 0 u wc rfl (by omega) hD)
  have hMh := Lib.hid hM
  clear hD hM c3 f3 c31 f31 hme hmm hmade
  go_wp2_with fail
  refine (unhide hpush).mono ?_
  rintro e w2 ⟨rfl, b1, c1, hD2, hM2⟩
  have hM2' := hMh.out.trans hM2
  have hD2h := Lib.hid hD2
  have hM2h := Lib.hid hM2'
  clear hD2 hM2 hM2' hMh hpush
  go_wp2_with fail
  go_loopg [] (1 + 1001 * ids.length) (fun gk wr => ∃ (S V : List Int) (a : Option Addr) (n c : Nat) (ap : Option Addr) (cp : Nat), n = S.length ∧ n ≤ 1100000 - 1001 * (ids.length - V.length) ∧ gk = n + 1001 * (ids.length - V.length) ∧ DInv (succF ids outs dir barred) u V S ∧ v ∉ V ∧
    DfsAt wr ids A B tb mb pb (visitFn pb) (freeFn dp bp) 22 3 (Value.int .i64) V.reverse S V (.slice a n c) (.slice ap V.length cp) ∧ Moves [tb, pb] w (dfoot tb mb pb (.slice a n c) (.slice ap V.length cp)) wr)
  case atStart => exact ⟨[u], [], b1, 1, c1, none, 0, rfl, by simp; omega, by simp, DInv.start _ u, by simp, hD2h.out, hM2h.out⟩
  case round =>
    obtain ⟨S, V, a, n, c, ap, cp, hn, hnb, hgk, hI, hvV, hD, hM⟩ := hrel
    have hlen := Lib.hid (slen_any n c a wr hD.blk.c2)
    have hnh := Lib.hid hn
    have hnbh := Lib.hid hnb
    have hgkh := Lib.hid hgk
    have hIh := Lib.hid hI
    have hvVh := Lib.hid hvV
    have hDh := Lib.hid hD
    have hMh := Lib.hid hM
    clear hn hnb hgk hI hvV hD hM hD2h hM2h
    rcases S with _ | ⟨y, S⟩
    · have hn0 : n = 0 := hnh.out
      subst hn0
      go_wp2_with fail
      refine (unhide hlen).mono ?_
      rintro e w3 ⟨rfl, rfl⟩
      go_wp2_with fail
      go_ret
      exact ⟨mb, B, [], V, a, 0, c, ap, cp, hIh.out, .inl ⟨rfl, rfl, hvVh.out⟩, [], hDh.out, hMh.out⟩
    · obtain ⟨m, rfl⟩ : ∃ m, n = m + 1 := ⟨S.length, hnh.out⟩
      have hm : m = S.length := by have := hnh.out; simp only [List.length_cons] at this; omega
      have hpos : ¬ (((m + 1 : Nat) : Int) = 0) := by omega
      have hyr := hIh.out.reachS y List.mem_cons_self
      have hyi := haph.out y hyr
      have h64y := h64h.out y hyi
      have hVl : V.length ≤ ids.length := by
        have := nodup_len hIh.out.nd (fun x hx => haph.out x (hIh.out.reach x hx))
        exact this
      have hpop := Lib.hid (spop_any a m c y wr hm (by have := hnbh.out; omega) hDh.out)
      have hmh := Lib.hid hm
      clear hyr hm
      go_wp2_with fail
      refine (unhide hlen).mono ?_
      rintro e w3 ⟨rfl, rfl⟩
      go_wp2_with fail
      refine (unhide hpop).mono ?_
      rintro e w4 ⟨rfl, a4, c4, hD4, hM4⟩
      have hM4' := hMh.out.trans hM4
      have c3 := hD4.blk.c3
      have hhas := Lib.hid (isetHas_any ids mb V.reverse y w4 h64y hD4.set)
      have hdec : decide (y ∈ V.reverse) = decide (y ∈ V) := by
        rw [Bool.eq_iff_iff, decide_eq_true_iff, decide_eq_true_iff, List.mem_reverse]
      rw [hdec] at hhas
      have hD4h := Lib.hid hD4
      have hM4h := Lib.hid hM4'
      clear hD4 hM4 hM4' hpop hlen hDh hMh hdec
      go_wp2_with (go_at_call 182; refine (id_any _ _).mono ?_; rintro e w' ⟨rfl, rfl⟩)
      refine (unhide hhas).mono ?_
      rintro e w5 ⟨rfl, o5, hw5⟩
      have hb5 : Below w4.heap.size w4 w5 := by rw [hw5]; exact alloc_below _ _
      have hD5 := hD4h.out.below hb5
      have hM5 := hM4h.out.trans (Moves.of_below _ hb5)
      clear hw5 hb5 hhas hD4h hM4h c3
      by_cases hyV : y ∈ V
      · have hyd : decide (y ∈ V) = true := decide_eq_true hyV
        rw [hyd]
        have hskip := hIh.out.skip _ hyV
        have hD5h := Lib.hid hD5
        have hM5h := Lib.hid hM5
        have hskh := Lib.hid hskip
        clear hD5 hM5 hskip hyd
        go_wp2_with fail
        go_roundg (m + 1001 * (ids.length - V.length))
        case measure => have := hgkh.out; omega
        case rel => exact ⟨S, V, a4, m, c4, ap, cp, hmh.out, by have := hnbh.out; omega, rfl, hskh.out, hvVh.out, hD5h.out, hM5h.out⟩
      · have hyd : decide (y ∈ V) = false := decide_eq_false hyV
        rw [hyd]
        have hvis := hIh.out.visit _ hyV
        have hVl2 : V.length + 1 ≤ ids.length := by
          have := nodup_len hvis.nd (fun x hx => haph.out x (hvis.reach x hx))
          rw [List.length_append, List.length_singleton] at this
          exact this
        have d3 := hD5.blk.c3
        have hadd := Lib.hid (isetAdd_any ids mb V.reverse y w5 h64y hyi (by omega) hD5.set)
        have hD5h := Lib.hid hD5
        have hM5h := Lib.hid hM5
        have hvish := Lib.hid hvis
        clear hD5 hM5 hvis hyd
        go_wp2_with fail
        refine (unhide hadd).mono ?_
        rintro e w6 ⟨rfl, hi6, hg6⟩
        have hD6 := hD5h.out.put hg6 hi6
        have hM6 := hM5h.out.trans (Moves.of_grown hg6 (mem_dfoot.2 (by simp)))
        have e0 := hD6.blk.c0
        have hvisit := Lib.hid (visit_any (P := V) ap V.length cp y w6 rfl (by omega) hD6)
        have hM6h := Lib.hid hM6
        unfold visitFn at e0
        clear hi6 hg6 hD6 hM6 hadd hD5h hM5h d3
        go_wp2_with fail
        refine (unhide hvisit).mono ?_
        rintro e w7 ⟨rfl, a7, c7, hD7, hM7⟩
        have hM7' := hM6h.out.trans hM7
        obtain ⟨hp7, hfr7, hu7⟩ := hEh.out.at hM7'
        have hend := Lib.hid (end_any ub y v w7 hu7)
        have hD7h := Lib.hid hD7
        have hM7h := Lib.hid hM7'
        clear hD7 hM7 hM7' hvisit hM6h e0 hp7 hfr7 hu7
        go_wp2_with fail
        refine (unhide hend).mono ?_
        rintro e w8 ⟨rfl, hb8⟩
        have hD8 := hD7h.out.below hb8
        have hM8 := hM7h.out.trans (Moves.of_below _ hb8)
        have hO9 : y :: V.reverse = (V ++ [y]).reverse := by simp
        have hV9 : (V ++ [y]).length = V.length + 1 := by simp
        clear hend hD7h hM7h
        by_cases hyv : y = v
        · subst hyv
          rw [hO9] at hD8
          have hfin : Hid (DfsAt w8 ids A B tb mb pb (visitFn pb) (freeFn dp bp) 22 3 (Value.int .i64) (V ++ [y]).reverse S (V ++ [y]) (.slice a4 m c4) (.slice a7 (V ++ [y]).length c7) ∧ Moves [tb, pb] w (dfoot tb mb pb (.slice a4 m c4) (.slice a7 (V ++ [y]).length c7)) w8) := by
            unfold Hid
            rw [hV9]
            exact ⟨hD8, hM8⟩
          have hyy : (y == y) = true := by simp
          clear hb8 hD8 hM8 hO9 hV9
          go_wp2_with fail
          go_ret
          exact ⟨mb, B, _, V ++ [y], a4, m, c4, a7, c7, hvish.out, .inr ⟨rfl, V, rfl⟩, S, hfin.out.1, hfin.out.2⟩
        · have hyv' : (y == v) = false := by simpa using hyv
          have hvn : Hid (v ∉ V ++ [y]) := fun h => by
            rcases List.mem_append.1 h with h | h
            · exact hvVh.out h
            · exact hyv (List.mem_singleton.1 h).symm
          obtain ⟨hp8, -, -⟩ := hEh.out.at hM8
          have hfr := Lib.hid (fromUnd_any gb ids outs ins y w8 (by omega) hp8 hyi)
          have hnl := succ_len hp8 y
          have hfl8' := hD8.footlt
          have harc := Lib.hid fun (k : Nat) (hk : k < (succOf ids outs y).length) => arcAt_succ hp8 hyi hk
          have hD8h := Lib.hid hD8
          have hM8h := Lib.hid hM8
          clear hb8 hD8 hM8 hp8 hO9 hV9 hyv
          go_wp2_with fail
          refine (unhide hfr).mono ?_
          rintro e w9 ⟨ib, rfl, hit, hb9⟩
          obtain ⟨ns, hns⟩ : ∃ ns, ns = endsOf ids (outs.getD (posOf ids y) []) := ⟨_, rfl⟩
          have hsucc : Hid (succOf ids outs y = ns) := hns.symm
          obtain ⟨B2, hB2⟩ : ∃ B2, B2 = w8.heap.size := ⟨_, rfl⟩
          obtain ⟨E, hE⟩ : ∃ E, E = w9.heap.size := ⟨_, rfl⟩
          have hD9 := hD8h.out.below hb9
          have hM9 := hM8h.out.trans (Moves.of_below _ hb9)
          have hfl9 : ∀ k ∈ dfoot tb mb pb (.slice a4 m c4) (.slice a7 (V.length + 1) c7), k < B2 ∨ E ≤ k := fun k hk => .inl (by rw [hB2]; exact hfl8' k hk)
          have hE9 : E ≤ w9.heap.size := by rw [hE]; exact Nat.le_refl _
          have hw0 : w.heap.size ≤ B2 := by rw [hB2]; exact hM8h.out.size
          rw [← hB2, ← hE, ← hns] at hit
          rw [hsucc.out] at hnl harc
          have hnl' : ns.length ≤ 1000 := by omega
          clear hB2 hE hns hfl8' hb9 hfr hD8h hM8h
          go_wp2_with fail
          go_loopg [] (ns.length) (fun gi wi => ∃ (k : Nat) (a : Option Addr) (n c : Nat), k ≤ ns.length ∧ gi = ns.length - k ∧ n = (((ns.take k).filter fun z => freeB dir barred y z).reverse ++ S).length ∧ n ≤ m + k ∧
            DfsAt wi ids A B tb mb pb (visitFn pb) (freeFn dp bp) 22 3 (Value.int .i64) (y :: V.reverse) (((ns.take k).filter fun z => freeB dir barred y z).reverse ++ S) (V ++ [y]) (.slice a n c) (.slice a7 (V.length + 1) c7) ∧
            Moves [tb, pb] w (dfoot tb mb pb (.slice a n c) (.slice a7 (V.length + 1) c7)) wi ∧ (∀ k ∈ dfoot tb mb pb (.slice a n c) (.slice a7 (V.length + 1) c7), k < B2 ∨ E ≤ k) ∧ IterAt wi B2 E ib k ns ∧ E ≤ wi.heap.size)
          case atStart => exact ⟨0, a4, m, c4, Nat.zero_le _, rfl, by have := hmh.out; simpa using this, Nat.le_refl _, by simpa using hD9, hM9, hfl9, hit, hE9⟩
          case round =>
            clear hD9 hM9 hfl9 hit hE9
            obtain ⟨k, a, n, c, hk, hgi, hn1, hn2, hD, hM, hfl, hit, hEs⟩ := hrel
            have hib1 := hit.1
            have hib2 := hit.2.1
            have hnext := Lib.hid (next_any B2 E ib k ns wr hk (by omega) hit)
            have hgih := Lib.hid hgi
            have hn1h := Lib.hid hn1
            have hn2h := Lib.hid hn2
            have hDh := Lib.hid hD
            have hMh := Lib.hid hM
            have hflh := Lib.hid hfl
            clear hgi hn1 hn2 hD hM hfl hit
            by_cases hlt : k < ns.length
            · have hd : decide (k < ns.length) = true := decide_eq_true hlt
              have hltn := hlt
              clear hlt
              go_wp2_with fail
              refine (unhide hnext).mono ?_
              rintro e w10 ⟨rfl, hg10, hit10⟩
              have hit10' := hit10 hltn
              have hibn : ib ∉ dfoot tb mb pb (.slice a n c) (.slice a7 (V.length + 1) c7) := fun h => by have := hflh.out ib h; omega
              have hD10 := hDh.out.same (fun j hj => hg10.block j (hDh.out.footlt j hj) (fun e => by injection e with e; exact hibn (e ▸ hj))) hg10.size
              have hM10 := hMh.out.grown hg10 (fun q e => by injection e with e; omega)
              have hE10 : E ≤ w10.heap.size := Nat.le_trans hEs hg10.size
              have hnode := Lib.hid (node_any B2 E ib k ns w10 hltn (by omega) hit10')
              obtain ⟨x, hxe⟩ : ∃ x, x = ns[k] := ⟨_, rfl⟩
              rw [← hxe] at hnode
              have hxeh := Lib.hid hxe
              have hD10h := Lib.hid hD10
              have hM10h := Lib.hid hM10
              have hit10h := Lib.hid hit10'
              clear hnext hg10 hit10 hit10' hD10 hM10 hxe hDh hMh hEs
              go_wp2_with fail
              refine (unhide hnode).mono ?_
              rintro e w11 ⟨rfl, k11, hw11⟩
              have hb11 : Below w10.heap.size w10 w11 := by rw [hw11]; exact drewN_below _ _
              have hD11 := hD10h.out.below hb11
              have hM11 := hM10h.out.trans (Moves.of_below _ hb11)
              have hit11 : IterAt w11 B2 E ib (k + 1) ns := by rw [hw11]; exact hit10h.out
              have hE11 : E ≤ w11.heap.size := Nat.le_trans hE10 hb11.size
              have g1 := hD11.blk.c1
              unfold freeFn at g1
              have hD11h := Lib.hid hD11
              have hM11h := Lib.hid hM11
              have hit11h := Lib.hid hit11
              clear hw11 hb11 hD11 hM11 hit11 hnode hD10h hM10h hit10h hE10
              go_wp2_with (first
                | (go_at_call 182; refine (id_any _ _).mono ?_; rintro e w' ⟨rfl, rfl⟩))
              have hkn : k < ns.length := hltn
              obtain ⟨t, wt, harc1⟩ := harc.out k hkn
              rw [← hxeh.out] at harc1
              have hedge := Lib.hid fun (W : World) (hW : Below w11.heap.size w11 W) => edgeUnd_any gb ids outs ins y x t wt W (by omega) (hEh.out.at (hM11h.out.trans (Moves.of_below _ hW))).1 harc1
              have hfree := Lib.hid fun (W : World) (hW : Below w11.heap.size w11 W) => free_any dp bp dir barred y x wt W hbl (hEh.out.at (hM11h.out.trans (Moves.of_below _ hW))).2.1
              have hB0 := drew_below w11
              have hme := edge_methodUnd
              clear harc1
              simp only [edgeV] at hedge hfree
              obtain ⟨fb, hfb⟩ : ∃ fb, fb = freeB dir barred y x := ⟨_, rfl⟩
              rw [← hfb] at hfree
              have hfbh := Lib.hid hfb
              clear hfb
              have g1h := Lib.hid g1
              refine wp_region_noPanic ?_
              refine wp_region_held_drew (S := fun w' => Below w11.heap.size w11 w' ∧ w'.cell? ⟨tb, 1, none⟩ = some (.func (.func 76) #[] #[.pointer (some ⟨dp, 0, none⟩), .pointer (some ⟨bp, 0, none⟩)])) (by kernel_rfl) ?_ (fun hHeld => ?_)
              · (try dsimp only); exact ⟨hB0, cell_below hB0 g1h.out⟩
              refine wpAnyH_take (i := 0) (oi := _) (v := ?_) rfl (by kernel_rfl) (by kernel_rfl) (by kernel_rfl) (fun _ _ _ h => h) (Or.inl ⟨by rfl, ?_⟩) (by assumption) ?_
              rotate_left
              · intro w hSw; (try dsimp only at hSw); first | (obtain ⟨_, hSd⟩ := hSw; go_simp; try with_reducible rfl) | (go_simp; try with_reducible rfl)
              try simp only [Act.put, List.setIfInBounds_toArray, List.set_cons_zero, List.set_cons_succ]
              refine wpAnyH_take (i := 1) (oi := _) (v := ?_) rfl (by kernel_rfl) (by kernel_rfl) (by kernel_rfl) (fun _ _ _ h => h) (Or.inl ⟨by rfl, ?_⟩) (by assumption) ?_
              rotate_left
              · intro w hSw; (try dsimp only at hSw); first | (obtain ⟨_, hSd⟩ := hSw; go_simp; try with_reducible rfl) | (go_simp; try with_reducible rfl)
              try simp only [Act.put, List.setIfInBounds_toArray, List.set_cons_zero, List.set_cons_succ]
              refine wpAnyH_take (i := 2) (oi := _) (v := ?_) rfl (by kernel_rfl) (by kernel_rfl) (by kernel_rfl) (fun _ _ _ h => h) (Or.inl ⟨by rfl, ?_⟩) (by assumption) ?_
              rotate_left
              · intro w hSw; (try dsimp only at hSw); first | (obtain ⟨_, hSd⟩ := hSw; go_simp; try with_reducible rfl) | (go_simp; try with_reducible rfl)
              try simp only [Act.put, List.setIfInBounds_toArray, List.set_cons_zero, List.set_cons_succ]
              refine wpAnyH_take (i := 3) (oi := _) (v := ?_) rfl (by kernel_rfl) (by kernel_rfl) (by kernel_rfl) (fun _ _ _ h => h) (Or.inl ⟨by rfl, ?_⟩) (by assumption) ?_
              rotate_left
              · intro w hSw; (try dsimp only at hSw); first | (obtain ⟨_, hSd⟩ := hSw; go_simp; try with_reducible rfl) | (go_simp; try with_reducible rfl)
              try simp only [Act.put, List.setIfInBounds_toArray, List.set_cons_zero, List.set_cons_succ]
              refine wpAnyH_take (i := 4) (oi := _) (v := ?_) rfl (by kernel_rfl) (by kernel_rfl) (by kernel_rfl) (fun _ _ _ h => h) (Or.inl ⟨by rfl, ?_⟩) (by assumption) ?_
              rotate_left
              · intro w hSw; (try dsimp only at hSw); first | (obtain ⟨_, hSd⟩ := hSw; go_simp; try with_reducible rfl) | (go_simp; try with_reducible rfl)
              try simp only [Act.put, List.setIfInBounds_toArray, List.set_cons_zero, List.set_cons_succ]
              refine wpAnyH_take (i := 5) (oi := _) (v := ?_) rfl (by kernel_rfl) (by kernel_rfl) (by kernel_rfl) (fun _ _ _ h => h) (Or.inl ⟨by rfl, ?_⟩) (by assumption) ?_
              rotate_left
              · intro w hSw; (try dsimp only at hSw); first | (obtain ⟨_, hSd⟩ := hSw; go_simp; try with_reducible rfl) | (go_simp; try with_reducible rfl)
              try simp only [Act.put, List.setIfInBounds_toArray, List.set_cons_zero, List.set_cons_succ]
              refine wpAnyH_take (i := 6) (oi := _) (v := ?_) rfl (by kernel_rfl) (by kernel_rfl) (by kernel_rfl) (fun _ _ _ h => h) (Or.inl ⟨by kernel_rfl, ?_⟩) (by assumption) ?_
              rotate_left
              · intro w hSw; (try dsimp only at hSw); first | (obtain ⟨_, hSd⟩ := hSw; go_simp; try with_reducible rfl) | (go_simp; try with_reducible rfl)
              try simp only [Act.put, List.setIfInBounds_toArray, List.set_cons_zero, List.set_cons_succ]
              refine wpAnyH_take (i := 7) (oi := _) (v := ?_) rfl (by kernel_rfl) (by kernel_rfl) (by kernel_rfl) (fun _ _ _ h => h) (Or.inl ⟨by kernel_rfl, ?_⟩) (by assumption) ?_
              rotate_left
              · intro w hSw; (try dsimp only at hSw); first | (obtain ⟨_, hSd⟩ := hSw; go_simp; try with_reducible rfl) | (go_simp; try with_reducible rfl)
              try simp only [Act.put, List.setIfInBounds_toArray, List.set_cons_zero, List.set_cons_succ]
              refine wpAnyH_take (i := 8) (oi := _) (v := ?_) rfl (by kernel_rfl) (by kernel_rfl) (by kernel_rfl) (fun _ _ _ h => h) (Or.inl ⟨by kernel_rfl, ?_⟩) (by assumption) ?_
              rotate_left
              · intro w hSw; (try dsimp only at hSw); first | (obtain ⟨_, hSd⟩ := hSw; go_simp; try with_reducible rfl) | (go_simp; try with_reducible rfl)
              try simp only [Act.put, List.setIfInBounds_toArray, List.set_cons_zero, List.set_cons_succ]
              refine wpAnyH_take (i := 9) (oi := _) (v := ?_) rfl (by kernel_rfl) (by kernel_rfl) (by kernel_rfl) (fun _ _ _ h => h) (Or.inl ⟨by kernel_rfl, ?_⟩) (by assumption) ?_
              rotate_left
              · intro w hSw; (try dsimp only at hSw); first | (obtain ⟨_, hSd⟩ := hSw; go_simp; try with_reducible rfl) | (go_simp; try with_reducible rfl)
              try simp only [Act.put, List.setIfInBounds_toArray, List.set_cons_zero, List.set_cons_succ]
              refine wpAnyH_take (i := 10) (oi := _) (v := ?_) rfl (by kernel_rfl) (by kernel_rfl) (by kernel_rfl) (fun _ _ _ h => h) (Or.inl ⟨by kernel_rfl, ?_⟩) (by assumption) ?_
              rotate_left
              · intro w hSw; (try dsimp only at hSw); first | (obtain ⟨_, hSd⟩ := hSw; go_simp; try with_reducible rfl) | (go_simp; try with_reducible rfl)
              try simp only [Act.put, List.setIfInBounds_toArray, List.set_cons_zero, List.set_cons_succ]
              refine wpAnyH_take (i := 11) (oi := _) (v := ?_) rfl (by kernel_rfl) (by kernel_rfl) (by kernel_rfl) (fun _ _ _ h => h) (Or.inl ⟨by kernel_rfl, ?_⟩) (by assumption) ?_
              rotate_left
              · intro w hSw; (try dsimp only at hSw); first | (obtain ⟨_, hSd⟩ := hSw; go_simp; try with_reducible rfl) | (go_simp; try with_reducible rfl)
              try simp only [Act.put, List.setIfInBounds_toArray, List.set_cons_zero, List.set_cons_succ]
              refine wpAnyH_take (i := 12) (oi := _) (v := ?_) rfl (by kernel_rfl) (by kernel_rfl) (by kernel_rfl) (fun _ _ _ h => h) (Or.inl ⟨by kernel_rfl, ?_⟩) (by assumption) ?_
              rotate_left
              · intro w hSw; (try dsimp only at hSw); first | (obtain ⟨_, hSd⟩ := hSw; go_simp; try with_reducible rfl) | (go_simp; try with_reducible rfl)
              try simp only [Act.put, List.setIfInBounds_toArray, List.set_cons_zero, List.set_cons_succ]
              refine wpAnyH_ready (rs := [13]) (by kernel_rfl) (by simp) ?_
              refine AllReadyH.cons (o := _) rfl (fun K hK => ?_) AllReadyH.nil
              rw [if_pos (by kernel_rfl)]
              go_simp
              go_at_call 183
              refine (hedge.out _ hB0).mono ?_
              rintro e w12 ⟨rfl, hb12⟩
              have hB1 := below_trans hB0 hb12
              clear hb12
              go_wp2_with fail
              refine hK.out _ _ ?_ (fun hHeld => ?_)
              · (try dsimp only); exact ⟨hB1, cell_below hB1 g1h.out⟩
              clear hK K
              try simp only [Act.put, List.setIfInBounds_toArray, List.set_cons_zero, List.set_cons_succ]
              refine wpAnyH_ready (rs := [14]) (by kernel_rfl) (by simp) ?_
              refine AllReadyH.cons (o := _) rfl (fun K hK => ?_) AllReadyH.nil
              rw [if_pos (by kernel_rfl)]
              go_simp
              go_at_call 76
              refine (hfree.out _ hB1).mono ?_
              rintro e w13 ⟨rfl, hb13⟩
              have hB3 := below_trans hB1 hb13
              clear hb13
              go_wp2_with fail
              refine hK.out _ _ ?_ (fun hHeld => ?_)
              · (try dsimp only); exact ⟨hB3, cell_below hB3 g1h.out⟩
              clear hK K
              try simp only [Act.put, List.setIfInBounds_toArray, List.set_cons_zero, List.set_cons_succ]
              refine wpAnyH_take (i := 15) (oi := _) (v := ?_) rfl (by kernel_rfl) (by kernel_rfl) (by kernel_rfl) (fun _ _ _ h => h) (Or.inl ⟨by kernel_rfl, ?_⟩) (by assumption) ?_
              rotate_left
              · intro w hSw; (try dsimp only at hSw); first | (obtain ⟨_, hSd⟩ := hSw; go_simp; try with_reducible rfl) | (go_simp; try with_reducible rfl)
              try simp only [Act.put, List.setIfInBounds_toArray, List.set_cons_zero, List.set_cons_succ]
              refine wpAnyH_take (i := 16) (oi := _) (v := ?_) rfl (by kernel_rfl) (by kernel_rfl) (by kernel_rfl) (fun _ _ _ h => h) (Or.inl ⟨by rfl, ?_⟩) (by assumption) ?_
              rotate_left
              · intro w hSw; (try dsimp only at hSw); first | (obtain ⟨_, hSd⟩ := hSw; go_simp; try with_reducible rfl) | (go_simp; try with_reducible rfl)
              try simp only [Act.put, List.setIfInBounds_toArray, List.set_cons_zero, List.set_cons_succ]
              refine wpAnyH_done (by kernel_rfl) ?_ _
              refine NoPanic.normal ?_
              simp only [List.getElem_toArray, List.getElem_cons_succ, List.getElem_cons_zero, List.setIfInBounds_toArray, List.set_cons_zero, List.set_cons_succ]
              have hD13 := hD11h.out.below hB3
              have hM13 := hM11h.out.trans (Moves.of_below _ hB3)
              have hit13 : IterAt w13 B2 E ib (k + 1) ns := hit11h.out.same fun j h1 h2 => hB3.block j (by omega)
              have hE13 : E ≤ w13.heap.size := Nat.le_trans hE11 hB3.size
              have htake : ns.take (k + 1) = ns.take k ++ [x] := by rw [List.take_succ_eq_append_getElem hltn, ← hxeh.out]
              clear hHeld hB0 hB1 hB3 hme hedge hfree g1 g1h hD11h hM11h hit11h hE11
              cases fb
              · have htk : ((ns.take (k + 1)).filter fun z => freeB dir barred y z) = (ns.take k).filter fun z => freeB dir barred y z := by
                  rw [htake, List.filter_append, List.filter_cons_of_neg (by rw [← hfbh.out]; simp), List.filter_nil, List.append_nil]
                have hfin : Hid (n = (((ns.take (k + 1)).filter fun z => freeB dir barred y z).reverse ++ S).length ∧ n ≤ m + (k + 1) ∧
                    DfsAt w13 ids A B tb mb pb (visitFn pb) (freeFn dp bp) 22 3 (Value.int .i64) (y :: V.reverse) (((ns.take (k + 1)).filter fun z => freeB dir barred y z).reverse ++ S) (V ++ [y]) (.slice a n c) (.slice a7 (V.length + 1) c7) ∧
                    Moves [tb, pb] w (dfoot tb mb pb (.slice a n c) (.slice a7 (V.length + 1) c7)) w13 ∧ (∀ k ∈ dfoot tb mb pb (.slice a n c) (.slice a7 (V.length + 1) c7), k < B2 ∨ E ≤ k) ∧ IterAt w13 B2 E ib (k + 1) ns ∧ E ≤ w13.heap.size) := by
                  unfold Hid
                  rw [htk]
                  exact ⟨hn1h.out, by have := hn2h.out; omega, hD13, hM13, hflh.out, hit13, hE13⟩
                clear hD13 hM13 hit13 hE13 htk htake hn1h hn2h
                go_wp2_with fail
                go_roundg (ns.length - (k + 1))
                case measure => have := hgih.out; omega
                case rel => exact ⟨k + 1, a, n, c, by omega, rfl, hfin.out.1, hfin.out.2.1, hfin.out.2.2⟩
              · have htk : ((ns.take (k + 1)).filter fun z => freeB dir barred y z) = ((ns.take k).filter fun z => freeB dir barred y z) ++ [x] := by
                  rw [htake, List.filter_append, List.filter_cons_of_pos (by rw [← hfbh.out]), List.filter_nil]
                have htk2 : ((ns.take (k + 1)).filter fun z => freeB dir barred y z).reverse ++ S = x :: (((ns.take k).filter fun z => freeB dir barred y z).reverse ++ S) := by
                  rw [htk, List.reverse_append]; rfl
                have hpush := Lib.hid (spush_any a n c x w13 hn1h.out (by have := hn2h.out; have := hnbh.out; omega) hD13)
                have hM13h := Lib.hid hM13
                have hit13h := Lib.hid hit13
                have htk2h := Lib.hid htk2
                clear hD13 hM13 hit13 htk htk2 htake
                go_wp2_with fail
                refine (unhide hpush).mono ?_
                rintro e w14 ⟨rfl, a14, c14, hD14, hM14⟩
                have hfl14 : ∀ k ∈ dfoot tb mb pb (.slice a14 (n + 1) c14) (.slice a7 (V.length + 1) c7), k < B2 ∨ E ≤ k := fun j hj => by
                  rcases hM14.row j hj with h | h
                  · exact hflh.out j h
                  · exact .inr (Nat.le_trans hE13 h)
                have hit14 : IterAt w14 B2 E ib (k + 1) ns := hit13h.out.same fun j h1 h2 => hM14.block j (by omega) (fun hj => by have := hflh.out j hj; omega)
                have hE14 : E ≤ w14.heap.size := Nat.le_trans hE13 hM14.size
                have hM14' := hM13h.out.trans hM14
                have hfin : Hid (n + 1 = (((ns.take (k + 1)).filter fun z => freeB dir barred y z).reverse ++ S).length ∧ DfsAt w14 ids A B tb mb pb (visitFn pb) (freeFn dp bp) 22 3 (Value.int .i64) (y :: V.reverse) (((ns.take (k + 1)).filter fun z => freeB dir barred y z).reverse ++ S) (V ++ [y]) (.slice a14 (n + 1) c14) (.slice a7 (V.length + 1) c7) ∧
                    Moves [tb, pb] w (dfoot tb mb pb (.slice a14 (n + 1) c14) (.slice a7 (V.length + 1) c7)) w14 ∧ (∀ k ∈ dfoot tb mb pb (.slice a14 (n + 1) c14) (.slice a7 (V.length + 1) c7), k < B2 ∨ E ≤ k) ∧ IterAt w14 B2 E ib (k + 1) ns ∧ E ≤ w14.heap.size) := by
                  unfold Hid
                  rw [htk2h.out]
                  exact ⟨by rw [List.length_cons, ← hn1h.out], hD14, hM14', hfl14, hit14, hE14⟩
                clear hfl14 hit14 hE14 hM14' hD14 hM14 hpush hM13h hit13h hE13 htk2h
                go_wp2_with fail
                go_roundg (ns.length - (k + 1))
                case measure => have := hgih.out; omega
                case rel => exact ⟨k + 1, a14, n + 1, c14, by omega, rfl, hfin.out.1, by have := hn2h.out; omega, hfin.out.2⟩
            · have hd : decide (k < ns.length) = false := decide_eq_false hlt
              have hkn : k = ns.length := by omega
              subst hkn
              go_wp2_with fail
              refine (unhide hnext).mono ?_
              rintro e w10 ⟨rfl, hg10, _⟩
              have hibn : ib ∉ dfoot tb mb pb (.slice a n c) (.slice a7 (V.length + 1) c7) := fun h => by have := hflh.out ib h; omega
              have hD10 := hDh.out.same (fun j hj => hg10.block j (hDh.out.footlt j hj) (fun e => by injection e with e; exact hibn (e ▸ hj))) hg10.size
              have hM10 := hMh.out.grown hg10 (fun q e => by injection e with e; omega)
              have hvs : DInv (succF ids outs dir barred) u (V ++ [y]) ((ns.filter fun z => freeB dir barred y z).reverse ++ S) := by have := hvish.out; unfold succF at this; rw [hsucc.out] at this; exact this
              have hl10 : n = ((ns.filter fun z => freeB dir barred y z).reverse ++ S).length := by have := hn1h.out; rwa [List.take_length] at this
              rw [List.take_length] at hD10
              have hO10 : y :: V.reverse = (V ++ [y]).reverse := by simp
              have hV10 : (V ++ [y]).length = V.length + 1 := by simp
              rw [hO10] at hD10
              have hfin : Hid (DfsAt w10 ids A B tb mb pb (visitFn pb) (freeFn dp bp) 22 3 (Value.int .i64) (V ++ [y]).reverse ((ns.filter fun z => freeB dir barred y z).reverse ++ S) (V ++ [y]) (.slice a n c) (.slice a7 (V ++ [y]).length c7) ∧ Moves [tb, pb] w (dfoot tb mb pb (.slice a n c) (.slice a7 (V ++ [y]).length c7)) w10) := by
                unfold Hid
                rw [hV10]
                exact ⟨hD10, hM10⟩
              have hvsh := Lib.hid hvs
              have hl10h := Lib.hid hl10
              have hlen10 : Hid ((V ++ [y]).length = V.length + 1) := hV10
              clear hg10 hnext hibn hD10 hM10 hvs hl10 hO10 hV10 hDh hMh
              go_wp2_with fail
              go_roundg (n + 1001 * (ids.length - (V.length + 1)))
              case measure => have := hgkh.out; have := hn2h.out; omega
              case rel => exact ⟨(ns.filter fun z => freeB dir barred y z).reverse ++ S, V ++ [y], a, n, c, a7, c7, hl10h.out, by have := hnbh.out; have := hn2h.out; have := hlen10.out; omega, by rw [hlen10.out], hvsh.out, hvn.out, hfin.out.1, hfin.out.2⟩
end Go.Proofs.YtpmphefmmcbpaaaGreat
