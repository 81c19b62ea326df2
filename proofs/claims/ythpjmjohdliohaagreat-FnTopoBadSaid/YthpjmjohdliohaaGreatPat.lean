/- topo.UndirectedCyclesIn: the walk (that it ends, and what lies in memory then). -/
import Derived.Test.YthpjmjohdliohaaGreatPatA
import Derived.Test.YthpjmjohdliohaaGreatNodesT
import Derived.Test.YthpjmjohdliohaaGreatTabsS
import Derived.Deep.LoopGhost
import Derived.Deep.DeepCutAuto
namespace Go.Proofs.YthpjmjohdliohaaGreat
open Go.RowKit Go.Maps

theorem pinfo_nrow : (Tryz.prog.info? 50).map (fun i => (i.zero, i.size, i.bytes)) = some (some (.slice none 0 0), 1, 24) := by kernel_rfl
theorem pnew_two (w : World) (x y : Value) (e : TypeId) : ∀ (j : Nat) u, [x, y][j]? = some u → (w.alloc (.cells #[x, y] e)).cell? ((⟨w.heap.size, 0, none⟩ : Addr).add j) = some u := by
  intro j u hj
  rw [Addr.add_mid, Nat.zero_add]
  rcases j with _ | _ | j
  · simp at hj; subst hj; unfold World.cell?; rw [heap_alloc_new]; rfl
  · simp at hj; subst hj; unfold World.cell?; rw [heap_alloc_new]; rfl
  · simp at hj
theorem ptwo_nodes (x y : Int) : ∀ u ∈ [Value.iface 127 (.int .i64 x), Value.iface 127 (.int .i64 y)], u.oneCell' = true := by
  intro u hu
  rcases List.mem_cons.1 hu with h | h
  · subst h; rfl
  · rw [List.mem_singleton] at h; subst h; rfl
theorem pone_row (a : Option Addr) (n c : Nat) : ∀ u ∈ [Value.slice a n c], u.oneCell' = true := by
  intro u hu
  rw [List.mem_singleton] at hu
  subst hu; rfl

theorem iterP_add (par : Int → Int) (i k : Nat) (x : Int) : iterP par (i + k) x = iterP par k (iterP par i x) := by
  induction i generalizing x with
  | zero => rw [Nat.zero_add]; rfl
  | succ i ih => rw [Nat.succ_add]; exact ih (par x)

/-- What UndirectedCyclesIn gives. -/
def UCycPost (w : World) (e : Ending) (w' : World) : Prop :=
  ∃ (a : Option Addr) (n c : Nat) (cy : List (List Int)) (vs : Nat → Value), e = .returned (.slice a n c) ∧ n = cy.length ∧ n ≤ 1000000 ∧ w'.ownsRow w.heap.size 50 1 (.slice a n c) n ((List.range n).map vs) ∧
    (∀ i, w'.ownsRow w.heap.size 85 1 (vs i) (cy.getD i []).length (nodes (cy.getD i []))) ∧ (∀ i, (cy.getD i []).length ≤ 200) ∧ Below w.heap.size w w'

set_option maxRecDepth 100000 in
set_option maxHeartbeats 16000000 in
theorem ucyc_any (gb : Nat) (ids : List Int) (outs ins : List (List Arc)) (w : World) (hids : ids.length ≤ 100) (h64 : ∀ y ∈ ids, In64 y) (hp : PlainAt w gb ids outs ins) (hsym : ∀ x ∈ ids, ∀ y ∈ succOf ids outs x, x ∈ succOf ids outs y) (hnd : ∀ x ∈ ids, (succOf ids outs x).Nodup) (hno : ∀ x ∈ ids, x ∉ succOf ids outs x) :
    Calls Tryz.prog 31 #[.iface 62 (.agg #[.pointer (some ⟨gb, 0, none⟩)])] w (UCycPost w) := by
  obtain ⟨S, hS⟩ : ∃ S, S = succOf ids outs := ⟨_, rfl⟩
  have hSm : Hid (∀ x ∈ ids, ∀ y ∈ S x, y ∈ ids) := fun x _ y hy => succ_mem hp x y (by rw [← hS]; exact hy)
  have hSl : Hid (∀ x, (S x).length ≤ 100) := fun x => by have := succ_len hp x; rw [← hS] at this; omega
  have hfrom : Hid (∀ W x, Below w.heap.size w W → x ∈ ids → Calls Tryz.prog 179 #[.agg #[.pointer (some ⟨gb, 0, none⟩)], .int .i64 x] W fun e w' => ∃ ib, e = .returned (.iface 248 (.pointer (some ⟨ib, 0, none⟩))) ∧ IterAt w' W.heap.size w'.heap.size ib 0 (S x) ∧ Below W.heap.size W w') := fun W x hW hx => by
    rw [hS]
    exact fromUnd_any gb ids outs ins x W (by omega) (hp.below hW) hx
  obtain ⟨w2, hw2⟩ : ∃ w2, w2 = (w.alloc (.map #[] 0)).alloc (.cells #[.slice none 0 0] 101) := ⟨_, rfl⟩
  have hP2 := PM.init w ids 101
  rw [← hw2] at hP2
  have hb2 : Below w.heap.size w w2 := by rw [hw2]; exact (alloc_below w _).trans ((alloc_below _ _).mono (by simp))
  have hns := nodesUnd_any gb ids outs ins w2 (by omega) (hp.below hb2)
  rw [hw2] at hns
  have hnsh := Lib.hid hns
  have hP2h := Lib.hid hP2
  have hw2h := Lib.hid hw2
  have hb2h := Lib.hid hb2
  have h64h := Lib.hid h64
  rw [← hS] at hsym hnd hno
  have hsymh := Lib.hid hsym
  have hndh := Lib.hid hnd
  have hnoh := Lib.hid hno
  have hmm := @run_makeMap Tryz.prog
  clear hS hns hP2 hw2 hb2 h64 hsym hnd hno hp
  go_enter Tryz.func31, Tryz.ntmps31
  go_wp2_with fail
  refine (unhide hnsh).mono ?_
  rintro e w3 ⟨nb, rfl, hit3, hb3⟩
  rw [← hw2h.out] at hb3 hit3
  obtain ⟨Bn, hBn⟩ : ∃ Bn, Bn = w2.heap.size := ⟨_, rfl⟩
  obtain ⟨En, hEn⟩ : ∃ En, En = w3.heap.size := ⟨_, rfl⟩
  obtain ⟨Z, hZ⟩ : ∃ Z : Nat → Prop, Z = fun j => j < w.heap.size ∨ (w2.heap.size ≤ j ∧ j < w3.heap.size) := ⟨_, rfl⟩
  have hP3 := hP2h.out.reserve hb3
  rw [← hZ] at hP3
  rw [← hBn, ← hEn] at hit3 hZ
  have hZ1 : Hid (∀ j, j < w.heap.size → Z j) := fun j hj => by rw [hZ]; exact .inl hj
  have hZ2 : Hid (∀ j, Bn ≤ j → j < En → Z j) := fun j h1 h2 => by rw [hZ]; exact .inr ⟨h1, h2⟩
  obtain ⟨jd, hjd⟩ : ∃ jd, jd = w.heap.size := ⟨_, rfl⟩
  obtain ⟨jc, hjc⟩ : ∃ jc, jc = w.heap.size + 1 := ⟨_, rfl⟩
  obtain ⟨lo, hlo⟩ : ∃ lo, lo = w.heap.size := ⟨_, rfl⟩
  have hP3' : PM Z lo w3 w3 ids jd none none jc (adRoot jd jc) [] [] (fun _ => none) (fun _ => []) [] [] [] (.slice none 0 0) (.slice none 0 0) (.slice none 0 0) (fun _ => .slice none 0 0) := by
    rw [hjd, hjc, hlo]; exact hP3
  have hP3h := Lib.hid hP3'
  have hit3h := Lib.hid hit3
  have hb03 : Hid (Below w.heap.size w w3) := hb2h.out.trans (hb3.mono hb2h.out.size)
  have hloh := Lib.hid hlo
  have hBw : Hid (w.heap.size ≤ Bn) := by rw [hBn]; exact hb2h.out.size
  rw [← hjc, ← hjd]
  clear hP3 hP3' hit3 hb3 hBn hEn hZ hjd hjc hnsh hP2h hw2h hb2h hlo
  go_wp2_with fail
  go_loopg [3] (ids.length - 0) (fun gk cv wr => ∃ (k : Nat) (D : List Int) (tp : Int → Option Value) (fr : Int → List Int) (cy : List (List Int)) (a sa : Option Addr) (n c sc : Nat) (vs : Nat → Value),
    gk = ids.length - k ∧ k ≤ ids.length ∧ cv = .slice a n c ∧ n = cy.length ∧ n ≤ k * 10000 ∧ (∀ i, (cy.getD i []).length ≤ 200) ∧ Below w.heap.size w wr ∧ IterAt wr Bn En nb k ids ∧ PM Z lo wr wr ids jd none none jc (adRoot jd jc) D [] tp fr [] cy [] (.slice sa 0 sc) (.slice a n c) (.slice none 0 0) vs)
  case atStart => exact ⟨0, [], _, _, [], none, none, 0, 0, 0, _, rfl, Nat.zero_le _, rfl, rfl, Nat.le_refl _, fun i => by simp, hb03.out, hit3h.out, hP3h.out⟩
  case round =>
    clear hP3h hit3h
    obtain ⟨k, D, tp, fr, cy, a, sa, n, c, sc, vs, hgk, hk, rfl, hn, hnk, hcl, hB, hit, hP⟩ := hrel
    have hBh := Lib.hid hB
    have hgkh := Lib.hid hgk
    have hnh := Lib.hid hn
    have hclh := Lib.hid hcl
    have hPh := Lib.hid hP
    clear hgk hn hcl hP hB
    by_cases hlt : k < ids.length
    · have hnx := Lib.hid (next_any Bn En nb k ids wr hk (by omega) hit)
      obtain ⟨x, hx⟩ : ∃ x, x = ids[k] := ⟨_, rfl⟩
      have hxm : x ∈ ids := by rw [hx]; exact List.getElem_mem hlt
      have hx64 := h64h.out x hxm
      have hnd := Lib.hid (fun (W : World) (hi : IterAt W Bn En nb (k + 1) ids) => node_any Bn En nb k ids W hlt (by omega) hi)
      rw [← hx] at hnd
      have hd : decide (k < ids.length) = true := decide_eq_true hlt
      rw [hd] at hnx
      have hnbz : Hid (Z nb) := hZ2.out nb hit.1 hit.2.1
      have hnlo : Hid (w.heap.size ≤ nb) := by have := hit.1; have := hBw.out; unfold Hid; omega
      clear hd hx hit
      go_wp2_with fail
      refine (unhide hnx).mono ?_
      rintro e w4 ⟨rfl, hg4, hi4⟩
      have hP4 := Lib.hid (hPh.out.other hg4 hnbz.out)
      have hB4 : Hid (Below w.heap.size w w4) := hBh.out.trans ⟨hg4.os, hg4.tape, hg4.output, hg4.size, fun j hj => hg4.block j (by have := hBh.out.size; omega) (fun e => by injection e with e; have := hnlo.out; omega)⟩
      have hi4h := Lib.hid (hi4 hlt)
      have hnd4 := Lib.hid (hnd.out w4 (hi4 hlt))
      clear hg4 hi4 hnx hPh hnd
      go_wp2_with fail
      refine (unhide hnd4).mono ?_
      rintro e w5 ⟨rfl, q, hw5⟩
      have hb5 : Below w4.heap.size w4 w5 := by rw [hw5]; exact below_draws (Below.refl _ _) q
      have hP5 := Lib.hid (hP4.out.below hb5)
      have hi5 := Lib.hid (hi4h.out.same (w' := w5) fun j h1 h2 => (hP5.out.m.kp.blk j (hZ2.out j h1 h2)))
      have hP5r := Lib.hid hP5.out.rebase
      have hB5 : Hid (Below w.heap.size w w5) := hB4.out.trans (hb5.mono hB4.out.size)
      have hhas := Lib.hid (pHas_any hP5.out.dmap hx64)
      obtain ⟨bd, hbd⟩ : ∃ bd, bd = decide (x ∈ D) := ⟨_, rfl⟩
      rw [← hbd] at hhas
      clear hw5 hb5 hnd4 hP4 hi4h hP5 hbd
      go_wp2_with (go_at_call 184; refine (id_any _ _).mono ?_; rintro e w' ⟨rfl, rfl⟩)
      refine (unhide hhas).mono ?_
      rintro e w6 ⟨rfl, hb6⟩
      have hP6 := Lib.hid (hP5r.out.below hb6)
      have hi6 := Lib.hid (hi5.out.same (w' := w6) fun j h1 h2 => (hP6.out.m.kp.blk j (hZ2.out j h1 h2)))
      have hP6r := Lib.hid hP6.out.rebase
      have hB6 : Hid (Below w.heap.size w w6) := hB5.out.trans (hb6.mono hB5.out.size)
      clear hb6 hhas hP6 hi5 hP5r
      cases bd
      · have hadd := Lib.hid (pAdd_any hP6r.out.dmap hx64 hxm (by omega))
        go_wp2_with fail
        refine (unhide hadd).mono ?_
        rintro e w7 ⟨rfl, hV7, hg7⟩
        have hP7 := hP6r.out.doneAdd hV7 hg7
        have c7 := hP7.ccell
        have f7 := hP7.cfree
        have hpush := Lib.hid (pPush_any hP7.same rfl rfl (by omega) x)
        clear hV7 hg7 hP7 hadd
        go_wp2_with fail
        refine (unhide hpush).mono ?_
        rintro e w9 ⟨rfl, b1, c1, hP9⟩
        obtain ⟨w10, w12, ad0, hr10, hr12, hP12⟩ := hP9.newRoot Tryz.underlying118 Tryz.underlying119 hx64 hxm (by omega)
        unfold nodev at hr12
        obtain ⟨jf, hjf⟩ : ∃ jf, jf = w9.heap.size := ⟨_, rfl⟩
        obtain ⟨jt, hjt⟩ : ∃ jt, jt = w10.heap.size := ⟨_, rfl⟩
        rw [← hjf, ← hjt] at hP12
        have hR12 := Lib.hid hP12.m.kp
        have hP12r := Lib.hid hP12.rebase
        have hjfh := Lib.hid hjf
        have hjth := Lib.hid hjt
        clear hP9 hP12 hpush c7 f7 hjf hjt
        go_wp2_with fail
        rw [← hjfh.out, ← hjth.out]
        clear hr10 hr12 hjfh hjth
        go_loopg [3] (ids.length - 0) (fun gm cv wr => ∃ (D T : List Int) (par : Int → Int) (tm : Int → Nat) (fr : Int → List Int) (st P : List Int) (cy : List (List Int)) (ad : PRo → Option Nat) (a sa : Option Addr) (n c s sc : Nat) (vs : Nat → Value),
          gm = ids.length - P.length ∧ cv = .slice a n c ∧ n = cy.length ∧ n ≤ k * 10000 + P.length * 100 ∧ (∀ i, (cy.getD i []).length ≤ 200) ∧ Pat S ids x T par tm fr st P ∧ s = st.length ∧ Rests Z w6 wr ∧ PM Z lo wr wr ids jd (some jf) (some jt) jc ad D T (tfun T par) fr st cy [] (.slice sa s sc) (.slice a n c) (.slice none 0 0) vs)
        case atStart => exact ⟨x :: D, [x], fun _ => x, fun _ => 0, fun _ => [], [x], [], cy, ad0, a, b1, n, c, 0 + 1, c1, vs, rfl, rfl, hnh.out, by omega, hclh.out, Pat.start hxm, rfl, hR12.out, hP12r.out⟩
        case round =>
          clear hR12 hP12r hnk hclh hnh hP6r
          obtain ⟨D, T, par, tm, fr, st, P, cy, ad, a, sa, n, c, s, sc, vs, hgm, rfl, hn, hnk, hcl, hpat, hs, hR, hP⟩ := hrel
          have hgmh := Lib.hid hgm
          have hnh := Lib.hid hn
          have hclh := Lib.hid hcl
          have hpath := Lib.hid hpat
          have hsh := Lib.hid hs
          have hRh := Lib.hid hR
          have hPh := Lib.hid hP
          have hPl : P.length ≤ ids.length := nodup_len hpat.pnd (fun y hy => hpat.sub y (hpat.PT y hy))
          have hsl : s ≤ 100 := by rw [hs]; have := nodup_len hpat.snd (m := ids) (fun y hy => hpat.sub y (hpat.sT y hy)); omega
          have hlenh := Lib.hid (pLen_any hP rfl)
          clear hgm hn hcl hpat hR hP
          cases st with
          | nil =>
            have hs0 : s = 0 := hs
            subst hs0
            have hfin := Lib.hid hPh.out.close
            clear hs
            go_wp2_with fail
            refine (unhide hlenh).mono ?_
            rintro e w' ⟨rfl, rfl⟩
            clear hlenh
            go_wp2_with fail
            go_roundg (ids.length - (k + 1))
            case measure => have := hgkh.out; omega
            case rel => exact ⟨k + 1, D, _, fr, cy, a, sa, n, c, sc, vs, rfl, by omega, rfl, hnh.out, by omega, hclh.out, hB6.out.trans (hRh.out.bel hZ1.out), hi6.out.same fun j h1 h2 => hRh.out.blk j (hZ2.out j h1 h2), hfin.out⟩
          | cons u st =>
            obtain ⟨m, hmm2⟩ : ∃ m, m = st.length := ⟨_, rfl⟩
            have hsm : s = m + 1 := by rw [hs, List.length_cons, hmm2]
            subst hsm
            have hne : (((m + 1 : Nat) : Int) == 0) = false := by simp; omega
            have hne2 : ¬ ((m + 1 : Nat) : Int) = 0 := by omega
            have hpop := Lib.hid (pPop_any hPh.out rfl hmm2 (by omega))
            have hU := hpath.out.pop
            have hum : u ∈ ids := hU.sub u hU.uT
            have hu64 := h64h.out u hum
            have hUh := Lib.hid hU
            have hmh := Lib.hid hmm2
            clear hs hsh hU hmm2 hPh hpath
            go_wp2_with fail
            refine (unhide hlenh).mono ?_
            rintro e w' ⟨rfl, rfl⟩
            clear hlenh
            go_wp2_with fail
            refine (unhide hpop).mono ?_
            rintro e w15 ⟨rfl, sb, sc2, hP15⟩
            have hP15r := Lib.hid hP15.rebase
            have hR15 : Hid (Rests Z w6 w15) := hRh.out.trans hP15.m.kp
            obtain ⟨ju, hju⟩ := hP15.at_ hUh.out.uT
            have hlk := vmap_look hP15.fmap Tryz.underlying118 (Tryz.zeroValue103 w15) hu64 (v := .map (some ju)) (by simp [hju])
            have hB15 := hB6.out.trans (hR15.out.bel hZ1.out)
            have hfr := Lib.hid (hfrom.out w15 u hB15 hum)
            have hjuh := Lib.hid hju
            clear hP15 hju hpop hRh hB15
            go_wp2_with (go_at_call 184; refine (id_any _ _).mono ?_; rintro e w' ⟨rfl, rfl⟩)
            refine (unhide hfr).mono ?_
            rintro e w16 ⟨ib, rfl, hit16, hb16⟩
            obtain ⟨Z1, hZ1'⟩ : ∃ Z1 : Nat → Prop, Z1 = fun j => Z j ∨ (w15.heap.size ≤ j ∧ j < w16.heap.size) := ⟨_, rfl⟩
            have hP16 := hP15r.out.reserve hb16
            rw [← hZ1'] at hP16
            have hzz : Hid (∀ j, Z j → j < w15.heap.size) := hP15r.out.m.zw
            have hR16 : Hid (Rests Z w6 w16) := hR15.out.trans (Rests.of hb16 hzz.out)
            obtain ⟨B2, hB2⟩ : ∃ B2, B2 = w15.heap.size := ⟨_, rfl⟩
            obtain ⟨E2, hE2⟩ : ∃ E2, E2 = w16.heap.size := ⟨_, rfl⟩
            rw [← hB2, ← hE2] at hit16 hZ1'
            rw [← hB2] at hzz
            have hZa : Hid (∀ j, Z j → Z1 j) := fun j hj => by rw [hZ1']; exact .inl hj
            have hZb : Hid (∀ j, B2 ≤ j → j < E2 → Z1 j) := fun j h1 h2 => by rw [hZ1']; exact .inr ⟨h1, h2⟩
            have hib : Hid (B2 ≤ ib ∧ ib < E2) := ⟨hit16.1, hit16.2.1⟩
            have hP16h := Lib.hid hP16
            have hit16h := Lib.hid hit16
            obtain ⟨l, hl⟩ : ∃ l, l = S u := ⟨_, rfl⟩
            have hll : l.length ≤ 100 := by rw [hl]; exact hSl.out u
            have hlh := Lib.hid hl
            rw [← hl] at hit16h
            clear hP16 hit16 hb16 hfr hlk hP15r hR15 hZ1' hB2 hE2 hl
            go_wp2_with fail
            go_loopg [3] (l.length - 0) (fun gi cv wr => ∃ (j : Nat) (D T : List Int) (par : Int → Int) (tm : Int → Nat) (fr : Int → List Int) (st : List Int) (cy : List (List Int)) (ad : PRo → Option Nat) (a sa : Option Addr) (n c s sc : Nat) (vs : Nat → Value),
              gi = l.length - j ∧ j ≤ l.length ∧ cv = .slice a n c ∧ n = cy.length ∧ n ≤ k * 10000 + P.length * 100 + j ∧ (∀ i, (cy.getD i []).length ≤ 200) ∧ PatU S ids x T par tm fr st P u j ∧ s = st.length ∧ Rests Z w6 wr ∧ IterAt wr B2 E2 ib j l ∧ ad (.inn u) = some ju ∧
              PM Z1 lo wr wr ids jd (some jf) (some jt) jc ad D T (tfun T par) fr st cy [] (.slice sa s sc) (.slice a n c) (.slice none 0 0) vs)
            case atStart => exact ⟨0, D, T, par, tm, fr, st, cy, ad, a, sb, n, c, m, sc2, vs, rfl, Nat.zero_le _, rfl, hnh.out, by omega, hclh.out, hUh.out, hmh.out, hR16.out, hit16h.out, hjuh.out, hP16h.out⟩
            case round =>
              clear hP16h hit16h hR16 hUh hclh hnh hnk hmh hsl hne hne2 hjuh
              obtain ⟨j, D, T, par, tm, fr, st, cy, ad, a, sa, n, c, s, sc, vs, hgi, hj, rfl, hn, hnk, hcl, hU, hs, hR, hit, hju, hP⟩ := hrel
              have hgih := Lib.hid hgi
              have hnh := Lib.hid hn
              have hclh := Lib.hid hcl
              have hUh := Lib.hid hU
              have hsh := Lib.hid hs
              have hRh := Lib.hid hR
              have hPh := Lib.hid hP
              have hjuh := Lib.hid hju
              have hsl : s ≤ 100 := by rw [hs]; have := nodup_len hU.snd (m := ids) (fun y hy => hU.sub y (hU.sT y hy)); omega
              clear hgi hn hcl hU hs hR hP hju
              by_cases hjl : j < l.length
              · have hnx := Lib.hid (next_any B2 E2 ib j l wr hj (by omega) hit)
                obtain ⟨v, hv⟩ : ∃ v, v = l[j] := ⟨_, rfl⟩
                have hvl : v ∈ l := by rw [hv]; exact List.getElem_mem hjl
                have hvS : v ∈ S u := by rw [← hlh.out]; exact hvl
                have hvm : v ∈ ids := hSm.out u hum v hvS
                have hv64 := h64h.out v hvm
                have hvh : Hid (∃ hjS : j < (S u).length, v = (S u)[j]) := by have e := hlh.out; subst e; exact ⟨hjl, hv⟩
                have hnd := Lib.hid (fun (W : World) (hi : IterAt W B2 E2 ib (j + 1) l) => node_any B2 E2 ib j l W hjl (by omega) hi)
                rw [← hv] at hnd
                have hd : decide (j < l.length) = true := decide_eq_true hjl
                rw [hd] at hnx
                have huv : ¬ u = v := fun e => hnoh.out u hum (by rw [← e] at hvS; exact hvS)
                have huvb : (u == v) = false := by simpa using huv
                have hidsn : Hid (ids.length ≤ 100) := hids
                clear hd hv hit hvl hvS
                go_wp2_with fail
                refine (unhide hnx).mono ?_
                rintro e w17 ⟨rfl, hg17, hi17⟩
                have hP17 := Lib.hid (hPh.out.other hg17 (hZb.out ib hib.out.1 hib.out.2))
                have hR17 : Hid (Rests Z w6 w17) := hRh.out.trans (Rests.grown hg17 (fun i hi => hPh.out.m.zw i (hZa.out i hi)) fun i hi e => by injection e with e; have := hzz.out i hi; have := hib.out.1; omega)
                have hi17h := Lib.hid (hi17 hjl)
                have hnd17 := Lib.hid (hnd.out w17 (hi17 hjl))
                clear hg17 hi17 hnx hPh hnd hRh
                go_wp2_with fail
                refine (unhide hnd17).mono ?_
                rintro e w18 ⟨rfl, q, hw18⟩
                have hb18 : Below w17.heap.size w17 w18 := by rw [hw18]; exact below_draws (Below.refl _ _) q
                have hP18 := Lib.hid (hP17.out.below hb18)
                have hi18 := Lib.hid (hi17h.out.same (w' := w18) fun j h1 h2 => (hP18.out.m.kp.blk j (hZb.out j h1 h2)))
                have hP18r := Lib.hid hP18.out.rebase
                have hR18 : Hid (Rests Z w6 w18) := hR17.out.trans (hP18.out.m.kp.less hZa.out)
                have hhasT := Lib.hid (pHasT_any hP18r.out hv64)
                obtain ⟨bt, hbt⟩ : ∃ bt, bt = decide (v ∈ T) := ⟨_, rfl⟩
                rw [← hbt] at hhasT
                have hbth := Lib.hid hbt
                clear hw18 hb18 hnd17 hP17 hi17h hP18 hR17 hbt
                go_wp2_with (go_at_call 184; refine (id_any _ _).mono ?_; rintro e w' ⟨rfl, rfl⟩)
                refine (unhide hhasT).mono ?_
                rintro e w' ⟨rfl, rfl⟩
                clear hhasT
                cases bt
                · have hvT : v ∉ T := of_decide_eq_false hbth.out.symm
                  have hadd := Lib.hid (pAdd_any hP18r.out.dmap hv64 hvm (by omega))
                  go_wp2_with fail
                  refine (unhide hadd).mono ?_
                  rintro e w19 ⟨rfl, hV19, hg19⟩
                  have hP19 := hP18r.out.doneAdd hV19 hg19
                  obtain ⟨w20, hr20, hP20⟩ := hP19.toPut Tryz.underlying119 hv64 hvm (by omega) (nodev u)
                  unfold nodev at hr20
                  rw [tfun_put hvT] at hP20
                  have hpush := Lib.hid (pPush_any hP20 rfl hsh.out (by omega) v)
                  clear hV19 hg19 hP19 hadd hP20
                  go_wp2_with fail
                  refine (unhide hpush).mono ?_
                  rintro e w21 ⟨rfl, sb, sc2, hP21⟩
                  have hadn := Lib.hid (pAddNew_any hP21 hu64 hum hv64 hvm (by omega) hvT)
                  clear hpush hr20 hP21
                  go_wp2_with fail
                  refine (unhide hadn).mono ?_
                  rintro e w22 ⟨rfl, ad2, had2, hP22⟩
                  obtain ⟨hjS, hvj⟩ := hvh.out
                  have hU22 := Lib.hid (hUh.out.new hSm.out hjS hvj hvT)
                  have hP22h := Lib.hid hP22
                  have hju2 : Hid (ad2 (.inn u) = some ju) := (had2 u huv).trans hjuh.out
                  clear hadn had2 hP22 hvj hjS
                  go_wp2_with fail
                  go_roundg (l.length - (j + 1))
                  case measure => have := hgih.out; omega
                  case rel => exact ⟨j + 1, v :: D, T ++ [v], updF par v u, updF tm v T.length, updF fr v [u], v :: st, cy, ad2, a, sb, n, c, s + 1, sc2, vs, rfl, by omega, rfl, hnh.out, by omega, hclh.out, hU22.out, by rw [List.length_cons, ← hsh.out], hR18.out.trans (hP22h.out.m.kp.less hZa.out), hi18.out.same fun j h1 h2 => hP22h.out.m.kp.blk j (hZb.out j h1 h2), hju2.out, hP22h.out.rebase⟩
                · have hvT : v ∈ T := of_decide_eq_true hbth.out.symm
                  have hhas := Lib.hid (pHas_any (hP18r.out.imap hjuh.out) hv64)
                  obtain ⟨bf, hbf⟩ : ∃ bf, bf = decide (v ∈ fr u) := ⟨_, rfl⟩
                  rw [← hbf] at hhas
                  have hbfh := Lib.hid hbf
                  clear hbf
                  go_wp2_with fail
                  refine (unhide hhas).mono ?_
                  rintro e w19 ⟨rfl, hb19⟩
                  have hP19 := Lib.hid (hP18r.out.below hb19)
                  have hi19 := Lib.hid (hi18.out.same (w' := w19) fun j h1 h2 => (hP19.out.m.kp.blk j (hZb.out j h1 h2)))
                  have hP19r := Lib.hid hP19.out.rebase
                  have hR19 : Hid (Rests Z w6 w19) := hR18.out.trans (hP19.out.m.kp.less hZa.out)
                  clear hb19 hhas hP19 hi18 hP18r hR18
                  cases bf
                  · have hvf : v ∉ fr u := of_decide_eq_false hbfh.out.symm
                    obtain ⟨hjS, hvj⟩ := hvh.out
                    obtain ⟨_, hvr, _, _, hpf, r, hr⟩ := hUh.out.chord hsymh.out hnoh.out (hndh.out u hum) hjS hvj hvT hvf
                    have hClose := Lib.hid (hUh.out.close hjS hvj hvT)
                    obtain ⟨jv, hjv⟩ := hP19r.out.at_ hvT
                    have hP20 := hP19r.out.curNew v u
                    have hl1 := vmap_look hP20.fmap Tryz.underlying118 (Tryz.zeroValue103 _) hv64 (v := .map (some jv)) (by simp [hjv])
                    have hl2 := vmap_look hP20.tmap Tryz.underlying119 (Tryz.zeroValue85 _) hu64 (v := nodev (par u)) (by simp [tfun, hUh.out.uT])
                    unfold nodev at hl1 hl2
                    have hP20h := Lib.hid hP20
                    have hpfh := Lib.hid hpf
                    have hrh := Lib.hid hr
                    have hjvh := Lib.hid hjv
                    clear hvj hjS hP20 hpf hr hjv hvr hvf
                    go_wp2_with fail
                    go_loopg [17, 19] (r - 0) (fun gr cv pv wr => ∃ (i : Nat) (cur : List Int) (g un uc : Nat), gr = r - i ∧ i ≤ r ∧ cv = .slice (some ⟨g, 0, none⟩) un uc ∧ pv = .iface 127 (.int .i64 (iterP par i (par u))) ∧ un = cur.length ∧ un = i + 2 ∧ cur[0]? = some v ∧ (∀ i', i' < i → iterP par i' (par u) ≠ x) ∧ PM Z1 lo w19 wr ids jd (some jf) (some jt) jc ad D T (tfun T par) fr st cy cur (.slice sa s sc) (.slice a n c) (.slice (some ⟨g, 0, none⟩) un uc) vs)
                    case atStart => exact ⟨0, [v, u], w19.heap.size, 2, 2, rfl, Nat.zero_le _, rfl, rfl, rfl, rfl, rfl, fun _ h => absurd h (by omega), hP20h.out⟩
                    case round =>
                      clear hP20h hl1 hl2
                      obtain ⟨i, cur, g, un, uc, hgr, hi, rfl, rfl, hun, hui, hcv, hir, hP⟩ := hrel
                      obtain ⟨p, hp⟩ : ∃ p, p = iterP par i (par u) := ⟨_, rfl⟩
                      have hpT : p ∈ T ∧ i ≤ 100 := by
                        obtain ⟨h1, h2⟩ := iter_tm hUh.out.pT hUh.out.tp i (hUh.out.pT u hUh.out.uT) hir
                        have h3 := hUh.out.tl _ (hUh.out.pT u hUh.out.uT)
                        have h4 := nodup_len hUh.out.tn (m := ids) hUh.out.sub
                        have := hidsn.out
                        rw [hp]; exact ⟨h1, by omega⟩
                      obtain ⟨hpT, hi100⟩ := hpT
                      have hpm : p ∈ ids := hUh.out.sub p hpT
                      have hp64 := h64h.out p hpm
                      have hhas := Lib.hid (pHas_any (hP.imap hjvh.out) hp64)
                      obtain ⟨bp, hbp⟩ : ∃ bp, bp = decide (p ∈ fr v) := ⟨_, rfl⟩
                      rw [← hbp] at hhas
                      rw [← hp]
                      have hPh' := Lib.hid hP
                      have hbph := Lib.hid hbp
                      have hph := Lib.hid hp
                      have hgrh := Lib.hid hgr
                      have hunh := Lib.hid hun
                      have hcvh := Lib.hid hcv
                      have hirh := Lib.hid hir
                      have hpTh := Lib.hid hpT
                      have huih := Lib.hid hui
                      have hub : un ≤ 102 := by omega
                      have hu0 : 0 < un := by omega
                      clear hP hbp hp hgr hun hcv hir hpT hui
                      go_wp2_with (go_at_call 184; refine (id_any _ _).mono ?_; rintro e w' ⟨rfl, rfl⟩)
                      refine (unhide hhas).mono ?_
                      rintro e wa ⟨rfl, hba⟩
                      have hPa := Lib.hid (hPh'.out.below hba)
                      have hcro : Hid (∀ o, (wa.alloc o).ownsRow lo 85 1 (.slice (some ⟨g, 0, none⟩) un uc) un (nodes cur)) := fun o => by
                        have := hPa.out.crow.alloc o
                        rwa [nodes_length, ← hunh.out] at this
                      have hloz : lo ≤ wa.heap.size := hPa.out.lz
                      clear hba hhas hPh'
                      cases bp
                      · have hpf : p ∉ fr v := of_decide_eq_false hbph.out.symm
                        have hpe : ∀ k, i + k = r → iterP par k p = par v := fun k hk => by rw [hph.out, ← iterP_add, hk]; exact hrh.out
                        have hilt : i < r := by
                          rcases Nat.lt_or_ge i r with h | h
                          · exact h
                          · exfalso
                            have e : p = par v := hpe 0 (by omega)
                            exact hpf (by rw [e]; exact hpfh.out)
                        have hpx : p ≠ x := fun e => by
                          have e2 := hpe (r - i) (by omega)
                          rw [e, iter_root hUh.out.prt] at e2
                          exact hpf (by rw [e, e2]; exact hpfh.out)
                        have hir2 : Hid (∀ i', i' < i + 1 → iterP par i' (par u) ≠ x) := fun i' hi' => by
                          rcases Nat.lt_or_ge i' i with h | h
                          · exact hirh.out i' h
                          · have e : i' = i := by omega
                            rw [e, ← hph.out]; exact hpx
                        have hlkh : Hid (∀ W cur' uv', PM Z1 lo w19 W ids jd (some jf) (some jt) jc ad D T (tfun T par) fr st cy cur' (.slice sa s sc) (.slice a n c) uv' vs → (Instr.lookup 119 (.map (some jt)) (.int .i64 p) false).run Tryz.prog W = .ok (.iface 127 (.int .i64 (par p))) W) := fun W _ _ h =>
                          vmap_look h.tmap Tryz.underlying119 (Tryz.zeroValue85 _) hp64 (v := nodev (par p)) (by simp [tfun, hpTh.out])
                        clear hpf hpe hpx
                        go_wp2_with (first
                          | (go_at_call 184; refine (id_any _ _).mono ?_; rintro e w' ⟨rfl, rfl⟩)
                          | (at_builtin; refine append_law 50 85 .nilIface 1 16 Tryz.underlying50 info_node rfl (by omega) (by omega) rfl _ _ rfl lo (some ⟨g, 0, none⟩) un uc (nodes cur) rfl (hcro.out _) ⟨wa.heap.size, 0, none⟩ 1 1 [.iface 127 (.int .i64 p)] rfl rfl (new_one wa _ _) (one_node _) (by omega) (by simp; omega) ?_; intro b2 c2 wb hownb hgb hatb; have hPb := Lib.hid (hPa.out.curApp (zs := [p]) (m := un + 1) rfl rfl hgb hownb hatb); obtain ⟨g2, rfl, _, _, _⟩ := owns_at hownb (by omega); have hlk := hlkh.out _ _ _ hPb.out; clear hownb hgb hatb hlkh hcro))
                        go_roundg (r - (i + 1))
                        case measure => have := hgrh.out; omega
                        case rel => exact ⟨i + 1, cur ++ [p], g2, un + 1, c2, rfl, by omega, rfl, by rw [iterP_succ, ← hph.out], by rw [List.length_append, ← hunh.out]; rfl, by have := huih.out; omega, by rw [List.getElem?_append_left (by have := hunh.out; omega)]; exact hcvh.out, hir2.out, hPb.out⟩
                      · have hpos : (0 : Int) < ((un : Nat) : Int) := by omega
                        have hcr1 : wa.ownsRow lo 85 1 (.slice (some ⟨g, 0, none⟩) un uc) un (nodes cur) := by
                          have := hPa.out.crow
                          rwa [nodes_length, ← hunh.out] at this
                        have hc0 := owns_cell hcr1 (j := 0) (u := .iface 127 (.int .i64 v)) (by unfold nodes; rw [List.getElem?_map, hcvh.out]; rfl)
                        clear hcr1
                        have hcl2 : Hid (∀ i', ((cy ++ [cur ++ [p, v]]).getD i' []).length ≤ 200) := fun i' => by
                          have hu2 := hunh.out
                          by_cases h : i' < cy.length
                          · have := hclh.out i'
                            rw [List.getD_eq_getElem?_getD] at this ⊢
                            rw [List.getElem?_append_left h]; exact this
                          · rw [List.getD_eq_getElem?_getD, List.getElem?_append_right (by omega)]
                            rcases Nat.eq_zero_or_pos (i' - cy.length) with h0 | h0
                            · rw [h0]; simp; omega
                            · rw [List.getElem?_eq_none (by simp; omega)]; simp
                        go_wp2_with (first
                          | (at_builtin; refine append_law 50 85 .nilIface 1 16 Tryz.underlying50 info_node rfl (by omega) (by omega) rfl _ _ rfl lo (some ⟨g, 0, none⟩) un uc (nodes cur) rfl (hcro.out _) ⟨wa.heap.size, 0, none⟩ 2 2 [.iface 127 (.int .i64 p), .iface 127 (.int .i64 v)] rfl rfl (pnew_two wa _ _ _) (ptwo_nodes _ _) (by omega) (by simp; omega) ?_; intro b2 c2 wb hownb hgb hatb; have hPb := Lib.hid (hPa.out.curApp (zs := [p, v]) (m := un + 2) rfl rfl hgb hownb hatb); have hyo : Hid (∀ o, (wb.alloc o).ownsRow lo 50 1 (.slice a n c) n ((List.range cy.length).map vs)) := (fun o => by have := hPb.out.yrow.alloc o; rw [List.length_map, List.length_range] at this; rw [hnh.out] at this ⊢; exact this); have hlzb : lo ≤ wb.heap.size := hPb.out.lz; clear hownb hgb hatb hcro hc0)
                          | (at_builtin; refine append_law 58 50 (.slice none 0 0) 1 24 Tryz.underlying58 pinfo_nrow rfl (by omega) (by omega) rfl _ _ rfl lo a n c ((List.range cy.length).map vs) rfl (hyo.out _) ⟨wb.heap.size, 0, none⟩ 1 1 [.slice b2 (un + 2) c2] rfl rfl (new_one wb _ _) (pone_row _ _ _) (by omega) (by simp; omega) ?_; intro b3 c3 wc hownc hgc hatc; have hPc := Lib.hid (hPb.out.cycApp rfl hgc hownc hatc); clear hownc hgc hatc hyo))
                        refine (pAdd_any (hPc.out.imap hjvh.out) hu64 hum (by omega)).mono ?_
                        rintro e wd ⟨rfl, hVd, hgd⟩
                        have hPd := Lib.hid (hPc.out.innAdd hjvh.out hVd hgd)
                        clear hVd hgd
                        go_wp2_with fail
                        go_roundg (l.length - (j + 1))
                        case measure => have := hgih.out; omega
                        case rel => exact ⟨j + 1, D, T, par, tm, updF fr v (u :: fr v), st, cy ++ [cur ++ [p, v]], ad, b3, sa, n + 1, c3, s, sc, _, rfl, by omega, rfl, by rw [List.length_append, ← hnh.out]; rfl, by omega, hcl2.out, hClose.out, hsh.out, hR19.out.trans (hPd.out.m.kp.less hZa.out), hi19.out.same fun j h1 h2 => hPd.out.m.kp.blk j (hZb.out j h1 h2), hjuh.out, hPd.out.rebase⟩
                  · have hvf : v ∈ fr u := of_decide_eq_true hbfh.out.symm
                    obtain ⟨hjS, hvj⟩ := hvh.out
                    have hU22 := Lib.hid (hUh.out.skip hjS hvj hvT hvf)
                    clear hvj hjS
                    go_wp2_with fail
                    go_roundg (l.length - (j + 1))
                    case measure => have := hgih.out; omega
                    case rel => exact ⟨j + 1, D, T, par, tm, fr, st, cy, ad, a, sa, n, c, s, sc, vs, rfl, by omega, rfl, hnh.out, by omega, hclh.out, hU22.out, hsh.out, hR19.out, hi19.out, hjuh.out, hP19r.out⟩
              · have hjn : j = l.length := by omega
                subst hjn
                have hnx := Lib.hid (next_any B2 E2 ib l.length l wr hj (by omega) hit)
                have hd : decide (l.length < l.length) = false := decide_eq_false hjl
                rw [hd] at hnx
                clear hd hit
                go_wp2_with fail
                refine (unhide hnx).mono ?_
                rintro e w17 ⟨rfl, hg17, _⟩
                have hP17 := hPh.out.other hg17 (hZb.out ib hib.out.1 hib.out.2)
                have hR17 : Hid (Rests Z w6 w17) := hRh.out.trans (Rests.grown hg17 (fun i hi => hPh.out.m.zw i (hZa.out i hi)) fun i hi e => by injection e with e; have := hzz.out i hi; have := hib.out.1; omega)
                have hD17 := hUh.out.done (by rw [← hlh.out]; exact Nat.le_refl _)
                have hP17b : Hid (PM Z lo w17 w17 ids jd (some jf) (some jt) jc ad D T (tfun T par) fr st cy [] (.slice sa s sc) (.slice a n c) (.slice none 0 0) vs) := hP17.back hZa.out (Rests.refl _ _) (fun i hi => hP17.m.zw i (hZa.out i hi)) hP17.lz
                have hD17h := Lib.hid hD17
                have hPl2 : (u :: P).length ≤ ids.length := nodup_len hD17.pnd (fun y hy => hD17.sub y (hD17.PT y hy))
                rw [List.length_cons] at hPl2
                clear hg17 hP17 hD17 hnx hPh hRh hUh
                go_wp2_with fail
                go_roundg (ids.length - (u :: P).length)
                case measure => have := hgmh.out; rw [List.length_cons]; omega
                case rel => exact ⟨D, T, par, tm, fr, st, u :: P, cy, ad, a, sa, n, c, s, sc, vs, rfl, rfl, hnh.out, by rw [List.length_cons, Nat.add_mul]; omega, hclh.out, hD17h.out, hsh.out, hR17.out, hP17b.out⟩
      · go_wp2_with fail
        go_roundg (ids.length - (k + 1))
        case measure => have := hgkh.out; omega
        case rel => exact ⟨k + 1, D, tp, fr, cy, a, sa, n, c, sc, vs, rfl, by omega, rfl, hnh.out, by omega, hclh.out, hB6.out, hi6.out, hP6r.out⟩
    · have hkn : k = ids.length := by omega
      subst hkn
      have hnx := Lib.hid (next_any Bn En nb ids.length ids wr hk (by omega) hit)
      have hd : decide (ids.length < ids.length) = false := decide_eq_false hlt
      rw [hd] at hnx
      have hnbz : Hid (Z nb) := hZ2.out nb hit.1 hit.2.1
      have hnb1 : Hid (Bn ≤ nb) := hit.1
      clear hd hit
      go_wp2_with fail
      refine (unhide hnx).mono ?_
      rintro e w4 ⟨rfl, hg4, _⟩
      have hP4 := hPh.out.other hg4 hnbz.out
      have hnlo : Hid (w.heap.size ≤ nb) := by have := hBw.out; have := hnb1.out; unfold Hid; omega
      have hB4 : Below w.heap.size w w4 := hBh.out.trans ⟨hg4.os, hg4.tape, hg4.output, hg4.size, fun j hj => hg4.block j (by have := hBh.out.size; omega) (fun e => by injection e with e; have := hnlo.out; omega)⟩
      have hfin : Hid (UCycPost w (.returned (.slice a n c)) w4) := by
        have hy := hP4.yrow
        have hr := fun i => hP4.m.rows (.fin i)
        rw [hloh.out] at hy
        refine ⟨a, n, c, cy, vs, rfl, hnh.out, by omega, ?_, fun i => ?_, hclh.out, hB4⟩
        · rw [List.length_map, List.length_range, ← hnh.out] at hy
          exact hy
        · have := hr i
          rw [hloh.out] at this
          have e : (patX [] cy vs [] (.fin i)).length = (cy.getD i []).length := nodes_length _
          rw [e] at this
          exact this
      clear hg4 hP4 hB4 hnx hPh
      go_wp2_with fail
      go_ret
      exact hfin.out
end Go.Proofs.YthpjmjohdliohaaGreat
