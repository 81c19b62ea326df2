/- topo.degeneracyOrdering: the walk. -/
import Derived.Test.YthpjmjohdliohaaGreatDegA
import Derived.Deep.LoopGhost
import Derived.Test.YthpjmjohdliohaaGreatDegR
import Derived.BigRegion
import Derived.Deep.DeepCutAuto
namespace Go.Proofs.YthpjmjohdliohaaGreat
open Go.RowKit Go.Maps

theorem nidd_method (n : Nat) (x : Int) (w : World) : (method (n + 1) 127 (.int .i64 x) "ID").run Tryz.prog w = .ok (184, .int .i64 x) w := by kernel_rfl

theorem run_makeMap_n (k : Int) (w : World) : (Instr.makeMap 141 (some (.int .i64 k))).run Tryz.prog w = .ok (.map (some w.heap.size)) (w.alloc (.map #[] 0)) := by kernel_rfl

/-- What degeneracyOrdering gives. -/
def DegPost (w : World) (ids : List Int) (s : Int → List Int) (e : Ending) (w' : World) : Prop :=
  ∃ (L : List Int) (k : Nat) (c : List Nat) (la sa : Option Addr) (lc sc : Nat), e = .returned (.tuple #[.slice la L.length lc, .slice sa (k + 1) sc]) ∧ w'.ownsRow w.heap.size 85 1 (.slice la L.length lc) L.length (nodes L) ∧
    w'.ownsRow w.heap.size 3 1 (.slice sa (k + 1) sc) (k + 1) (ints (c.map fun (n : Nat) => (n : Int))) ∧ (∀ j, (Value.slice la L.length lc).ownBlock = some j → (Value.slice sa (k + 1) sc).ownBlock ≠ some j) ∧ KInv s ids L k c ∧ (∀ x ∈ ids, x ∈ L) ∧ Below w.heap.size w w'

set_option maxRecDepth 100000 in
set_option maxHeartbeats 8000000 in
theorem degOrd_any (gb : Nat) (ids : List Int) (outs ins : List (List Arc)) (w : World) (hids : ids.length ≤ 1000) (h64 : ∀ y ∈ ids, In64 y) (hp : PlainAt w gb ids outs ins) (hsym : ∀ x ∈ ids, ∀ y ∈ succOf ids outs x, x ∈ succOf ids outs y) (hnd : ∀ x ∈ ids, (succOf ids outs x).Nodup) :
    Calls Tryz.prog 50 #[.iface 62 (.agg #[.pointer (some ⟨gb, 0, none⟩)])] w (DegPost w ids (succOf ids outs)) := by
  obtain ⟨s, hs⟩ : ∃ s, s = succOf ids outs := ⟨_, rfl⟩
  rw [← hs] at hsym hnd ⊢
  have hsl : Hid (∀ x, (s x).length ≤ 1000) := fun x => by rw [hs]; have := succ_len hp x; omega
  have hsm : Hid (∀ x, ∀ y ∈ s x, y ∈ ids) := fun x => by rw [hs]; exact succ_mem hp x
  have hsh := Lib.hid hs
  have hN := Lib.hid (nodesUnd_any gb ids outs ins w hids hp)
  have hph := Lib.hid hp
  have h64h := Lib.hid h64
  have hsymh := Lib.hid hsym
  have hndh := Lib.hid hnd
  have hidn : Hid ids.Nodup := hp.up.imp fun h => Int.ne_of_lt h
  clear hp h64 hsym hnd hs
  go_enter Tryz.func50, Tryz.ntmps50
  go_wp2_with fail
  refine (unhide hN).mono ?_
  rintro e wI ⟨ib, rfl, hit, hbI⟩
  have hno := Lib.hid (nodesOf_any w.heap.size wI.heap.size ib ids wI (by omega) hit)
  have hib := hit.1
  have hbIh := Lib.hid hbI
  clear hN hit hbI
  go_wp2_with fail
  refine (unhide hno).mono ?_
  rintro e wA ⟨a0, c0, rfl, own0, hlt0, hgA⟩
  have hbA : Below w.heap.size w wA := hbIh.out.grown hgA hbIh.out.size (fun j e => by injection e with e; omega)
  obtain ⟨wB, hwB⟩ : ∃ wB, wB = wA.alloc (.map #[] 0) := ⟨_, rfl⟩
  obtain ⟨wC, hwC⟩ : ∃ wC, wC = wB.alloc (.map #[] 0) := ⟨_, rfl⟩
  obtain ⟨dmb, hdmb⟩ : ∃ dmb, dmb = wA.heap.size := ⟨_, rfl⟩
  obtain ⟨n, hn⟩ : ∃ n, n = ids.length := ⟨_, rfl⟩
  have hN1 : N1 w wC wC ids s dmb (dmb + 1) 0 (.slice a0 n c0) (fun _ => none) (fun _ => none) 0 := by
    have bB : Below wA.heap.size wA wB := by rw [hwB]; exact alloc_below _ _
    have zB : wB.heap.size = dmb + 1 := by rw [hwB, hdmb]; simp
    have bC : Below wB.heap.size wB wC := by rw [hwC]; exact alloc_below _ _
    have zC : wC.heap.size = dmb + 1 + 1 := by rw [hwC]; simp [zB]
    have bAC : Below wA.heap.size wA wC := bB.trans (bC.mono (by omega))
    have hs := hbIh.out.size
    have hs2 := hgA.size
    refine ⟨hbA.trans (bAC.mono (by omega)), Nat.le_refl _, ?_, fun j hj => ?_, ⟨by omega, by omega, by omega⟩, ?_, ?_, by simp, by simp, by omega⟩
    · rw [hn]; exact owns_same own0 fun j hj => bAC.block j (own0.lt j hj).2
    · rw [hn] at hj; have := hlt0 j hj; omega
    · have := vmap_new wA ids
      rw [← hwB, ← hdmb] at this
      exact this.same (bC.block _ (by omega))
    · have := vmap_new wB ids
      rw [← hwC, zB] at this
      exact this
  rw [← hn]
  have hw : Hid (wC = (wA.alloc (.map #[] 0)).alloc (.map #[] 0)) := by unfold Hid; rw [hwC, hwB]
  have hzA : Hid (dmb = wA.heap.size) := hdmb
  have hzA1 : Hid (wA.heap.size + 1 = dmb + 1) := by unfold Hid; rw [hdmb]
  have hnh := Lib.hid hn
  have hN1h := Lib.hid hN1
  have hmm := @run_makeMap Tryz.prog
  have hmn := run_makeMap_n
  have hn1 : n ≤ 1000 := by omega
  clear own0 hlt0 hgA hbA hwB hwC hdmb hN1 hn hno hbIh hib
  go_wp2_with fail
  rw [← hw.out, hzA1.out, ← hzA.out]
  clear hmm hmn hw hzA hzA1
  go_loopw [35, 6] (fun iv mv wr => ∃ (k md : Nat) (f h : Int → Option Value), k ≤ n ∧ iv = .int .i64 k ∧ mv = .int .i64 md ∧ N1 w wC wr ids s dmb (dmb + 1) k (.slice a0 n c0) f h md) (fun iv _ _ => n - (intOf iv).toNat)
  case atStart => exact ⟨0, 0, _, _, Nat.zero_le _, rfl, rfl, hN1h.out⟩
  case round =>
    clear hN1h
    obtain ⟨k, md, f, h, hk, rfl, rfl, H⟩ := hrel
    have hHh := Lib.hid H
    by_cases hlt : k < n
    · have hkl : k < ids.length := by have := hnh.out; omega
      obtain ⟨wk, hwk⟩ : ∃ wk, wk = wr := ⟨_, rfl⟩
      subst hwk
      have own0 := H.nds
      rw [← hnh.out] at own0
      obtain ⟨g0, rfl, _⟩ := owns_at own0 (by omega)
      have x0 := owns_cell own0 (nodes_get ids k hkl)
      obtain ⟨x, hx⟩ : ∃ x, x = ids[k] := ⟨_, rfl⟩
      rw [← hx] at x0
      unfold nodev at x0
      have hxm : x ∈ ids := by rw [hx]; exact List.getElem_mem hkl
      have htk : Hid (ids.take (k + 1) = ids.take k ++ [x]) := by unfold Hid; rw [List.take_succ_eq_append_getElem hkl, ← hx]
      have hfr := fromUnd_any gb ids outs ins x wk (by omega) (hph.out.below H.below) hxm
      have hfrh := Lib.hid hfr
      have hmi := nidd_method
      have hxmh := Lib.hid hxm
      clear H own0 hx hxm hfr
      go_wp2_with (go_at_call 184; refine (id_any _ _).mono ?_; rintro e w' ⟨rfl, rfl⟩)
      refine (unhide hfrh).mono ?_
      rintro e w5 ⟨ib2, rfl, hit, hb5⟩
      have hit' : IterAt w5 wk.heap.size w5.heap.size ib2 0 (s x) := by rw [hsh.out]; exact hit
      obtain ⟨m, hm⟩ : ∃ m, m = (s x).length := ⟨_, rfl⟩
      have hib2 := hit'.1
      have hno2 := nodesOf_any wk.heap.size w5.heap.size ib2 (s x) w5 (by have := hsl.out x; omega) hit'
      rw [← hm] at hno2
      have hno2h := Lib.hid hno2
      have hb5h := Lib.hid hb5
      have hmh := Lib.hid hm
      clear hit hit' hb5 hfrh hno2 hm x0
      go_wp2_with fail
      refine (unhide hno2h).mono ?_
      rintro e w6 ⟨a6, c6, rfl, own6, _, hg6⟩
      have hb6 : Below wk.heap.size wk w6 := hb5h.out.grown hg6 hb5h.out.size (fun j e => by injection e with e; omega)
      obtain ⟨d1, d2, d3⟩ := hHh.out.dn
      obtain ⟨w7, hrun7, hm7, hg7⟩ := vmap_put (hHh.out.nm.same (hb6.block _ hHh.out.nm.lt)) Tryz.underlying161 (h64h.out x hxmh.out) hxmh.out (by omega) (.slice a6 m c6)
      have hdm6 := hHh.out.dm.same (hb6.block _ hHh.out.dm.lt)
      obtain ⟨w8, hrun8, hm8, hg8⟩ := vmap_put (hdm6.same (hg7.block dmb hdm6.lt (fun e => by injection e with e; omega))) Tryz.underlying141 (h64h.out x hxmh.out) hxmh.out (by omega) (.int .i64 (m : Nat))
      rw [hmh.out] at own6 hm7 hm8
      have hH8 := hHh.out.step htk.out (hsl.out x) hb6 own6 hg7 hm7 hg8 hm8
      rw [← hmh.out] at hH8
      have hH8h := Lib.hid hH8
      clear own6 hg6 hb6 d1 d2 d3 hm7 hg7 hdm6 hm8 hg8 hH8 hno2h hb5h hib2
      by_cases hmd : md < m
      · have hmx : max md m = m := by omega
        rw [hmx] at hH8h
        clear hmx
        go_wp2_with fail
        go_roundw
        case rel => exact ⟨k + 1, m, _, _, by omega, by go_num, rfl, hH8h.out⟩
        case measure => simp [intOf]; omega
      · have hmx : max md m = md := by omega
        rw [hmx] at hH8h
        clear hmx
        go_wp2_with fail
        go_roundw
        case rel => exact ⟨k + 1, md, _, _, by omega, by go_num, rfl, hH8h.out⟩
        case measure => simp [intOf]; omega
    · have hkn : n = k := by omega
      subst hkn
      clear hHh
      obtain ⟨w1, hw1⟩ : ∃ w1, w1 = wr := ⟨_, rfl⟩
      subst hw1
      have hmd := H.mdl
      have htake : ids.take n = ids := List.take_of_length_le (by rw [hnh.out]; exact Nat.le_refl _)
      have hdeg : Hid (∀ x ∈ ids, f x = some (.int .i64 ((s x).length : Nat)) ∧ (s x).length ≤ md) := fun x hx => H.deg x (by rw [htake]; exact hx)
      have hnb : Hid (∀ x ∈ ids, ∃ v, h x = some v ∧ w1.ownsRow wC.heap.size 85 1 v (s x).length (nodes (s x))) := fun x hx => H.rows x (by rw [htake]; exact hx)
      have hmk : ∀ W : World, (Instr.makeSlice 58 (.int .i64 ((md : Int) + 1)) (.int .i64 ((md : Int) + 1))).run Tryz.prog W = .ok (.slice (some ⟨W.heap.size, 0, none⟩) (md + 1) (md + 1)) (W.alloc (.cells (madeCells #[.slice none 0 0] (md + 1)) 50)) := fun W => by
        have := run_make_row' (P := Tryz.prog) 58 50 (.slice none 0 0) 24 Tryz.underlying58 info_nrowD rfl .i64 .i64 (md + 1) (by omega) (by omega) W
        rwa [show ((md + 1 : Nat) : Int) = (md : Int) + 1 from by omega] at this
      obtain ⟨mm, hmm⟩ : ∃ mm, mm = md + 1 := ⟨_, rfl⟩
      have hK0 := KD.start (ids := ids) (m := mm) (f := f) (by have := H.dm.lt; omega) H.dm (by omega)
      rw [← hmm] at hmk
      obtain ⟨wD, hwD⟩ : ∃ wD, wD = w1.alloc (.cells (madeCells #[.slice none 0 0] mm) 50) := ⟨_, rfl⟩
      obtain ⟨db, hdb⟩ : ∃ db, db = w1.heap.size := ⟨_, rfl⟩
      have hdl0 := dlist_zero ids s mm
      rw [← hwD, ← hdb, ← hdl0] at hK0
      have hK0h := Lib.hid hK0
      have hwDh := Lib.hid hwD
      have hdbh := Lib.hid hdb
      have hmmh : Hid (mm = md + 1) := hmm
      have hmm1 : mm ≤ 1001 := by omega
      have hHh := Lib.hid H
      clear H htake hK0 hwD hdb hmm hdl0
      go_wp2_with fail
      rw [← hwDh.out, ← hdbh.out]
      clear hmk hwDh
      go_loopw [64] (fun iv wr => ∃ (k : Nat) (vs : List Value), k ≤ n ∧ iv = .int .i64 k ∧ KD w1 wr ids dmb db mm f vs (dlist ids s mm k) (.slice none 0 0) (.slice none 0 0) [] []) (fun iv _ => n - (intOf iv).toNat)
      case atStart => exact ⟨0, _, Nat.zero_le _, rfl, hK0h.out⟩
      case round =>
        clear hK0h
        obtain ⟨k, vs, hk, rfl, hD⟩ := hrel
        by_cases hlt2 : k < n
        · have hkl : k < ids.length := by have := hnh.out; omega
          have own1 := hHh.out.nds
          rw [← hnh.out] at own1
          have own0 : wr.ownsRow w.heap.size 85 1 (.slice a0 n c0) n (nodes ids) := owns_same own1 fun j hj => by
            have h1 := hHh.out.nvl j hj
            have h2 := hHh.out.dn
            exact hD.fr.block j (own1.lt j hj).2 (fun e => by injection e with e; omega)
          obtain ⟨g0, rfl, _⟩ := owns_at own0 (by omega)
          have x0 := owns_cell own0 (nodes_get ids k hkl)
          obtain ⟨x, hx⟩ : ∃ x, x = ids[k] := ⟨_, rfl⟩
          rw [← hx] at x0
          unfold nodev at x0
          have hxm : x ∈ ids := by rw [hx]; exact List.getElem_mem hkl
          have htk : ids.take (k + 1) = ids.take k ++ [x] := by rw [List.take_succ_eq_append_getElem hkl, ← hx]
          obtain ⟨hfx, hdx⟩ := hdeg.out x hxm
          have hdm : (s x).length < mm := by have := hmmh.out; omega
          have hsucc := dlist_succ htk hdm
          have hlook := vmap_look hD.map Tryz.underlying141 (Tryz.zeroValue3 wr) (h64h.out x hxm) hfx
          obtain ⟨a, cap, hv, ownr, cc, ff⟩ := hD.dcell (i := (s x).length) (by rw [dlist_len]; exact hdm)
          obtain ⟨r, hr⟩ : ∃ r, r = (dlist ids s mm k)[(s x).length]'(by rw [dlist_len]; exact hdm) := ⟨_, rfl⟩
          rw [← hr] at hv ownr cc hsucc
          have hrl : r.length ≤ 1000 := by
            rw [hr, dlist_at ids s hdm]
            have h1 := List.length_filter_le (fun y => decide ((s y).length = (s x).length)) (ids.take k)
            rw [List.length_take] at h1
            omega
          obtain ⟨q, hq⟩ : ∃ q, q = (s x).length := ⟨_, rfl⟩
          rw [← hq] at hlook hv cc ff hsucc hdm
          obtain ⟨nr, hnr⟩ : ∃ nr, nr = r.length := ⟨_, rfl⟩
          rw [← hnr] at hv ownr cc hrl
          have hwl := hD.fr.size
          have hsz : w1.heap.size ≤ wr.heap.size := hwl
          have ho := Lib.hid (fun o => ownr.alloc o)
          have hap := Lib.hid (fun o a' cap' w' (hg : (wr.alloc o).grownBy w' (Value.slice a nr cap).ownBlock) (own : w'.ownsRow w1.heap.size 85 1 (.slice a' (nr + 1) cap') (nr + 1) (nodes r ++ [nodev x])) hat => hD.rowApp (o := o) hnr hv hg own hat)
          have hsuccs := Lib.hid hsucc
          have hdlw := hD.dlt.2
          have hmi := nidd_method
          have hnrh := Lib.hid hnr
          have hnewc := Lib.hid (new_one wr (nodev x) 85)
          clear hD own0 own1 hx hxm htk hfx hdx hsucc hv ownr hr hq hnr hwl
          go_wp2_with (first
            | (go_at_call 184; refine (id_any _ _).mono ?_; rintro e w' ⟨rfl, rfl⟩)
            | (at_builtin; go_loud (refine append_law 50 85 .nilIface 1 16 Tryz.underlying50 info_node rfl (by omega) (by omega) rfl _ _ rfl w1.heap.size a nr cap (nodes r) rfl (unhide ho _) ⟨wr.heap.size, 0, none⟩ 1 1 [nodev x] rfl rfl hnewc.out (one_node _) (by omega) (by simp; omega) ?_); intro b2 c2 w7 hown2 hg2 hat2; obtain ⟨s1, s2, s3⟩ := unhide hap _ _ _ _ hg2 hown2 hat2; clear hown2 hg2 hat2 ho hap))
          go_roundw
          case rel => exact ⟨k + 1, _, by omega, by go_num, by rw [hsuccs.out]; exact s3.out⟩
          case measure => simp [intOf]; omega
        · have hkn : n = k := by omega
          subst hkn
          have hnl := hnh.out
          have hO0 : DOk ids [] (degOut s []) mm (dlist ids s mm n) := by
            rw [hnl]
            exact dlist_ok hidn.out fun x hx => by have := (hdeg.out x hx).2; have := hmmh.out; omega
          have hf0 : ∀ x ∈ ids, f x = if x ∈ ([] : List Int) then none else some (.int .i64 (degOut s [] x : Nat)) := fun x hx => by
            have hdg : degOut s [] x = (s x).length := by unfold degOut; simp
            rw [if_neg (by simp), hdg]
            exact (hdeg.out x hx).1
          obtain ⟨wS, hwS⟩ : ∃ wS, wS = wr.alloc (.cells #[.int .i64 0] 3) := ⟨_, rfl⟩
          have hDS : KD w1 wS ids dmb db mm f vs (dlist ids s mm n) (.slice none 0 0) (.slice (some ⟨wr.heap.size, 0, none⟩) 1 1) [] [0] := by
            have bS : Below wr.heap.size wr wS := by rw [hwS]; exact alloc_below _ _
            refine hD.sPut (c' := [0]) (grown_below (w1 := wS) (r := none) bS (World.grownBy.refl _ _)) ⟨rfl, .inr ⟨wr.heap.size, 1, #[.int .i64 0], rfl, hD.fr.size, by rw [hwS]; exact heap_alloc_new _ _, Nat.le_refl _, by unfold maxLen; omega, rfl, rfl⟩⟩ fun j hj => .inr ?_
            simp only [Value.ownBlock] at hj
            injection hj with hj
            omega
          have hK3 : Hid (K3 w1 wS ids s dmb db mm 0 0 (.slice none 0 0) (.slice (some ⟨wr.heap.size, 0, none⟩) 1 1)) := ⟨[], [0], vs, _, f, rfl, KInv.start s ids, hO0, hf0, hDS⟩
          have hwSh := Lib.hid hwS
          clear hD hO0 hf0 hDS hwS hnl hk
          go_wp2_with fail
          rw [← hwSh.out]
          clear hwSh
          go_loopg [86, 2, 3, 16] n (fun gk iv lv sv kv wr => ∃ (j kk : Nat), gk = n - j ∧ j ≤ n ∧ kk ≤ 1000 ∧ iv = .int .i64 j ∧ kv = .int .i64 kk ∧ K3 w1 wr ids s dmb db mm j kk lv sv)
          case atStart => exact ⟨0, 0, rfl, Nat.zero_le _, Nat.zero_le _, rfl, rfl, hK3.out⟩
          case round =>
            clear hK3
            obtain ⟨j, kk, hgk, hj, hkkb, rfl, rfl, L, c, vs, Dl, f, hL, hI, hO, hf, hD⟩ := hrel
            have hgkh := Lib.hid hgk
            clear hgk
            obtain ⟨la, lc, rfl, _⟩ := owns_cells hD.l
            obtain ⟨sa, sc, rfl, _⟩ := owns_cells hD.s
            have hclen := hI.len
            by_cases hjn : j < n
            · obtain ⟨wk, hwk⟩ : ∃ wk, wk = wr := ⟨_, rfl⟩
              subst hwk
              have hDh := Lib.hid hD
              have hOh := Lib.hid hO
              have hIh := Lib.hid hI
              have hfh := Lib.hid hf
              have hLh := Lib.hid hL
              have hch := Lib.hid hclen
              have hclen' : Hid (Value.slice sa c.length sc = Value.slice sa (kk + 1) sc) := by unfold Hid; rw [hclen]
              rw [hclen'.out] at hDh ⊢
              have hlen' : Hid (Value.slice la L.length lc = Value.slice la j lc) := by unfold Hid; rw [hL]
              rw [hlen'.out] at hDh ⊢
              clear hD hO hI hf hL hclen hclen' hlen'
              go_wp2_with fail
              go_loopw [90, 17, 18] (fun qv _ _ wr => ∃ q : Nat, q ≤ mm ∧ qv = .int .i64 q ∧ (∀ i, i < q → Dl.getD i [] = []) ∧ wr = wk) (fun qv _ _ _ => mm - (intOf qv).toNat)
              case atStart => exact ⟨0, Nat.zero_le _, rfl, fun i hi => by omega, rfl⟩
              case round =>
                obtain ⟨q, hq, rfl, he, rfl⟩ := hrel
                have heh := Lib.hid he
                by_cases hqm : q < mm
                · have hqd : q < Dl.length := by rw [hOh.out.len]; exact hqm
                  obtain ⟨a, cap, hv, ownr, cc, ff⟩ := hDh.out.dcell hqd
                  have hgq := getD_at hqd
                  obtain ⟨R, hR⟩ : ∃ R, R = Dl[q] := ⟨_, rfl⟩
                  rw [← hR] at hv ownr cc hgq
                  obtain ⟨nR, hnR⟩ : ∃ nR, nR = R.length := ⟨_, rfl⟩
                  rw [← hnR] at hv ownr cc
                  have hdlw := hDh.out.dlt.2
                  by_cases h0 : nR = 0
                  · have hRe : R = [] := List.eq_nil_of_length_eq_zero (by omega)
                    subst h0
                    have hnext : Hid (∀ i, i < q + 1 → Dl.getD i [] = []) := fun i hi => by
                      by_cases e : i = q
                      · rw [e, hgq, hRe]
                      · exact heh.out i (by omega)
                    clear hv ownr hgq hR hnR hRe he hqd
                    go_wp2_with fail
                    go_roundw
                    case rel => exact ⟨q + 1, by omega, by go_num, hnext.out, trivial⟩
                    case measure => simp [intOf]; omega
                  · have h0' : decide ((nR : Int) = 0) = false := decide_eq_false (by omega)
                    have hRne : R ≠ [] := fun e => h0 (by rw [hnR, e]; rfl)
                    obtain ⟨r, v, hrv⟩ : ∃ r v, R = r ++ [v] := ⟨R.dropLast, R.getLast hRne, (List.dropLast_concat_getLast hRne).symm⟩
                    have hvh := Lib.hid hv
                    have hownh := Lib.hid ownr
                    have hgqh := Lib.hid hgq
                    have hrvh := Lib.hid hrv
                    have hnRh := Lib.hid hnR
                    clear hv ownr hgq hR hnR hRne he hqd hrv ff
                    go_upto_if 101 with fail
                    go_cut [3, 16] (fun sv kv wx => ∃ sa' sc', kv = .int .i64 (max kk q : Nat) ∧ sv = .slice sa' (max kk q + 1) sc' ∧ KD w1 wx ids dmb db mm f vs Dl (.slice la j lc) sv L (kLong c kk q))
                    case first =>
                      have hch' := hch.out
                      by_cases hkq : kk < q
                      · have hs0 := hDh.out.s
                        rw [hch'] at hs0
                        obtain ⟨gs, rfl, hgs1, hgs2, _⟩ := owns_at hs0 (by omega)
                        obtain ⟨a', cap', w', hrun, own', hg', hat'⟩ := append_zeros_own (k := q - kk) hs0 (by omega) (by omega) hDh.out.fr.size 22
                        have hKD := Lib.hid (hDh.out.zeros hch' hkq own' hg' hat')
                        have hint : Hid ((((q - kk : Nat) : Nat) : Int) = (q : Int) - ((kk : Int) + 1) + 1) := by unfold Hid; omega
                        have hmx : Hid ((q : Int) = ((max kk q : Nat) : Int) ∧ kk + 1 + (q - kk) = max kk q + 1) := ⟨by rw [Nat.max_eq_right (by omega)], by omega⟩
                        rw [hint.out] at hrun
                        clear hs0 own' hg' hat' hch'
                        go_wp2_with (refine Lib.wpList_append_run _ rfl _ _ 22 3 rfl _ _ rfl (by first | rfl | go_num) _ _ hrun ?_)
                        go_meet
                        case rel => exact ⟨a', cap', by rw [← hmx.out.1], by rw [hmx.out.2], by rw [hmx.out.2]; exact hKD.out⟩
                      · have hmx : max kk q = kk := Nat.max_eq_left (by omega)
                        have hKD : Hid (KD w1 wr ids dmb db mm f vs Dl (.slice la j lc) (.slice sa (kk + 1) sc) L (kLong c kk q)) := by unfold Hid; rw [kLong_zero (by omega)]; exact hDh.out
                        clear hch'
                        go_wp2_with fail
                        go_meet
                        case rel => exact ⟨sa, sc, by rw [hmx], by rw [hmx], hKD.out⟩
                    case rest =>
                      obtain ⟨sa', sc', rfl, rfl, hDc⟩ := hcut
                      have hR := hrvh.out
                      obtain ⟨nr, hnr⟩ : ∃ nr, nr = r.length := ⟨_, rfl⟩
                      have hnr1 : nR = nr + 1 := by rw [hnRh.out, hR, hnr]; simp
                      subst hnr1
                      have hq? : Dl[q]? = some (r ++ [v]) := by
                        rw [List.getElem?_eq_getElem (by rw [hOh.out.len]; exact hqm), ← getD_at (by rw [hOh.out.len]; exact hqm), hgqh.out, hR]
                      have own0 := hDc.rows.2 q _ _ hvh.out hq?
                      have e1 : (r ++ [v]).length = nr + 1 := by simp [hnr]
                      have e2 : (r ++ [v]).map nodev = nodes r ++ [nodev v] := by simp [nodes]
                      rw [e1, e2] at own0
                      obtain ⟨ga, rfl, _⟩ := owns_at own0 (by omega)
                      have hlast : (nodes r ++ [nodev v])[nr]? = some (nodev v) := by
                        rw [List.getElem?_append_right (by rw [nodes_length]; omega), nodes_length, hnr, Nat.sub_self]; rfl
                      have xv := owns_cell own0 hlast
                      have hDd := hDc.below (drew_below wc)
                      have own0d := owns_same (w' := wc.drew) own0 fun _ _ => rfl
                      have own1 := owns_shrink own0d
                      have hD2 := hDd.rowPut (v' := .slice (some ⟨ga, 0, none⟩) nr cap) (r' := r) hvh.out (World.grownBy.refl _ _) (by rw [← hnr]; exact own1) (fun j hj => .inl hj)
                      have cc' : wc.cell? ⟨db, q, none⟩ = some (.slice (some ⟨ga, 0, none⟩) (nr + 1) cap) := owns_cell hDc.d hvh.out
                      have ff' : wc.frozen? ⟨db, q, none⟩ = false := owns_free hDc.d q
                      have hdlc := hDc.dlt.2
                      have hgal : Hid (ga ≠ db) := fun e => hDc.dv (by rw [← e]; exact blks_mem hvh.out rfl)
                      have hD2h := Lib.hid hD2
                      have hDch := Lib.hid hDc
                      unfold nodev at xv
                      have hnrb : nr + 1 ≤ 1000 := by
                        have h1 := nodup_len (hOh.out.nd q) (m := ids) (fun x hx => ((hOh.out.mem q x).1 hx).1)
                        rw [hgqh.out, hR] at h1
                        simp at h1
                        omega
                      have hcap : nr ≤ cap := by
                        obtain ⟨_, h | ⟨_, _, _, hv, _, _, hc, _⟩⟩ := own0
                        · cases h.1
                        · injection hv with _ h2 h3
                          omega
                      have hlt1 : (nr : Int) < (nr : Int) + 1 := by omega
                      have hwr : IntKind.i64.wrap (nr : Int) = nr := by rw [IntKind.wrap_i64]; omega
                      have hnrh := Lib.hid hnr
                      clear hDc hD2 hDd own0 own0d own1 hR hnr hq? e1 e2 hlast
                      go_upto_region 37 with fail
                      go_cut [19] (fun v19 wx => v19 = .iface 127 (.int .i64 v) ∧ KD w1 wx ids dmb db mm f (vs.set q (.slice (some ⟨ga, 0, none⟩) nr cap)) (Dl.set q r) (.slice la j lc) (.slice sa' (max kk q + 1) sc') L (kLong c kk q))
                      case first =>
                        go_region_law (fail)
                        all_goals
                          go_wp2_with fail
                          go_meet
                          case rel => exact ⟨rfl, hD2h.out⟩
                      case rest =>
                        obtain ⟨rfl, hDe⟩ := hcut
                        have hgq2 : Dl.getD q [] = r ++ [v] := by rw [hgqh.out, hrvh.out]
                        obtain ⟨hO2, hvm, hvL, hvq⟩ := hOh.out.pop hgq2
                        have hI2 := hIh.out.step hvm hvL hvq.symm (dok_min hOh.out heh.out)
                        have hv64 := h64h.out v hvm
                        have hkl := kLong_len (i := q) hch.out
                        have hDeh := Lib.hid hDe
                        have hse := hDe.s
                        rw [hkl] at hse
                        obtain ⟨gs, rfl, hgs1, hgs2, _⟩ := owns_at hse (by omega)
                        have hle := hDe.l
                        rw [hLh.out] at hle
                        have ho := Lib.hid (fun o => hle.alloc o)
                        have hinc := Lib.hid (fun o a' cap' w' (hg : (wc.alloc o).grownBy w' (Value.slice la j lc).ownBlock) (own : w'.ownsRow w1.heap.size 85 1 (.slice a' (j + 1) cap') (j + 1) (nodes L ++ [nodev v])) hat => hDe.inc (o := o) hkl hLh.out hg own hat)
                        have hI2h := Lib.hid hI2
                        have hO2h := Lib.hid hO2
                        have hsz : w1.heap.size ≤ wc.heap.size := hDe.fr.size
                        obtain ⟨p, hp⟩ : ∃ p, p = max kk q := ⟨_, rfl⟩
                        have hpb : p < 1001 := by
                          have h2 := hOh.out.len
                          have h3 := getD_lt (l := Dl) (i := q) (x := v) (by rw [hgq2]; simp)
                          omega
                        obtain ⟨cp, hcp⟩ : ∃ cp, cp = (kLong c kk q).getD p 0 := ⟨_, rfl⟩
                        rw [← hp, ← hcp] at hinc
                        have hcpb : cp ≤ 1000 := by
                          have h1 := getD_le_sum (kLong c kk q) p
                          have h2 := kLong_sum (i := q) (t := (kLong c kk q).length) hch.out (by rw [hkl]; omega)
                          rw [List.take_length, hIh.out.sum, hLh.out] at h2
                          omega
                        have hnm := Lib.hid (fun (W : World) (hW : w1.grownBy W (some dmb)) => hHh.out.nm.same (hW.block _ hHh.out.nm.lt (fun e => by injection e with e; omega)))
                        obtain ⟨nbv, hhv, hnbo⟩ := hnb.out v hvm
                        obtain ⟨an, cn', rfl, _⟩ := owns_cells hnbo
                        obtain ⟨nl, hnl⟩ : ∃ nl, nl = (s v).length := ⟨_, rfl⟩
                        rw [← hnl] at hnbo hhv
                        have hnlb : nl ≤ 1000 := by rw [hnl]; exact hsl.out v
                        have hnlh := Lib.hid hnl
                        have hnboh := Lib.hid hnbo
                        clear hnl hnbo
                        have hlook := Lib.hid (fun (W : World) (hW : w1.grownBy W (some dmb)) => vmap_look (hnm.out W hW) Tryz.underlying161 (Tryz.zeroValue50 W) hv64 hhv)
                        rw [← hp]
                        have hph := Lib.hid hp
                        have hcph := Lib.hid hcp
                        clear hp hcp
                        have hmi := nidd_method
                        have hfr := Lib.hid (fun (W : World) {f'} {vs'} {Dl'} {lv'} {sv'} {L'} {c'} (hW : KD w1 W ids dmb db mm f' vs' Dl' lv' sv' L' c') => hW.fr)
                        clear hDe hse hle hI2 hO2 hgq2 hgs1 hgs2 hkl hhv
                        go_wp2_with (first
                          | (go_at_call 184; refine (id_any _ _).mono ?_; rintro e w' ⟨rfl, rfl⟩)
                          | (refine wpList_vmap_del _ rfl _ _ 141 3 rfl Tryz.underlying141 rfl hDg.out.map v rfl hv64 ?_; intro w9 hm9 hg9; have hD9 := Lib.hid (hDg.out.map' hg9 hm9); have hl9 := hlook.out w9 hD9.out.fr; clear hm9 hg9)
                          | (at_builtin; refine append_law 50 85 .nilIface 1 16 Tryz.underlying50 info_node rfl (by omega) (by omega) rfl _ _ rfl w1.heap.size la j lc (nodes L) rfl (unhide ho _) ⟨wc.heap.size, 0, none⟩ 1 1 [nodev v] rfl rfl (new_one wc _ _) (one_node _) (by omega) (by simp; omega) ?_; intro b2 c2 w7 hown2 hg2 hat2; obtain ⟨s1, s2, hDg⟩ := unhide hinc _ _ _ _ hg2 hown2 hat2; clear hown2 hg2 hat2 ho hinc))
                        have hK4 : Hid (K4 w1 w9 ids s dmb db mm L v 0 (.slice b2 (j + 1) c2) (.slice (some ⟨gs, 0, none⟩) (p + 1) sc') (kStep c kk q)) := by
                          have h1 := hD9.out
                          rw [hcph.out, hph.out] at h1
                          rw [hph.out]
                          exact K4.start hO2h.out hfh.out h1
                        have hvLh := Lib.hid hvL
                        have hvmh := Lib.hid hvm
                        clear hD9 hl9 s1 s2 hDg hO2h hlook hnm hfr hvL hvm hvq
                        go_loopg [142] nl (fun gk tv wr => ∃ t : Nat, gk = nl - t ∧ t ≤ nl ∧ tv = .int .i64 t ∧ K4 w1 wr ids s dmb db mm L v t (.slice b2 (j + 1) c2) (.slice (some ⟨gs, 0, none⟩) (p + 1) sc') (kStep c kk q))
                        case atStart => exact ⟨0, rfl, Nat.zero_le _, rfl, hK4.out⟩
                        case round =>
                          clear hK4
                          obtain ⟨t, hgt, ht, rfl, hK⟩ := hrel
                          have hgth := Lib.hid hgt
                          clear hgt
                          by_cases htl : t < nl
                          · have htl' : t < (s v).length := by rw [← hnlh.out]; exact htl
                            obtain ⟨w3, hw3⟩ : ∃ w3, w3 = wr := ⟨_, rfl⟩
                            subst hw3
                            have hKh := Lib.hid hK
                            obtain ⟨vs3, Dl3, f3, hO3, hf3, hD3⟩ := hK
                            have own0 : w3.ownsRow wC.heap.size 85 1 (.slice an nl cn') nl (nodes (s v)) := owns_same hnboh.out fun q1 hq1 => by
                              have h1 := hnboh.out.lt q1 hq1
                              have h2 := hHh.out.dn
                              exact hD3.fr.block q1 h1.2 (fun e => by injection e with e; omega)
                            obtain ⟨gn, rfl, _⟩ := owns_at own0 (by omega)
                            have x0 := owns_cell own0 (nodes_get (s v) t htl')
                            obtain ⟨y, hy⟩ : ∃ y, y = (s v)[t] := ⟨_, rfl⟩
                            rw [← hy] at x0
                            unfold nodev at x0
                            have hym : y ∈ ids := hsm.out v y (by rw [hy]; exact List.getElem_mem htl')
                            have hy64 := h64h.out y hym
                            have hlk := vmap_look_ok hD3.map Tryz.underlying141 (Tryz.zeroValue3 w3) hy64
                            have hyh := Lib.hid hy
                            have hymh := Lib.hid hym
                            by_cases hyL : y ∈ L ++ [v]
                            · rw [hf3 y hym, if_pos hyL] at hlk
                              simp only [Option.getD_none, Option.isSome_none] at hlk
                              have hnext := Lib.hid (hKh.out.skip htl' hy hyL)
                              clear hKh hO3 hf3 hD3 own0 hym hy hyL
                              go_wp2_with (go_at_call 184; refine (id_any _ _).mono ?_; rintro e w' ⟨rfl, rfl⟩)
                              go_roundg (nl - (t + 1))
                              case measure => have := hgth.out; omega
                              case rel => exact ⟨t + 1, rfl, by omega, by go_num, hnext.out⟩
                            · have hvy := hsymh.out v hvmh.out y (by rw [hy]; exact List.getElem_mem htl')
                              obtain ⟨a3, ha3⟩ := degOut_pos hvy hvLh.out
                              obtain ⟨hg1, hg2⟩ := gdec_at (s := s) (L := L) htl' hy (hndh.out v hvmh.out)
                              rw [hf3 y hym, if_neg hyL, hg1, ha3] at hlk
                              simp only [Option.getD_some, Option.isSome_some] at hlk
                              have hyR := (hO3.mem (a3 + 1) y).2 ⟨hym, hyL, by rw [hg1, ha3]⟩
                              have hi3 := getD_lt hyR
                              have hi3m : a3 + 1 < mm := by rw [← hO3.len]; exact hi3
                              obtain ⟨ar, cap3, hv3, own3, cc3, ff3⟩ := hD3.dcell hi3
                              rw [getD_at hi3] at hyR
                              obtain ⟨R3, hR3⟩ : ∃ R3, R3 = Dl3[a3 + 1] := ⟨_, rfl⟩
                              rw [← hR3] at hv3 own3 cc3 hyR
                              obtain ⟨n3, hn3⟩ : ∃ n3, n3 = R3.length := ⟨_, rfl⟩
                              rw [← hn3] at hv3 own3 cc3
                              have hn3b : n3 ≤ 1000 := by
                                have h1 := nodup_len (hO3.nd (a3 + 1)) (m := ids) (fun x hx => ((hO3.mem (a3 + 1) x).1 hx).1)
                                rw [getD_at hi3, ← hR3] at h1
                                omega
                              have hn3p : 0 < n3 := by rw [hn3]; exact List.length_pos_of_mem hyR
                              obtain ⟨g3, rfl, _⟩ := owns_at own3 hn3p
                              have hdl3 := hD3.dlt.2
                              have hO3h := Lib.hid hO3
                              have hf3h := Lib.hid hf3
                              have hD3h := Lib.hid hD3
                              have hv3h := Lib.hid hv3
                              have own3h := Lib.hid own3
                              have hR3h := Lib.hid hR3
                              have hn3h := Lib.hid hn3
                              have hyRh := Lib.hid hyR
                              have ha3h := Lib.hid ha3
                              have hyLh := Lib.hid hyL
                              have hi3h := Lib.hid hi3
                              clear hKh hO3 hf3 hD3 own0 hym hy hyL hvy ha3 hg1 hg2 hyR hv3 own3 hR3 hn3
                              go_wp2_with (go_at_call 184; refine (id_any _ _).mono ?_; rintro e w' ⟨rfl, rfl⟩)
                              go_loopw [160, 22, 24, 25] (fun ev dv _ _ wr => ∃ e : Nat, e ≤ n3 ∧ ev = .int .i64 e ∧ dv = .int .i64 ((a3 : Int) + 1) ∧ (∀ i, i < e → R3[i]? ≠ some y) ∧ wr = w3) (fun ev _ _ _ _ => n3 - (intOf ev).toNat)
                              case atStart => exact ⟨0, Nat.zero_le _, rfl, by first | rfl | simp | go_num, fun i hi => by omega, rfl⟩
                              case round =>
                                obtain ⟨e, he, rfl, rfl, hne, rfl⟩ := hrel
                                have hneh := Lib.hid hne
                                by_cases hel : e < n3
                                · have hel' : e < R3.length := by rw [← hn3h.out]; exact hel
                                  have z0 := owns_cell own3h.out (nodes_get R3 e hel')
                                  obtain ⟨z, hz⟩ : ∃ z, z = R3[e] := ⟨_, rfl⟩
                                  rw [← hz] at z0
                                  unfold nodev at z0
                                  have hzh := Lib.hid hz
                                  clear hne hz
                                  by_cases hzy : z = y
                                  · have hdz2 : (z == y) = true := by simpa using hzy
                                    have hRne : R3 ≠ [] := fun e2 => by rw [e2] at hel'; simp at hel'
                                    obtain ⟨r3, u3, hru⟩ : ∃ r u, R3 = r ++ [u] := ⟨R3.dropLast, R3.getLast hRne, (List.dropLast_concat_getLast hRne).symm⟩
                                    obtain ⟨nr3, hnr3⟩ : ∃ nr, nr = r3.length := ⟨_, rfl⟩
                                    have hn31 : n3 = nr3 + 1 := by rw [hn3h.out, hru, hnr3]; simp
                                    subst hn31
                                    have hqe : (r3 ++ [u3])[e]? = some y := by rw [← hru, List.getElem?_eq_getElem hel', ← hzh.out, hzy]
                                    have hgr : Dl3[a3 + 1]? = some (r3 ++ [u3]) := by rw [List.getElem?_eq_getElem hi3h.out, ← hR3h.out, hru]
                                    have hgr2 : Dl3.getD (a3 + 1) [] = r3 ++ [u3] := by rw [getD_at hi3h.out, ← hR3h.out, hru]
                                    obtain ⟨⟨xe, sx⟩, sf, sc3, sfr, hKD2⟩ := (hD3h.out.below (drew_below wr)).swap (q := e) hv3h.out hgr hnr3 (by omega)
                                    have own4 := own3h.out
                                    rw [hru] at own4
                                    have hlast : (nodes (r3 ++ [u3]))[nr3]? = some (nodev u3) := by
                                      rw [nodes_get _ nr3 (by simp [hnr3])]
                                      simp [hnr3]
                                    have xu := owns_cell own4 hlast
                                    have hcap3 : nr3 ≤ cap3 := by
                                      obtain ⟨_, h | ⟨_, _, _, hv, _, _, hc, _⟩⟩ := own4
                                      · cases h.1
                                      · injection hv with _ h2 h3
                                        omega
                                    have hnrb3 : nr3 + 1 ≤ 1000 := by
                                      have h1 := nodup_len (hO3h.out.nd (a3 + 1)) (m := ids) (fun x hx => ((hO3h.out.mem (a3 + 1) x).1 hx).1)
                                      rw [hgr2] at h1
                                      simp at h1
                                      omega
                                    have hwr3 : IntKind.i64.wrap (nr3 : Int) = nr3 := by rw [IntKind.wrap_i64]; omega
                                    have hlt3 : (nr3 : Int) < (nr3 : Int) + 1 := by omega
                                    obtain ⟨wS2, hwS2⟩ : ∃ wS2, wS2 = (wr.drew.setCell ⟨g3, e, none⟩ (.iface 127 (.int .i64 u3))).setCell ⟨db, a3 + 1, none⟩ (.slice (some ⟨g3, 0, none⟩) nr3 cap3) := ⟨_, rfl⟩
                                    unfold nodev at sc3 sfr hKD2
                                    rw [← hwS2] at hKD2
                                    obtain ⟨Dl2, hDl2⟩ : ∃ Dl2, Dl2 = Dl3.set (a3 + 1) (r3.set e u3) := ⟨_, rfl⟩
                                    rw [← hDl2] at hKD2
                                    have hi4 : a3 < Dl2.length := by rw [hDl2, List.length_set, hO3h.out.len]; omega
                                    obtain ⟨a4, cap4, hv4, own5, cc4, ff4⟩ := hKD2.dcell hi4
                                    have hgd4 := getD_at hi4
                                    obtain ⟨R4, hR4⟩ : ∃ R4, R4 = Dl2[a3] := ⟨_, rfl⟩
                                    rw [← hR4] at hv4 own5 cc4 hgd4
                                    have hR4b : R4.length ≤ 1001 := by
                                      have h1 := nodup_len (hO3h.out.nd a3) (m := ids) (fun x hx => ((hO3h.out.mem a3 x).1 hx).1)
                                      have h2 : Dl2.getD a3 [] = Dl3.getD a3 [] := by rw [hDl2, getD_set _ _ _ _ _ hi3h.out, if_neg (by omega)]
                                      rw [← h2, hgd4] at h1
                                      omega
                                    obtain ⟨n4, hn4⟩ : ∃ n4, n4 = R4.length := ⟨_, rfl⟩
                                    rw [← hn4] at hv4 own5 cc4 hR4b
                                    have hsz4 : w1.heap.size ≤ wS2.heap.size := hKD2.fr.size
                                    have hdl4 := hKD2.dlt.2
                                    have ho4 := Lib.hid (fun o => own5.alloc o)
                                    have hap4 := Lib.hid (fun o a' cap' w' (hg : (wS2.alloc o).grownBy w' (Value.slice a4 n4 cap4).ownBlock) (own : w'.ownsRow w1.heap.size 85 1 (.slice a' (n4 + 1) cap') (n4 + 1) (nodes R4 ++ [nodev y])) hat => hKD2.rowApp (o := o) hn4 hv4 hg own hat)
                                    have hnew4 := Lib.hid (new_one wS2 (nodev y) 85)
                                    have hnx := Lib.hid (fun (w9 : World) (vs9 : List Value) (hD : KD w1 w9 ids dmb db mm (updV f3 y (some (.int .i64 (a3 : Nat)))) vs9 (Dl2.set a3 (R4 ++ [y])) (.slice b2 (j + 1) c2) (.slice (some ⟨gs, 0, none⟩) (p + 1) sc') (L ++ [v]) (kStep c kk q)) =>
                                      K4.next (s := s) (vs' := vs9) hO3h.out hf3h.out htl' hyh.out (hndh.out v hvmh.out) hymh.out hyLh.out ha3h.out hgr2 hqe (by rw [← hDl2, hgd4]; exact hD))
                                    have hwS2h := Lib.hid hwS2
                                    have hwS2i : Hid (wS2 = ((wr.setCell ⟨g3, e, none⟩ (.iface 127 (.int .i64 u3))).setCell ⟨db, a3 + 1, none⟩ (.slice (some ⟨g3, 0, none⟩) nr3 cap3)).drew) := hwS2
                                    have hwS2j : Hid (wS2 = (wr.setCell ⟨g3, e, none⟩ (.iface 127 (.int .i64 u3))).drew.setCell ⟨db, a3 + 1, none⟩ (.slice (some ⟨g3, 0, none⟩) nr3 cap3)) := hwS2
                                    have sc4 : (wr.setCell ⟨g3, e, none⟩ (.iface 127 (.int .i64 u3))).cell? ⟨db, a3 + 1, none⟩ = some (.slice (some ⟨g3, 0, none⟩) (nr3 + 1) cap3) := sc3
                                    have sf4 : (wr.setCell ⟨g3, e, none⟩ (.iface 127 (.int .i64 u3))).frozen? ⟨db, a3 + 1, none⟩ = false := sfr
                                    unfold nodev at xu
                                    clear hRne hru hqe hgr hgr2 own4 hlast hKD2 hv4 own5 hgd4 hR4 hn4 hnr3 hwS2 hDl2 hi4 hzy
                                    go_upto_region 50 with (go_at_call 184; refine (id_any _ _).mono ?_; rintro e w' ⟨rfl, rfl⟩)
                                    go_cut [] (fun wx => wx = wS2)
                                    case first =>
                                      refine reg50_wp (c := _) (by kernel_rfl) wr db mm a3 e nr3 cap3 g3 u3 _ ?hexit hi3m hnrb3 hcap3 (by omega) cc3 xu ⟨_, sx⟩ sf sc4 sf4
                                      clear hnx ho4 hap4 hnew4 cc4 ff4
                                      intros
                                      go_wp2_with fail
                                      go_meet
                                      case rel => exact hwS2i.out.symm
                                    case rest =>
                                      obtain rfl := hcut
                                      clear hwS2h hwS2i hwS2j sx sf sc3 sfr sc4 sf4 hdz2 xu hwr3 hlt3 z0 x0 hlk cc3 ff3 xe hcap3 hnrb3
                                      go_upto_region 52 with fail
                                      go_cut [] (fun wx => ∃ vs9, KD w1 wx ids dmb db mm f3 vs9 (Dl2.set a3 (R4 ++ [y])) (.slice b2 (j + 1) c2) (.slice (some ⟨gs, 0, none⟩) (p + 1) sc') (L ++ [v]) (kStep c kk q))
                                      case first =>
                                        go_wp2_with (at_builtin; refine append_law 50 85 .nilIface 1 16 Tryz.underlying50 info_node rfl (by omega) (by omega) rfl _ _ rfl w1.heap.size a4 n4 cap4 (nodes R4) rfl (unhide ho4 _) ⟨wc.heap.size, 0, none⟩ 1 1 [nodev y] rfl rfl hnew4.out (one_node _) (by omega) (by simp; omega) ?_; intro b5 c5 w7 hown5 hg5 hat5; obtain ⟨s1, s2, s3⟩ := unhide hap4 _ _ _ _ hg5 hown5 hat5; clear hown5 hg5 hat5 ho4 hap4)
                                        go_meet
                                        case rel => exact ⟨_, s3.out⟩
                                      case rest =>
                                        obtain ⟨vs9, hD9⟩ := hcut
                                        obtain ⟨w9, hrun9, hm9, hg9⟩ := vmap_put hD9.map Tryz.underlying141 hy64 hymh.out (by omega) (.int .i64 (a3 : Nat))
                                        have hK9 := Lib.hid (hnx.out _ _ (hD9.map' hg9 hm9))
                                        clear hm9 hg9 hD9 hnx ho4 hap4 hnew4 cc4 ff4 hsz4 hdl4 hR4b
                                        go_wp2_with (go_at_call 184; refine (id_any _ _).mono ?_; rintro e w' ⟨rfl, rfl⟩)
                                        go_roundg (nl - (t + 1))
                                        case measure => have := hgth.out; omega
                                        case rel => exact ⟨t + 1, rfl, by omega, by go_num, hK9.out⟩
                                  · have hdz : decide (z = y) = false := decide_eq_false hzy
                                    have hdz2 : (z == y) = false := by simpa using hzy
                                    have hnext : Hid (∀ i, i < e + 1 → R3[i]? ≠ some y) := fun i hi => by
                                      by_cases e2 : i = e
                                      · rw [e2, List.getElem?_eq_getElem hel', ← hzh.out]
                                        intro h
                                        injection h with h
                                        exact hzy h
                                      · exact hneh.out i (by omega)
                                    clear hzy
                                    go_wp2_with (go_at_call 184; refine (id_any _ _).mono ?_; rintro e w' ⟨rfl, rfl⟩)
                                    go_roundw
                                    case rel => exact ⟨e + 1, by omega, by go_num, rfl, hnext.out, trivial⟩
                                    case measure => simp [intOf]; omega
                                · exfalso
                                  obtain ⟨i, hi, hi2⟩ := List.mem_iff_getElem.1 hyRh.out
                                  exact hneh.out i (by have := hn3h.out; omega) (by rw [List.getElem?_eq_getElem hi, hi2])
                          · have htn : t = nl := by omega
                            subst htn
                            rw [hnlh.out] at hK
                            have hdone := hK.done hvLh.out hvmh.out hsymh.out hndh.out hI2h.out hLh.out
                            rw [← hph.out] at hdone
                            have hdoneh := Lib.hid hdone
                            clear hK hdone
                            go_wp2_with fail
                            go_roundg (n - (j + 1))
                            case measure => have := hgkh.out; omega
                            case rel => exact ⟨j + 1, p, rfl, by omega, by omega, by go_num, rfl, hdoneh.out⟩
                · exfalso
                  exact dok_some hOh.out hidn.out (by have := hLh.out; have := hnh.out; omega) fun i hi => heh.out i (by omega)
            · have hjn' : j = n := by omega
              have hall := all_in hI.nd hI.sub (by have := hnh.out; omega)
              have h1 := hHh.out
              have hlow : Hid (DegPost w ids s (.returned (.tuple #[.slice la L.length lc, .slice sa c.length sc])) wr) := by
                have hdn := h1.dn
                have hws : w.heap.size ≤ w1.heap.size := h1.below.size
                refine ⟨L, kk, c, la, sa, lc, sc, by rw [hclen], owns_base hD.l hws, ?_, ?_, hI, hall, ?_⟩
                · have h2 := owns_base hD.s hws
                  rwa [hclen] at h2
                · intro q1 hq1
                  have h2 := (hD.ls q1 hq1).1
                  rwa [hclen] at h2
                · exact h1.below.grown hD.fr h1.below.size (fun q1 e => by injection e with e; omega)
              obtain ⟨l1, hl1⟩ : ∃ l1, l1 = L.length := ⟨_, rfl⟩
              obtain ⟨l2, hl2⟩ : ∃ l2, l2 = c.length := ⟨_, rfl⟩
              rw [← hl1, ← hl2] at hlow ⊢
              clear hD hI hO hf hL hclen hall h1 hl1 hl2
              go_wp2_with fail
              go_ret2
              exact hlow.out
end Go.Proofs.YthpjmjohdliohaaGreat
