/- DepthFirst.WalkAll as ConnectedComponents calls it: the walks. -/
import Derived.Test.YthpjmjohdliohaaGreatCcA
namespace Go.Proofs.YthpjmjohdliohaaGreat
open Go.RowKit

set_option maxHeartbeats 2000000 in
theorem cvisited_any (ids : List Int) (A tb pb : Nat) (O : List Int) (F0 : List Nat) (x0 : Option Nat) (x : Int) (w : World) (hx : In64 x) (h : DStart w ids A tb pb O F0 x0) :
    Calls Tryz.prog 84 #[.pointer (some ⟨tb, 0, none⟩), .iface 127 (.int .i64 x)] w fun e w' => e = .returned (.bool (decide (x ∈ O))) ∧ Below w.heap.size w w' := by
  have c3 := h.c3.1
  have hhas : Hid (Calls Tryz.prog 52 #[.map x0, .int .i64 x] w.drew fun e w' => e = .returned (.bool (decide (x ∈ O))) ∧ ∃ o, w' = w.drew.alloc o) := by
    rcases h with ⟨rfl, rfl, _⟩ | ⟨mb, B, a, c, ap, cp, rfl, h, _⟩
    · exact (setHasNil_any x w.drew hx).mono fun e w' ⟨h1, h2⟩ => ⟨by rw [h1]; simp, h2⟩
    · exact isetHas_any ids mb O x w.drew hx (h.set.same (by rfl))
  clear h
  obtain ⟨t, ht⟩ : ∃ t, t = decide (x ∈ O) := ⟨_, rfl⟩
  rw [← ht] at hhas ⊢
  clear ht
  go_enter Tryz.func84, Tryz.ntmps84
  go_wp2_with fail
  go_region_held3 (fun w' => w'.cell? ⟨tb, 3, none⟩ = some (.map x0)) (go_keep) (first
    | (go_at_call 184; refine (id_any _ _).mono ?_; rintro e w' ⟨rfl, rfl⟩)
    | (go_at_call 52; ((with_reducible refine (hhas.out).mono ?_)); rintro e w' ⟨rfl, o, rfl⟩; have k3 := cell_alloc (w := w.drew) c3 o))
  all_goals
    go_wp2_with fail
    go_ret
    exact ⟨rfl, (drew_below w).trans (alloc_below w.drew _)⟩

theorem dfs_nil4 (f : Fn) (a b : Array Value) (w : World) : (binOp .neq 1 (.func f a b) .nilFunc).run Tryz.prog w = .ok (.bool true) w := by kernel_rfl
theorem dfs_nil5 (w : World) : (binOp .neq 1 .nilFunc .nilFunc).run Tryz.prog w = .ok (.bool false) w := by kernel_rfl

set_option maxRecDepth 100000 in
set_option maxHeartbeats 8000000 in
theorem cwalkAll_any (gb lo hi : Nat) (ids : List Int) (outs ins : List (List Arc)) (A tb pb lb : Nat) (w : World) (hids : ids.length ≤ 1000) (h64 : ∀ x ∈ ids, In64 x) (hsym : ∀ x ∈ ids, ∀ y ∈ succOf ids outs x, y ∈ ids ∧ x ∈ succOf ids outs y)
    (hB : DBlk w tb .nilFunc .nilFunc (.slice none 0 0) (.map none)) (hP : VBlk w pb 50 (.slice none 0 0)) (hL : VBlk w lb 58 (.slice none 0 0)) (hF : FarIn lo hi w gb ids outs ins)
    (hA : A ≤ tb ∧ A ≤ pb ∧ A ≤ lb) (hne : tb ≠ pb ∧ lb ≠ tb ∧ lb ≠ pb) (hlo : (tb < lo ∨ hi ≤ tb) ∧ (pb < lo ∨ hi ≤ pb) ∧ (lb < lo ∨ hi ≤ lb)) :
    Calls Tryz.prog 49
      #[.pointer (some ⟨tb, 0, none⟩), .iface 62 (.agg #[.pointer (some ⟨gb, 0, none⟩)]), .nilFunc, .func (.func 48) #[] #[.pointer (some ⟨lb, 0, none⟩), .pointer (some ⟨pb, 0, none⟩)], noteC pb] w
      fun e w' => e = .returned (.tuple #[]) ∧ ∃ (la : Option Addr) (lc : Nat) (vs : List Value) (L : List (List Int)), CLAt w' A lb (.slice la L.length lc) vs L ∧ DAll (succOf ids outs) ids ids.length L ∧ Below A w w' := by
  have hf4 := dfs_nil4
  have hf5 := dfs_nil5
  obtain ⟨w1, hw1⟩ : ∃ w1, w1 = w.alloc (.cells #[noteC pb] 99) := ⟨_, rfl⟩
  have hb1 : Below w.heap.size w w1 := by rw [hw1]; exact alloc_below w _
  have hz1 : w1.heap.size = w.heap.size + 1 := by rw [hw1]; simp
  have hdb1 : VBlk w1 w.heap.size 99 (noteC pb) := by rw [hw1]; exact heap_alloc_new w _
  have htl := hB.lt
  have hpl := hP.lt
  have hll := hL.lt
  have hB1 : DBlk w1 tb .nilFunc .nilFunc (.slice none 0 0) (.map none) := (hb1.block tb htl).trans hB
  have hP1 : VBlk w1 pb 50 (.slice none 0 0) := (hb1.block pb hpl).trans hP
  have hL1 : VBlk w1 lb 58 (.slice none 0 0) := (hb1.block lb hll).trans hL
  have hF1 := hF.below hb1
  have hhi := hF.1
  have hres := Lib.hid (dreset_any tb _ _ w1 hB1)
  have hlow1 : Hid (Below A w w1) := hb1.mono (by omega)
  rw [hw1] at hres
  have hw1h := Lib.hid hw1
  have hdb1h := Lib.hid hdb1
  have hP1h := Lib.hid hP1
  have hL1h := Lib.hid hL1
  have hF1h := Lib.hid hF1
  have hz1h := Lib.hid hz1
  have h64h := Lib.hid h64
  have hsymh := Lib.hid hsym
  have hAh := Lib.hid hA
  have hneh := Lib.hid hne
  have hloh := Lib.hid hlo
  have hsz : Hid (tb < w.heap.size ∧ pb < w.heap.size ∧ lb < w.heap.size ∧ hi ≤ w.heap.size) := ⟨htl, hpl, hll, hhi⟩
  clear hw1 hB hP hL hB1 hP1 hL1 hF hF1 hb1 hdb1 htl hpl hll hhi hz1 h64 hsym hA hne hlo
  unfold noteC at hres
  unfold noteC
  go_enter Tryz.func49, Tryz.ntmps49
  go_wp2_with fail
  refine (unhide hres).mono ?_
  rintro e w2 ⟨rfl, hB2, hM2⟩
  have hw1e : w1 = w.alloc (.cells #[.func (.func 47) #[] #[.pointer (some ⟨pb, 0, none⟩)]] 99) := hw1h.out
  rw [← hw1e] at hM2
  have hz2 : w.heap.size + 1 ≤ w2.heap.size := by have := hM2.size; have := hz1h.out; omega
  have hP2 : VBlk w2 pb 50 (.slice none 0 0) := (hM2.block pb (by have := hz1h.out; have := hsz.out; omega) (by have := hneh.out; simp; omega)).trans hP1h.out
  have hL2 : VBlk w2 lb 58 (.slice none 0 0) := (hM2.block lb (by have := hz1h.out; have := hsz.out; omega) (by have := hneh.out; simp; omega)).trans hL1h.out
  have hdb2 : VBlk w2 w.heap.size 99 (noteC pb) := (hM2.block w.heap.size (by have := hz1h.out; omega) (by have := hsz.out; simp; omega)).trans hdb1h.out
  have hF2 := hF1h.out.moves hM2 (fun j hj => by rw [List.mem_singleton.1 hj]; exact hloh.out.1)
  have hlow2 : Below A w w2 := hM2.below hlow1.out (fun j hj => by rw [List.mem_singleton.1 hj]; exact hAh.out.1) (by have := hz1h.out; have := hAh.out; have := hsz.out; omega)
  have hnod := Lib.hid (nodesUnd_any gb ids outs ins w2 hids hF2.plain)
  have hB2h := Lib.hid hB2
  have hP2h := Lib.hid hP2
  have hL2h := Lib.hid hL2
  have hdb2h := Lib.hid hdb2
  have hF2h := Lib.hid hF2
  have hlow2h := Lib.hid hlow2
  have hz2h := Lib.hid hz2
  clear hB2 hM2 hP2 hL2 hdb2 hF2 hlow2 hz2 hw1e hres
  go_wp2_with fail
  refine (unhide hnod).mono ?_
  rintro e w3 ⟨ib, rfl, hit, hb3⟩
  obtain ⟨B2, hB2⟩ : ∃ B2, B2 = w2.heap.size := ⟨_, rfl⟩
  obtain ⟨E, hE⟩ : ∃ E, E = w3.heap.size := ⟨_, rfl⟩
  have hAB : A ≤ B2 := by have := hz2h.out; have := hAh.out; have := hsz.out; omega
  have hstate : Hid (WState w w3 gb lo hi ids outs ins A tb pb lb w.heap.size B2 E ib 0 0 [] [tb, pb] none (.slice none 0 0) [] []) := by
    have e1 := hz2h.out
    have e2 := hsz.out
    have e3 := hb3.size
    have e4 := hneh.out
    have e5 := hAh.out
    have e6 := hloh.out
    have hfoot : ∀ j, j ∈ cfoot lb (.slice none 0 0) [] ↔ j = lb := fun j => by rw [mem_cfoot]; simp [Value.ownBlock, blks]
    refine ⟨.inl ⟨rfl, rfl, rfl, (hb3.block tb (by omega)).trans hB2h.out, (hb3.block pb (by omega)).trans hP2h.out, e5.1, e5.2.1, e4.1⟩, fun x => by simp, ⟨(hb3.block lb (by omega)).trans hL2h.out, World.ownsRow_nil _ _ _ _, ⟨rfl, fun k v c hv => by simp at hv⟩, fun j hj => by simp [Value.ownBlock] at hj, by simp [blks]⟩,
      DAll.start _ _, hF2h.out.below hb3, (hb3.block _ (by omega)).trans hdb2h.out, by rw [hB2, hE]; exact hit, fun j hj => ?_, fun j hj => ?_, .inl (by omega), hlow2h.out.trans (hb3.mono (by omega)), ⟨by omega, by omega, by omega⟩, by simp⟩
    · rw [hfoot]
      simp only [List.mem_cons, List.not_mem_nil, or_false] at hj
      rcases hj with rfl | rfl
      · exact ⟨e5.1, by omega, e6.1, .inl (by omega), by omega, fun e => e4.2.1 e.symm⟩
      · exact ⟨e5.2.1, by omega, e6.2.1, .inl (by omega), by omega, fun e => e4.2.2 e.symm⟩
    · rw [(hfoot j).1 hj]
      exact ⟨e5.2.2, e6.2.2, .inl (by omega), by omega⟩
  clear hit hb3 hB2 hE hB2h hP2h hL2h hdb2h hF2h hlow2h hz2h hnod hlow1 hP1h hL1h hdb1h hF1h
  go_wp2_with fail
  go_loopg [] (ids.length) (fun gk wr => ∃ (k : Nat) (O : List Int) (F0 : List Nat) (x0 : Option Nat) (la : Option Addr) (lc n : Nat) (vs : List Value) (L : List (List Int)), k ≤ ids.length ∧ gk = ids.length - k ∧ n = L.length ∧ WState w wr gb lo hi ids outs ins A tb pb lb w.heap.size B2 E ib k k O F0 x0 (.slice la n lc) vs L)
  case atStart => exact ⟨0, [], [tb, pb], none, none, 0, 0, [], [], Nat.zero_le _, rfl, rfl, hstate.out⟩
  case round =>
    obtain ⟨k, O, F0, x0, la, lc, n, vs, L, hk, hgk, hnL, hS⟩ := hrel
    have hnext := Lib.hid (next_any B2 E ib k ids wr hk (by omega) hS.it)
    have hgkh := Lib.hid hgk
    have hnLh := Lib.hid hnL
    have hSh := Lib.hid hS
    clear hgk hnL hS hstate
    by_cases hlt : k < ids.length
    · have hd : decide (k < ids.length) = true := decide_eq_true hlt
      have hltn := hlt
      clear hlt
      go_wp2_with fail
      refine (unhide hnext).mono ?_
      rintro e w4 ⟨rfl, hg4, hit4⟩
      have hS4 := hSh.out.next hg4 (hit4 hltn) hAB
      obtain ⟨u, hu⟩ : ∃ u, u = ids[k] := ⟨_, rfl⟩
      have hui : u ∈ ids := by rw [hu]; exact List.getElem_mem hltn
      have hnode := Lib.hid (node_any B2 E ib k ids w4 hltn (by omega) hS4.it)
      rw [← hu] at hnode
      have huh := Lib.hid hu
      have hS4h := Lib.hid hS4
      have hu64 := h64h.out u hui
      clear hnext hg4 hit4 hS4 hu hSh
      go_wp2_with fail
      refine (unhide hnode).mono ?_
      rintro e w5 ⟨rfl, k5, hw5⟩
      have hS5 := hS4h.out.below (w' := w5) (by rw [hw5]; exact drewN_below _ _)
      have hvis := Lib.hid (cvisited_any ids A tb pb O F0 x0 u w5 hu64 hS5.st)
      have hdec : decide (u ∈ O) = decide (u ∈ L.flatten) := by rw [Bool.eq_iff_iff, decide_eq_true_iff, decide_eq_true_iff]; exact hS5.set u
      rw [hdec] at hvis
      have hS5h := Lib.hid hS5
      clear hw5 hS5 hnode hS4h hdec
      go_wp2_with fail
      refine (unhide hvis).mono ?_
      rintro e w6 ⟨rfl, hb6⟩
      have hS6 := hS5h.out.below hb6
      have hS6h := Lib.hid hS6
      clear hb6 hS6 hS5h hvis
      by_cases hm : u ∈ L.flatten
      · have hdm : decide (u ∈ L.flatten) = true := decide_eq_true hm
        rw [hdm]
        have hfin : Hid (WState w w6 gb lo hi ids outs ins A tb pb lb w.heap.size B2 E ib (k + 1) (k + 1) O F0 x0 (.slice la n lc) vs L) := { hS6h.out with all := hS6h.out.all.skip _ hltn (by rw [← huh.out]; exact hm) }
        clear hS6h hdm
        go_wp2_with fail
        go_roundg (ids.length - (k + 1))
        case measure => have := hgkh.out; omega
        case rel => exact ⟨k + 1, O, F0, x0, la, lc, n, vs, L, by omega, rfl, hnLh.out, hfin.out⟩
      · have hdm : decide (u ∈ L.flatten) = false := decide_eq_false hm
        rw [hdm]
        have hmk : ids[k] ∉ L.flatten := by rw [← huh.out]; exact hm
        have hap : ∀ x, Reach (succOf ids outs) u x → x ∈ ids ∧ x ∉ O := fun x hr => by
          have := hS6h.out.all.apart _ hsymh.out hui hm hr
          exact ⟨this.1, fun h => this.2 ((hS6h.out.set x).1 h)⟩
        have hapx := hap
        have hwk := dwalkC_any gb lo hi ids outs ins A tb pb w.heap.size O F0 x0 u w6 hids h64h.out hap hS6h.out.st hS6h.out.far (fun j hj => (hS6h.out.f0 j hj).2.2.1) hS6h.out.dbv (fun hj => (hS6h.out.f0 _ hj).2.2.2.2.1 rfl)
        have hwkh := Lib.hid hwk
        clear hdm hap hwk
        go_wp2_with fail
        refine (unhide hwkh).mono ?_
        rintro e w7 ⟨rfl, mb, B, V, a7, c7, ap7, cp7, hDW, hD7, hM7⟩
        have hl7 := hS6h.out.lat.moves hM7 (fun j hj hj0 => (hS6h.out.f0 j hj0).2.2.2.2.2 hj)
        have hnl : n ≤ 1000 := by
          have h1 := hS6h.out.all.nd
          have h2 := nodup_len h1 (fun x hx => hS6h.out.all.sub x hx)
          have h3 := flatten_len (l := L) (fun l hl => (hS6h.out.all.walk l hl).ne)
          have := hnLh.out
          omega
        have hpn : pb ∉ cfoot lb (.slice la n lc) vs := (hS6h.out.f0 pb hS6h.out.fp).2.2.2.2.2
        have hV0 : 0 < V.length := List.length_pos_iff.2 hDW.ne
        have hV1 : V.length ≤ 1000 := by
          have := nodup_len hDW.nd (fun x hx => (hapx x (hDW.reach x hx)).1)
          omega
        have haf := cafter_any A lb pb la n lc ap7 cp7 vs L V w7 hnLh.out hnl hV0 hV1 hl7 hD7.pblk (owns_base hD7.prow (by have := hD7.low; have := hD7.lts; omega)) (by have := hD7.low; have := hD7.lts; omega) hpn (fun j hj => by
          have hjd : j ∈ dfoot tb mb pb (.slice a7 0 c7) (.slice ap7 V.length cp7) := mem_dfoot.2 (by simp [hj])
          refine ⟨fun hjl => ?_, by have := (hD7.prow.lt j hj).1; have := hD7.lts; omega⟩
          rcases hM7.row j hjd with e | e
          · exact (hS6h.out.f0 j e).2.2.2.2.2 hjl
          · have := hS6h.out.lat.lt j hjl; omega)
        have hafh := Lib.hid haf
        have hDWh := Lib.hid hDW
        have hD7h := Lib.hid hD7
        have hM7h := Lib.hid hM7
        clear hDW hD7 hM7 hl7 hpn haf hwkh
        go_wp2_with fail
        refine (unhide hafh).mono ?_
        rintro e w8 ⟨rfl, a8, c8, g8, k8, hL8, hp8, hg8, hM8, hn8⟩
        have hfin : Hid (WState w w8 gb lo hi ids outs ins A tb pb lb w.heap.size B2 E ib (k + 1) (k + 1) (V.reverse ++ O) (dfoot tb mb pb (.slice a7 0 c7) (.slice ap7 0 cp7)) (some mb) (.slice a8 (n + 1) c8) (vs ++ [.slice (some ⟨g8, 0, none⟩) V.length k8]) (L ++ [V])) := by
          have hDW' := hDWh.out
          rw [huh.out] at hDW'
          exact hS6h.out.walked hsymh.out hltn hmk hDW' hD7h.out hM7h.out hL8 hp8 hg8 hM8 hn8
        clear hL8 hp8 hg8 hM8 hn8 hafh hDWh hD7h hM7h hS6h
        go_wp2_with fail
        go_roundg (ids.length - (k + 1))
        case measure => have := hgkh.out; omega
        case rel => exact ⟨k + 1, _, _, _, a8, c8, n + 1, _, _, by omega, rfl, by rw [List.length_append, List.length_singleton, hnLh.out], hfin.out⟩
    · have hd : decide (k < ids.length) = false := decide_eq_false hlt
      have hkn : k = ids.length := by omega
      subst hkn
      go_wp2_with fail
      refine (unhide hnext).mono ?_
      rintro e w4 ⟨rfl, hg4, _⟩
      have hfin : Hid (∃ (la : Option Addr) (lc : Nat) (vs : List Value) (L : List (List Int)), CLAt w4 A lb (.slice la L.length lc) vs L ∧ DAll (succOf ids outs) ids ids.length L ∧ Below A w w4) := by
        have hS := hSh.out
        have hib1 := hS.it.1
        have hib2 := hS.it.2.1
        refine ⟨la, lc, vs, L, ?_, hS.all, hS.low.grown hg4 hS.sz.2.1 (fun j e => by injection e with e; omega)⟩
        have := hS.lat.same (w' := w4) (fun j hj => hg4.block j (hS.lat.lt j hj) (fun e => by injection e with e; have := (hS.fl j hj).2.2.1; omega))
        rw [hnLh.out] at this
        exact this
      clear hg4 hnext hSh
      go_wp2_with fail
      go_end0
      exact ⟨rfl, hfin.out⟩
end Go.Proofs.YthpjmjohdliohaaGreat
