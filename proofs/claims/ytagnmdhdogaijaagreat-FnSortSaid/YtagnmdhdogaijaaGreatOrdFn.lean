/- laws.ordered: the walk, at the answer of impl.Sort. -/
import Derived.Test.YtagnmdhdogaijaaGreatOrdered
import Derived.Deep.DeepCutAuto
import Derived.Deep.RegionHeld3
namespace Go.Proofs.YtagnmdhdogaijaaGreat
open Go.RowKit

theorem rows_heads {w : World} {B : Nat} {vs : List Value} {C : List (List Int)} {hs : List Int} {fc : Int → List Int} (hr : IRows w B vs C) (hnd : hs.Nodup) (h1 : C = hs.map fc) (h2 : ∀ x ∈ hs, ∃ t, fc x = x :: t) (h3 : ∀ c ∈ C, c.length ≤ 1000) :
    ∃ fv : Int → Value, vs = hs.map fv ∧ HRows w hs fv fc := by
  have hl : vs.length = hs.length := by rw [hr.1, h1, List.length_map]
  have hat : ∀ {i : Nat} (hi : i < hs.length), hs.idxOf hs[i] = i := fun {i} hi => by
    have hlt := List.idxOf_lt_length_of_mem (List.getElem_mem hi)
    exact (List.getElem_inj hnd).1 (List.getElem_idxOf hlt)
  have hfv : ∀ {i : Nat} (hi : i < hs.length), vs.getD (hs.idxOf hs[i]) .nilIface = vs[i]'(by omega) := fun {i} hi => by
    rw [hat hi]
    have : i < vs.length := by omega
    simp [this]
  refine ⟨fun x => vs.getD (hs.idxOf x) .nilIface, ?_, fun x hx => ?_⟩
  · refine List.ext_getElem (by rw [List.length_map]; exact hl) fun i h4 h5 => ?_
    rw [List.getElem_map]
    rw [List.length_map] at h5
    exact (hfv h5).symm
  · obtain ⟨i, hi, rfl⟩ := List.mem_iff_getElem.1 hx
    have hi' : i < vs.length := by omega
    have hiC : i < C.length := by rw [h1, List.length_map]; exact hi
    have hc : C[i] = fc hs[i] := by simp only [h1, List.getElem_map]
    have h0 := hr.2 i _ _ (List.getElem?_eq_getElem hi') (List.getElem?_eq_getElem hiC)
    obtain ⟨a, c, e, _, hcs, _⟩ := owns_cells h0
    obtain ⟨t, ht⟩ := h2 _ (List.getElem_mem hi)
    rw [hc] at e hcs
    refine ⟨a, c, t, (hfv hi).trans e, hcs, ht, ?_⟩
    rw [← hc]
    exact h3 _ (List.getElem_mem hiC)

set_option maxRecDepth 100000 in
set_option maxHeartbeats 8000000 in
theorem ordered_true (g : Gr) (an : Option Addr) (cn : Nat) (ae : Option Addr) (ce : Nat) (a1 : Option Addr) (n1 c1 : Nat) (a2 : Option Addr) (n2 c2 B : Nat) (vs : List Value) (w : World) (hn : g.nodes.length ≤ 1000) (he : g.edges.length ≤ 1048576) (hg : GrAt w g an cn ae) (hok : okGraph g = true)
    (hn1 : n1 = (gComps g).length) (hn2 : n2 = (cycP g).length) (ho1 : w.ownsRow B 48 2 (.slice a1 n1 c1) n1 (slotCells ((gComps g).map topO).reverse)) (ho2 : w.ownsRow B 22 1 (.slice a2 n2 c2) n2 vs) (hr2 : IRows w B vs (cycP g)) :
    Calls Tryz.prog 13 #[.agg #[.bool g.dir, .slice an g.nodes.length cn, .slice ae g.edges.length ce], .slice a1 n1 c1, .slice a2 n2 c2, .bool ((n2 : Int) == 0)] w
      fun e w' => e = .returned (.bool true) ∧ Below w.heap.size w w' := by
  obtain ⟨w1, hw1⟩ : ∃ w1, w1 = w.alloc (.cells #[.bool g.dir, .slice an g.nodes.length cn, .slice ae g.edges.length ce] 25) := ⟨_, rfl⟩
  have hb1 : Below w.heap.size w w1 := by rw [hw1]; exact alloc_below w _
  have hz1 : w1.heap.size = w.heap.size + 1 := by rw [hw1]; simp
  have k1 : w1.cell? ⟨w.heap.size, 1, none⟩ = some (.slice an g.nodes.length cn) := by rw [hw1]; simp
  have k2 : w1.cell? ⟨w.heap.size, 2, none⟩ = some (.slice ae g.edges.length ce) := by rw [hw1]; simp
  have hord := order_ok hok
  obtain ⟨fc, hfc1, hfc2, hfc3⟩ := want_ok hok
  obtain ⟨hhn, hC⟩ := heads_ok hok
  have hcl := cycP_filter g
  have hPn : (parP g).length = n1 := by rw [parP_length]; exact hn1.symm
  have hfl : (parP g).flatten.length = g.nodes.length := by
    have := congrArg List.length (par_perm hord)
    rwa [asc_length, asc_length] at this
  have hn11 : n1 ≤ 1000 := by
    have h1 := hord.cnt
    have h2 : (gSccs g).length = n1 := by rw [hn1]; unfold gSccs; rw [List.length_map]; rfl
    omega
  have hheads : (headsP g).length = n2 := by rw [hn2]; unfold headsP; rw [List.length_map]
  have hn22 : n2 ≤ 1000 := by
    rw [hn2, hcl]
    exact Nat.le_trans (List.length_filter_le _ _) (by rw [hPn]; exact hn11)
  have hplen : ∀ c ∈ parP g, c.length ≤ 1000 := fun c hc => by
    have := mem_len hc
    omega
  have hclen : ∀ c ∈ cycP g, c.length ≤ 1000 := fun c hc => hplen c (by rw [hcl] at hc; exact (List.mem_filter.1 hc).1)
  have hK : Hid (∀ wr, Below w1.heap.size w1 wr → Below w.heap.size w wr ∧ GrAt wr g an cn ae ∧ wr.cell? ⟨w.heap.size, 1, none⟩ = some (.slice an g.nodes.length cn) ∧ wr.cell? ⟨w.heap.size, 2, none⟩ = some (.slice ae g.edges.length ce)) :=
    fun wr h => ⟨hb1.trans (h.mono (by omega)), (hg.below hb1).below h, cell_below h k1, cell_below h k2⟩
  -- Sort's answer as it is read
  have hS : Hid (∀ k, k < n1 → ∀ W, Below w1.heap.size w1 W → ∃ b, a1 = some ⟨b, 0, none⟩ ∧ W.cell? ⟨b, k * 2, none⟩ = some (.bool (decide (((parP g).getD k []).length ≠ 1))) ∧ W.cell? ⟨b, k * 2 + 1, none⟩ = some (.int .i64 (if ((parP g).getD k []).length = 1 then ((parP g).getD k []).headD 0 else 0))) := fun k hk W hW => by
    have hbw : Below w.heap.size w W := hb1.trans (hW.mono (by omega))
    obtain ⟨b, rfl, _⟩ := owns_at ho1 (by omega)
    have hk' : k < (parP g).length := by omega
    have hgd : (parP g).getD k [] = (parP g)[k] := by simp [hk']
    obtain ⟨s1, s2⟩ := slotCells_get _ k _ (slot_at g hk')
    rw [hgd]
    refine ⟨b, rfl, ?_, ?_⟩
    · rw [cell_below hbw (owns_cell ho1 s1)]
      by_cases h : (parP g)[k].length = 1 <;> simp [h]
    · rw [cell_below hbw (owns_cell ho1 s2)]
      by_cases h : (parP g)[k].length = 1 <;> simp [h]
  have hY : Hid (∀ j, j < n2 → ∃ b ax cx, a2 = some ⟨b, 0, none⟩ ∧ vs[j]? = some (.slice ax ((cycP g).getD j []).length cx) ∧ ∀ W, Below w1.heap.size w1 W → W.cell? ⟨b, j, none⟩ = some (.slice ax ((cycP g).getD j []).length cx) ∧ Cells W ax (ints ((cycP g).getD j []))) := fun j hj => by
    obtain ⟨b, rfl, _⟩ := owns_at ho2 (by omega)
    have hj' : j < (cycP g).length := by omega
    have hgd : (cycP g).getD j [] = (cycP g)[j] := by simp [hj']
    have hv : vs[j]? = some (vs[j]'(by rw [hr2.1]; exact hj')) := List.getElem?_eq_getElem _
    obtain ⟨ax, cx, e, _, hcs, _⟩ := owns_cells (hr2.2 j _ _ hv (List.getElem?_eq_getElem hj'))
    rw [e] at hv
    rw [hgd]
    refine ⟨b, ax, cx, rfl, hv, fun W hW => ?_⟩
    have hbw : Below w.heap.size w W := hb1.trans (hW.mono (by omega))
    exact ⟨cell_below hbw (owns_cell ho2 hv), hcs.below hbw⟩
  obtain ⟨fv, hfv1, hHR⟩ := rows_heads hr2 hhn hfc1 hfc2 hclen
  have hcyc := cyclicOf_any g an cn ae ce w1 hn he (hg.below hb1) hok
  have hml : (cycG g).length = n2 := by rw [hfc3, List.length_map, asc_length]; exact hheads
  have hsl : Hid (∀ W, Below w1.heap.size w1 W → Calls Tryz.prog 33 #[.slice a2 n2 c2] W fun e w' => ∃ a' cap', e = .returned (.slice a' n2 cap') ∧ w'.ownsRow W.heap.size 22 1 (.slice a' n2 cap') n2 ((asc (headsP g)).map fv) ∧ Below W.heap.size W w') := fun W hW => by
    have hbw : Below w.heap.size w W := hb1.trans (hW.mono (by omega))
    refine sortedLists_any B a2 n2 c2 (headsP g) fv fc W hheads.symm (by omega) ?_ (hHR.below hbw) hhn
    rw [← hfv1]
    exact owns_same ho2 fun j hj => hbw.block j (ho2.lt j hj).2
  have hHRh : Hid (∀ W, Below w1.heap.size w1 W → HRows W (headsP g) fv fc) := fun W hW => hHR.below (hb1.trans (hW.mono (by omega)))
  have hfc3h := Lib.hid hfc3
  have hclh := Lib.hid hcl
  have hordh := Lib.hid hord
  have hplenh := Lib.hid hplen
  rw [hw1] at hcyc
  have hcych := Lib.hid hcyc
  have hw1h := Lib.hid hw1
  have hokh := Lib.hid hok
  have hb1h := Lib.hid hb1
  have hn2h : Hid (n2 = (cycP g).length) := hn2
  clear hcyc hg ho1 ho2 hr2 hfc1 hfc2 hfc3 hhn hC hcl hHR hfv1 hord hplen hclen k1 k2 hw1 hok hb1 hn1 hn2
  go_enter Tryz.func13, Tryz.ntmps13
  go_wp2_with fail
  refine (unhide hcych).mono ?_
  rintro e w2 ⟨b, cb, D, vsW, rfl, how, hgW, hD, hD2, hb2⟩
  rw [← hw1h.out] at hb2
  rw [hml] at how ⊢
  have hs2 := Lib.hid (hsl.out w2 hb2)
  have howh := Lib.hid how
  have hgWh := Lib.hid hgW
  have hb2h := Lib.hid hb2
  clear how hgW hD hD2 hb2 hcych hsl
  go_wp2_with fail
  refine (unhide hs2).mono ?_
  rintro e w3 ⟨a3, c3, rfl, own3, hb3⟩
  have hb3' : Below w1.heap.size w1 w3 := hb2h.out.trans (hb3.mono hb2h.out.size)
  have hsame : Hid (Calls Tryz.prog 32 #[.slice a3 n2 c3, .slice b n2 cb] w3 fun e w' => e = .returned (.bool true) ∧ ∃ q, w' = w3.drewN q) := by
    have hC : ∀ {W : World} {B e n : Nat} {ad : Option Addr} {cp : Nat} {zs : List Value}, W.ownsRow B e 1 (.slice ad n cp) n zs → Cells W ad zs := fun {W B e n ad cp zs} h => by
      obtain ⟨aa, ca, he, _, hc, _⟩ := owns_cells h
      injection he with he1 _ _
      rw [he1]; exact hc
    have hH3 := hHRh.out w3 hb3'
    refine sameLists_true a3 b c3 cb n2 ((asc (headsP g)).map fv) vsW (cycG g) w3 hml.symm (by omega) (fun c hc => ?_) (hC own3) ((hC howh.out).below hb3) (by rw [List.length_map, asc_length]; exact hheads) (by rw [hgWh.out.1]; exact hml) (fun k hk => ?_) (fun k hk => ?_)
    · rw [hfc3h.out] at hc
      obtain ⟨x, hx, rfl⟩ := List.mem_map.1 hc
      obtain ⟨_, _, _, _, _, _, h⟩ := hH3 x (asc_mem.1 hx)
      exact h
    · have hk' : k < (asc (headsP g)).length := by rw [hml] at hk; rw [asc_length]; omega
      obtain ⟨ax, cx, t, h1, h2, _, _⟩ := hH3 _ (asc_mem.1 (List.getElem_mem hk'))
      have e : (cycG g)[k] = fc (asc (headsP g))[k] := by simp only [hfc3h.out, List.getElem_map]
      rw [e]
      exact ⟨ax, cx, by rw [List.getElem?_map, List.getElem?_eq_getElem hk']; exact congrArg some h1, h2⟩
    · have hkv : k < vsW.length := by rw [hgWh.out.1]; exact hk
      have h0 := hgWh.out.2 k _ _ (List.getElem?_eq_getElem hkv) (List.getElem?_eq_getElem hk)
      obtain ⟨ax, cx, e, _, hcs, _⟩ := owns_cells h0
      exact ⟨ax, cx, by rw [List.getElem?_eq_getElem hkv, e], hcs.below hb3⟩
  have hb3h := Lib.hid hb3'
  clear hb3 hb3' own3 hs2 howh hgWh
  go_wp2_with fail
  refine (unhide hsame).mono ?_
  rintro e w4 ⟨rfl, q, hw4⟩
  have hb4 : Hid (Below w1.heap.size w1 w4) := by unfold Hid; rw [hw4]; exact below_draws hb3h.out _
  obtain ⟨P, hP⟩ : ∃ P, P = parP g := ⟨_, rfl⟩
  obtain ⟨C, hCC⟩ : ∃ C, C = cycP g := ⟨_, rfl⟩
  have hPh := Lib.hid hP
  rw [← hP] at hPn hfl hS hclh hplenh
  rw [← hCC] at hY hclh hn2h
  have hS4 : Hid (∀ k, k < n1 → ∀ W, Below w4.heap.size w4 W → ∃ b, a1 = some ⟨b, 0, none⟩ ∧ W.cell? ⟨b, k * 2, none⟩ = some (.bool (decide ((P.getD k []).length ≠ 1))) ∧ W.cell? ⟨b, k * 2 + 1, none⟩ = some (.int .i64 (if (P.getD k []).length = 1 then (P.getD k []).headD 0 else 0))) := fun k hk W hW =>
    hS.out k hk W (hb4.out.trans (hW.mono hb4.out.size))
  have hY4 : Hid (∀ j, j < n2 → ∃ b ax cx, a2 = some ⟨b, 0, none⟩ ∧ ∀ W, Below w4.heap.size w4 W → W.cell? ⟨b, j, none⟩ = some (.slice ax (C.getD j []).length cx) ∧ Cells W ax (ints (C.getD j []))) := fun j hj => by
    obtain ⟨b, ax, cx, e1, _, h⟩ := hY.out j hj
    exact ⟨b, ax, cx, e1, fun W hW => h W (hb4.out.trans (hW.mono hb4.out.size))⟩
  have hK4 : Hid (∀ W, Below w4.heap.size w4 W → Below w.heap.size w W ∧ GrAt W g an cn ae ∧ W.cell? ⟨w.heap.size, 1, none⟩ = some (.slice an g.nodes.length cn) ∧ W.cell? ⟨w.heap.size, 2, none⟩ = some (.slice ae g.edges.length ce)) := fun W hW =>
    hK.out W (hb4.out.trans (hW.mono hb4.out.size))
  have hPnh := Lib.hid hPn
  have hflh := Lib.hid hfl
  clear hw4 hsame hS hY hK hP hCC hb3h hb2h hHRh hfc3h hPn hfl hml hheads
  go_wp2_with fail
  go_loopw [10, 11, 12, 13, 14, 15] (fun sa sp nv kv _ _ wr => ∃ (k : Nat) (ba bp : Option Addr) (ca cp : Nat), k ≤ n1 ∧ kv = .int .i64 k ∧ nv = .int .i64 (nTo P k) ∧ sa = .slice ba (allTo P k).length ca ∧ sp = .slice bp (allTo P k).length cp ∧
    TwoI w4 wr w4.heap.size (.slice ba (allTo P k).length ca) (.slice bp (allTo P k).length cp) (allTo P k).length (allTo P k) (plTo P k)) (fun _ _ _ kv _ _ _ => n1 - (intOf kv).toNat)
  case atStart => exact ⟨0, none, none, 0, 0, Nat.zero_le _, rfl, rfl, rfl, rfl, World.ownsRow_nil _ _ _ _, World.ownsRow_nil _ _ _ _, fun j hj => by simp [Value.ownBlock] at hj, Below.refl _ _, Nat.le_refl _⟩
  case round =>
    obtain ⟨k, ba, bp, ca, cp, hk, rfl, rfl, rfl, rfl, hT⟩ := hrel
    by_cases hlt : k < n1
    · obtain ⟨wr0, hwr0⟩ : ∃ wr0, wr0 = wr := ⟨_, rfl⟩
      subst hwr0
      obtain ⟨ob, rfl, x1, x2⟩ := hS4.out k hlt wr0 hT.below
      have hkP : k < P.length := by rw [hPnh.out]; exact hlt
      have hgd : P.getD k [] = P[k] := by simp [hkP]
      rw [hgd] at x1 x2
      have hal := allTo_succ hkP
      have hpl := plTo_succ hkP
      have hno := fun h => nTo_one hkP h
      have hnm := fun h => nTo_more hkP h
      have hcne : P[k] ≠ [] := by
        refine hordh.out.ne _ ?_
        have hm := List.getElem_mem hkP
        have e : P = (gSccs g).reverse := by rw [hPh.out]; rfl
        have hm2 : P[k] ∈ (gSccs g).reverse := by rw [← e]; exact hm
        exact List.mem_reverse.1 hm2
      have hsum : (allTo P k).length + P[k].length ≤ 1000 := by
        have h1 : (allTo P (k + 1)).length ≤ P.flatten.length := by
          have e : P.flatten = allTo P (k + 1) ++ (P.drop (k + 1)).flatten := by unfold allTo; rw [← List.flatten_append, List.take_append_drop]
          rw [e, List.length_append]; omega
        rw [hal, List.length_append, hflh.out] at h1
        omega
      obtain ⟨c, hc⟩ : ∃ c, c = P[k] := ⟨_, rfl⟩
      obtain ⟨X, hX⟩ : ∃ X, X = allTo P k := ⟨_, rfl⟩
      obtain ⟨Y, hY⟩ : ∃ Y, Y = plTo P k := ⟨_, rfl⟩
      obtain ⟨N, hN⟩ : ∃ N, N = nTo P k := ⟨_, rfl⟩
      have hN1000 : N ≤ 1000 := by
        rw [hN]
        unfold nTo
        exact Nat.le_trans (List.length_filter_le _ _) (by rw [List.length_take]; omega)
      rw [← hc] at x1 x2 hal hpl hno hnm hcne hsum
      rw [← hX] at hal hsum hT ⊢
      rw [← hY] at hpl hT
      rw [← hN] at hno hnm ⊢
      have halh : Hid (allTo P (k + 1) = X ++ c) := hal
      have hplh : Hid (plTo P (k + 1) = Y ++ List.replicate c.length (k : Int)) := hpl
      have hTh := Lib.hid hT
      clear hT hal hpl hgd hc hX hY hN hkP
      by_cases h1 : c.length = 1
      · have hnn : Hid (nTo P (k + 1) = N) := hno h1
        obtain ⟨z, hz⟩ := List.length_eq_one_iff.1 h1
        have hGh := Lib.hid (hTh.out.new z 3)
        rw [← hz] at hGh
        have d1 : decide (c.length ≠ 1) = false := by rw [h1]; rfl
        rw [d1] at x1
        rw [if_pos h1] at x2
        have d2 : c.headD 0 = z := by rw [hz]; rfl
        rw [d2] at x2
        have h1h : Hid (1 = c.length) := h1.symm
        have x1a := cell_alloc x1 (.cells #[.int .i64 z] 3)
        clear hno hnm d1 d2 hz hTh h1
        go_wp2_with fail
        go_loopw [10, 11, 15] (fun sa sp iv wr => ∃ (i : Nat) (ba bp : Option Addr) (ca cp : Nat), i ≤ 1 ∧ iv = .int .i64 i ∧ sa = .slice ba (X.length + i) ca ∧ sp = .slice bp (X.length + i) cp ∧
          Gath w4 wr w4.heap.size (.slice ba (X.length + i) ca) (.slice bp (X.length + i) cp) (X.length + i) (X.length + i) (X ++ c.take i) (Y ++ List.replicate i (k : Int)) wr0.heap.size 0 c) (fun _ _ iv _ => 1 - (intOf iv).toNat)
        case atStart => exact ⟨0, ba, bp, ca, cp, Nat.zero_le _, rfl, rfl, rfl, by rw [List.take_zero, List.append_nil, List.replicate_zero, List.append_nil]; exact hGh.out⟩
        case round =>
          clear hGh
          obtain ⟨i, ba, bp, ca, cp, hi, rfl, rfl, rfl, hG⟩ := hrel
          by_cases hli : i < 1
          · have hlc : i < c.length := by have := h1h.out; omega
            have xr := hG.r i _ (ints_get c i hlc)
            try rw [Nat.zero_add] at xr
            have htk : c.take (i + 1) = c.take i ++ [c[i]] := List.take_succ_eq_append_getElem hlc
            obtain ⟨z, hz⟩ : ∃ z, z = c[i] := ⟨_, rfl⟩
            rw [← hz] at xr htk
            have hs0 : Hid (∀ o, (wr.alloc o).ownsRow w4.heap.size 3 1 (.slice ba (X.length + i) ca) (X.length + i) (ints (X ++ c.take i))) := fun o => hG.a.alloc o
            have hDw := hG.hD
            have hst : Hid (∀ o b1 c1 w5, (wr.alloc o).grownBy w5 (Value.slice ba (X.length + i) ca).ownBlock → w5.ownsRow w4.heap.size 3 1 (.slice b1 (X.length + i + 1) c1) (X.length + i + 1) (ints (X ++ c.take i) ++ [.int .i64 z]) → (b1 = ba ∨ b1 = some ⟨(wr.alloc o).heap.size, 0, none⟩) →
                (∀ o, (w5.alloc o).ownsRow w4.heap.size 3 1 (.slice bp (X.length + i) cp) (X.length + i) (ints (Y ++ List.replicate i (k : Int)))) ∧ w4.heap.size ≤ w5.heap.size ∧
                ∀ o b2 c2 w6, (w5.alloc o).grownBy w6 (Value.slice bp (X.length + i) cp).ownBlock → w6.ownsRow w4.heap.size 3 1 (.slice b2 (X.length + i + 1) c2) (X.length + i + 1) (ints (Y ++ List.replicate i (k : Int)) ++ [.int .i64 (k : Int)]) → (b2 = bp ∨ b2 = some ⟨(w5.alloc o).heap.size, 0, none⟩) →
                  Gath w4 w6 w4.heap.size (.slice b1 (X.length + (i + 1)) c1) (.slice b2 (X.length + (i + 1)) c2) (X.length + (i + 1)) (X.length + (i + 1)) (X ++ c.take (i + 1)) (Y ++ List.replicate (i + 1) (k : Int)) wr0.heap.size 0 c) := fun o b1 c1 w5 hg5 ho5 hat5 => by
              have G5 := hG.pushA hg5 ho5 hat5
              refine ⟨fun o => G5.p.alloc o, G5.hD, fun o b2 c2 w6 hg6 ho6 hat6 => ?_⟩
              have G6 := G5.pushP hg6 ho6 hat6
              rw [htk, List.replicate_succ', ← List.append_assoc, ← List.append_assoc]
              exact G6
            clear hG htk hz
            go_wp2_with (first
              | (at_builtin; refine append_law 22 3 (.int .i64 0) 1 8 Tryz.underlying22 info_int rfl (by omega) (by omega) rfl _ _ rfl w4.heap.size ba (X.length + i) ca (ints (X ++ c.take i)) rfl (unhide hs0 _) ⟨wr.heap.size, 0, none⟩ 1 1 [.int .i64 z] rfl rfl (new_one wr _ _) (one_int _) (by omega) (by simp; omega) ?_; intro b1 c1 w5 hown5 hg5 hat5; have hq := Lib.hid (hst.out _ _ _ _ hg5 hown5 hat5); clear hown5 hg5 hat5; obtain ⟨hp0, hz5, hn0⟩ := hq.out; have hp1 := Lib.hid hp0; have hn1 := Lib.hid hn0; clear hp0 hn0 hq)
              | (at_builtin; refine append_law 22 3 (.int .i64 0) 1 8 Tryz.underlying22 info_int rfl (by omega) (by omega) rfl _ _ rfl w4.heap.size bp (X.length + i) cp (ints (Y ++ List.replicate i (k : Int))) rfl (unhide hp1 _) ⟨w5.heap.size, 0, none⟩ 1 1 [.int .i64 (k : Int)] rfl rfl (new_one w5 _ _) (one_int _) (by omega) (by simp; omega) ?_; intro b2 c2 w6 hown6 hg6 hat6; have hf := Lib.hid (hn1.out _ _ _ _ hg6 hown6 hat6); clear hown6 hg6 hat6))
            go_roundw
            case rel => exact ⟨i + 1, b1, b2, c1, c2, by omega, by go_num, by rw [Nat.add_assoc], by rw [Nat.add_assoc], hf.out⟩
            case measure => simp [intOf]; omega
          · have him : i = c.length := by have := h1h.out; omega
            have hTn : Hid (TwoI w4 wr w4.heap.size (.slice ba (allTo P (k + 1)).length ca) (.slice bp (allTo P (k + 1)).length cp) (allTo P (k + 1)).length (allTo P (k + 1)) (plTo P (k + 1))) := by
              have := hG.two
              rw [him, List.take_length] at this
              have e : (allTo P (k + 1)).length = X.length + c.length := by rw [halh.out, List.length_append]
              unfold Hid
              rw [e, halh.out, hplh.out]
              exact this
            have hle : Hid (X.length + i = (allTo P (k + 1)).length) := by unfold Hid; rw [halh.out, List.length_append, him]
            clear hG
            go_wp2_with fail
            go_roundw
            case rel => exact ⟨k + 1, ba, bp, ca, cp, by omega, by go_num, by rw [hnn.out], by rw [hle.out], by rw [hle.out], hTn.out⟩
            case measure => simp [intOf]; omega
      · obtain ⟨hnn0, hget⟩ := hnm h1
        rw [← hclh.out] at hget
        have hnn : Hid (nTo P (k + 1) = N + 1) := hnn0
        have hNl : N < C.length := (List.getElem?_eq_some_iff.1 hget).1
        have hN2 : N < n2 := by rw [hn2h.out]; exact hNl
        obtain ⟨ob2, ax, cx, rfl, hrow⟩ := hY4.out N hN2
        have hgC : C.getD N [] = c := by rw [List.getD_eq_getElem?_getD, hget]; rfl
        rw [hgC] at hrow
        obtain ⟨_, hcs4⟩ := hrow w4 (Below.refl _ _)
        obtain ⟨pb, po, rfl, hpb, hr4⟩ := hcs4.at (by rw [ints_length]; exact List.length_pos_iff.2 hcne)
        have hGh := Lib.hid (hTh.out.old (.cells #[.int .i64 0] 3) hr4 hpb)
        obtain ⟨y1, _⟩ := hrow (wr0.alloc (.cells #[.int .i64 0] 3)) (hTh.out.below.alloc hTh.out.hD _)
        have d1 : decide (c.length ≠ 1) = true := decide_eq_true h1
        rw [d1] at x1
        rw [if_neg h1] at x2
        have x1a := cell_alloc x1 (.cells #[.int .i64 0] 3)
        have hd3 : decide (n2 ≤ N) = false := decide_eq_false (by omega)
        have hd4 : ¬ n2 ≤ N := by omega
        have hd5 : ¬ (n2 : Int) ≤ (N : Int) := by omega
        obtain ⟨m, hm⟩ : ∃ m, m = c.length := ⟨_, rfl⟩
        rw [← hm] at y1
        have h1h := Lib.hid hm
        clear hno hnm d1 hTh h1 hm hget hnn0 hrow hcs4 hr4 hpb hgC
        go_wp2_with fail
        go_loopw [10, 11, 15] (fun sa sp iv wr => ∃ (i : Nat) (ba bp : Option Addr) (ca cp : Nat), i ≤ m ∧ iv = .int .i64 i ∧ sa = .slice ba (X.length + i) ca ∧ sp = .slice bp (X.length + i) cp ∧
          Gath w4 wr w4.heap.size (.slice ba (X.length + i) ca) (.slice bp (X.length + i) cp) (X.length + i) (X.length + i) (X ++ c.take i) (Y ++ List.replicate i (k : Int)) pb po c) (fun _ _ iv _ => m - (intOf iv).toNat)
        case atStart => exact ⟨0, ba, bp, ca, cp, Nat.zero_le _, rfl, rfl, rfl, by rw [List.take_zero, List.append_nil, List.replicate_zero, List.append_nil]; exact hGh.out⟩
        case round =>
          clear hGh
          obtain ⟨i, ba, bp, ca, cp, hi, rfl, rfl, rfl, hG⟩ := hrel
          by_cases hli : i < m
          · have hlc : i < c.length := by have := h1h.out; omega
            have xr := hG.r i _ (ints_get c i hlc)
            try rw [Nat.zero_add] at xr
            have htk : c.take (i + 1) = c.take i ++ [c[i]] := List.take_succ_eq_append_getElem hlc
            obtain ⟨z, hz⟩ : ∃ z, z = c[i] := ⟨_, rfl⟩
            rw [← hz] at xr htk
            have hs0 : Hid (∀ o, (wr.alloc o).ownsRow w4.heap.size 3 1 (.slice ba (X.length + i) ca) (X.length + i) (ints (X ++ c.take i))) := fun o => hG.a.alloc o
            have hDw := hG.hD
            have hst : Hid (∀ o b1 c1 w5, (wr.alloc o).grownBy w5 (Value.slice ba (X.length + i) ca).ownBlock → w5.ownsRow w4.heap.size 3 1 (.slice b1 (X.length + i + 1) c1) (X.length + i + 1) (ints (X ++ c.take i) ++ [.int .i64 z]) → (b1 = ba ∨ b1 = some ⟨(wr.alloc o).heap.size, 0, none⟩) →
                (∀ o, (w5.alloc o).ownsRow w4.heap.size 3 1 (.slice bp (X.length + i) cp) (X.length + i) (ints (Y ++ List.replicate i (k : Int)))) ∧ w4.heap.size ≤ w5.heap.size ∧
                ∀ o b2 c2 w6, (w5.alloc o).grownBy w6 (Value.slice bp (X.length + i) cp).ownBlock → w6.ownsRow w4.heap.size 3 1 (.slice b2 (X.length + i + 1) c2) (X.length + i + 1) (ints (Y ++ List.replicate i (k : Int)) ++ [.int .i64 (k : Int)]) → (b2 = bp ∨ b2 = some ⟨(w5.alloc o).heap.size, 0, none⟩) →
                  Gath w4 w6 w4.heap.size (.slice b1 (X.length + (i + 1)) c1) (.slice b2 (X.length + (i + 1)) c2) (X.length + (i + 1)) (X.length + (i + 1)) (X ++ c.take (i + 1)) (Y ++ List.replicate (i + 1) (k : Int)) pb po c) := fun o b1 c1 w5 hg5 ho5 hat5 => by
              have G5 := hG.pushA hg5 ho5 hat5
              refine ⟨fun o => G5.p.alloc o, G5.hD, fun o b2 c2 w6 hg6 ho6 hat6 => ?_⟩
              have G6 := G5.pushP hg6 ho6 hat6
              rw [htk, List.replicate_succ', ← List.append_assoc, ← List.append_assoc]
              exact G6
            clear hG htk hz
            go_wp2_with (first
              | (at_builtin; refine append_law 22 3 (.int .i64 0) 1 8 Tryz.underlying22 info_int rfl (by omega) (by omega) rfl _ _ rfl w4.heap.size ba (X.length + i) ca (ints (X ++ c.take i)) rfl (unhide hs0 _) ⟨wr.heap.size, 0, none⟩ 1 1 [.int .i64 z] rfl rfl (new_one wr _ _) (one_int _) (by omega) (by simp; omega) ?_; intro b1 c1 w5 hown5 hg5 hat5; have hq := Lib.hid (hst.out _ _ _ _ hg5 hown5 hat5); clear hown5 hg5 hat5; obtain ⟨hp0, hz5, hn0⟩ := hq.out; have hp1 := Lib.hid hp0; have hn1 := Lib.hid hn0; clear hp0 hn0 hq)
              | (at_builtin; refine append_law 22 3 (.int .i64 0) 1 8 Tryz.underlying22 info_int rfl (by omega) (by omega) rfl _ _ rfl w4.heap.size bp (X.length + i) cp (ints (Y ++ List.replicate i (k : Int))) rfl (unhide hp1 _) ⟨w5.heap.size, 0, none⟩ 1 1 [.int .i64 (k : Int)] rfl rfl (new_one w5 _ _) (one_int _) (by omega) (by simp; omega) ?_; intro b2 c2 w6 hown6 hg6 hat6; have hf := Lib.hid (hn1.out _ _ _ _ hg6 hown6 hat6); clear hown6 hg6 hat6))
            go_roundw
            case rel => exact ⟨i + 1, b1, b2, c1, c2, by omega, by go_num, by rw [Nat.add_assoc], by rw [Nat.add_assoc], hf.out⟩
            case measure => simp [intOf]; omega
          · have him : i = c.length := by have := h1h.out; omega
            have hTn : Hid (TwoI w4 wr w4.heap.size (.slice ba (allTo P (k + 1)).length ca) (.slice bp (allTo P (k + 1)).length cp) (allTo P (k + 1)).length (allTo P (k + 1)) (plTo P (k + 1))) := by
              have := hG.two
              rw [him, List.take_length] at this
              have e : (allTo P (k + 1)).length = X.length + c.length := by rw [halh.out, List.length_append]
              unfold Hid
              rw [e, halh.out, hplh.out]
              exact this
            have hle : Hid (X.length + i = (allTo P (k + 1)).length) := by unfold Hid; rw [halh.out, List.length_append, him]
            clear hG
            go_wp2_with fail
            go_roundw
            case rel => exact ⟨k + 1, ba, bp, ca, cp, by omega, by go_num, by rw [hnn.out]; go_num, by rw [hle.out], by rw [hle.out], hTn.out⟩
            case measure => simp [intOf]; omega
    · have hkn : n1 = k := by omega
      subst hkn
      have e1 : allTo P n1 = P.flatten := by rw [← hPnh.out]; exact allTo_end P
      have e2 : plTo P n1 = plFrom 0 P := by rw [← hPnh.out]; exact plTo_end P
      have e3 : nTo P n1 = n2 := by
        rw [← hPnh.out, nTo_end, ← hclh.out]
        exact hn2h.out.symm
      have hper : asc P.flatten = asc g.nodes := by rw [hPh.out]; exact par_perm hordh.out
      have hedge : Hid (∀ i (hi : i < g.edges.length), ∃ p q kp kq : Nat, idxI P.flatten g.edges[i].1 = p ∧ idxI P.flatten g.edges[i].2.1 = q ∧ p < P.flatten.length ∧ q < P.flatten.length ∧ (plFrom 0 P)[p]? = some (kp : Int) ∧ (plFrom 0 P)[q]? = some (kq : Int) ∧ kp ≤ kq) := fun i hi => by
        rw [hPh.out]; exact ord_edge hokh.out hi
      rw [e1, e2] at hT
      rw [e1, e3]
      have hFl : P.flatten.length ≤ 1000 := by rw [hflh.out]; exact hn
      obtain ⟨F, hF⟩ : ∃ F, F = P.flatten := ⟨_, rfl⟩
      obtain ⟨L, hL⟩ : ∃ L, L = plFrom 0 P := ⟨_, rfl⟩
      rw [← hF] at hT hper hedge hFl ⊢
      rw [← hL] at hT hedge
      have hperh := Lib.hid hper
      have hTh := Lib.hid hT
      obtain ⟨hbw, hgr, m1, m2⟩ := hK4.out wr hT.below
      have hC : Hid (∀ {W : World} {B e n : Nat} {ad : Option Addr} {cp : Nat} {zs : List Value}, W.ownsRow B e 1 (.slice ad n cp) n zs → Cells W ad zs ∧ (ad = none → cp = 0)) := fun {W B e n ad cp zs} h => by
        obtain ⟨aa, ca, he, h0, hc, _⟩ := owns_cells h
        injection he with he1 _ he3
        exact ⟨by rw [he1]; exact hc, fun e => by rw [he3]; exact h0 (by rw [← he1]; exact e)⟩
      have hbwh := Lib.hid hbw
      have hgrh := Lib.hid hgr
      have hSA : Hid (∀ W, Below wr.heap.size wr W → Calls Tryz.prog 18 #[.slice ba F.length ca] W fun e w' => ∃ a' cap', e = .returned (.slice a' F.length cap') ∧ Cells w' a' (ints (asc F)) ∧ Below wr.heap.size wr w' ∧ w'.cell? ⟨w.heap.size, 1, none⟩ = some (.slice an g.nodes.length cn)) := fun W hW => by
        obtain ⟨h1, h2⟩ := hC.out hT.a
        refine (sorted_any ba _ ca F W rfl (by omega) (h1.below hW) h2).mono fun e w' ⟨a', c', h3, h4, _, h5⟩ => ?_
        have h6 := hW.trans (h5.mono hW.size)
        exact ⟨a', c', h3, (hC.out h4).1, h6, cell_below h6 m1⟩
      have hSN : Hid (∀ W, Below wr.heap.size wr W → Calls Tryz.prog 18 #[.slice an g.nodes.length cn] W fun e w' => ∃ a' cap', e = .returned (.slice a' g.nodes.length cap') ∧ Cells w' a' (ints (asc g.nodes)) ∧ Below W.heap.size W w' ∧ w'.cell? ⟨w.heap.size, 1, none⟩ = some (.slice an g.nodes.length cn)) := fun W hW => by
        have hgw := hgrh.out.below hW
        exact (sorted_any an _ cn g.nodes W rfl (by omega) hgw.nodes hgw.none).mono fun e w' ⟨a', c', h3, h4, _, h5⟩ => ⟨a', c', h3, (hC.out h4).1, h5, cell_below (hW.trans (h5.mono hW.size)) m1⟩
      have hEQ : Hid (∀ W a5 c5 a6 c6, Cells W a5 (ints (asc F)) → Cells W a6 (ints (asc g.nodes)) → Calls Tryz.prog 17 #[.slice a5 F.length c5, .slice a6 g.nodes.length c6] W fun e w' => e = .returned (.bool true) ∧ ∃ q, w' = W.drewN q) := fun W a5 c5 a6 c6 h5 h6 => by
        have := eqInts_any a5 a6 _ _ c5 c6 (asc F) (asc g.nodes) W (asc_length F).symm (asc_length g.nodes).symm (by rw [asc_length]; omega) (by rw [asc_length]; omega) h5 h6
        rw [decide_eq_true hperh.out] at this
        exact this
      clear hT hper hF hL e1 e2 e3 hbw hgr
      go_wp2_with fail
      go_cut [87] from 75 (fun s87 wx => s87 = .bool false ∧ Below wr.heap.size wr wx)
      case first =>
        go_region_held3 (fun w' => w'.cell? ⟨w.heap.size, 1, none⟩ = some (.slice an g.nodes.length cn)) (go_keep) (first
          | (go_at_call 18; ((with_reducible refine (hSA.out _ (by repeat (first | exact Below.refl _ _ | refine Below.drew ?_))).mono ?_)); rintro e w5 ⟨a5, c5, rfl, hc5, hb5, m5⟩)
          | (go_at_call 18; ((with_reducible refine (hSN.out w5 hb5).mono ?_)); rintro e w6 ⟨a6, c6, rfl, hc6, hb6, m6⟩)
          | (go_at_call 17; ((with_reducible refine (hEQ.out w6 _ _ _ _ (hc5.below hb6) hc6).mono ?_)); rintro e w7 ⟨rfl, q7, rfl⟩))
        all_goals go_wp2_with fail
        all_goals go_meet
        all_goals exact ⟨rfl, below_draws (hb5.trans (hb6.mono hb5.size)) _⟩
      case rest =>
      obtain ⟨rfl, hbc⟩ := hcut
      have hbch := Lib.hid hbc
      obtain ⟨wo, hwo⟩ : ∃ wo, wo = wr := ⟨_, rfl⟩
      subst hwo
      clear hSA hSN hEQ m1 m2 hbc
      have hB : Hid (Below w4.heap.size w4 wo) := hTh.out.below
      obtain ⟨_, _, m1, m2⟩ := hK4.out wc (hB.out.trans (hbch.out.mono hB.out.size))
      go_wp2_with fail
      go_loopw [16] (fun kv wx => ∃ (i : Nat), i ≤ g.edges.length ∧ kv = .int .i64 i ∧ Below wo.heap.size wo wx) (fun kv _ => g.edges.length - (intOf kv).toNat)
      case atStart => exact ⟨0, Nat.zero_le _, rfl, hbch.out⟩
      case round =>
        clear m1 m2
        obtain ⟨i, hi, rfl, hb⟩ := hrel
        have hb4r : Below w4.heap.size w4 wr := hB.out.trans (hb.mono hB.out.size)
        obtain ⟨hbw, hgi, m1, m2⟩ := hK4.out wr hb4r
        by_cases hli : i < g.edges.length
        · obtain ⟨p, q, kp, kq, ep, eq, hp, hq, gp, gq, hle⟩ := hedge.out i hli
          obtain ⟨be, off, rfl, _, hrg⟩ := hgi.edges.at (by rw [edgeCells_length]; omega)
          obtain ⟨x0, x1, _⟩ := edge_cells hrg hli
          have ownF : wr.ownsRow w4.heap.size 3 1 (.slice ba F.length ca) F.length (ints F) := owns_same hTh.out.a fun j hj => hb.block j (hTh.out.a.lt j hj).2
          have ownL : wr.ownsRow w4.heap.size 3 1 (.slice bp F.length cp) F.length (ints L) := owns_same hTh.out.p fun j hj => hb.block j (hTh.out.p.lt j hj).2
          have hcF := (hC.out ownF).1
          obtain ⟨gl, rfl, _⟩ := owns_at ownL (by omega)
          have y0 : wr.cell? ⟨gl, p, none⟩ = some (.int .i64 (kp : Int)) := owns_cell ownL (by unfold ints; rw [List.getElem?_map, gp]; rfl)
          have y1 : wr.cell? ⟨gl, q, none⟩ = some (.int .i64 (kq : Int)) := owns_cell ownL (by unfold ints; rw [List.getElem?_map, gq]; rfl)
          obtain ⟨U, hU⟩ : ∃ U, U = g.edges[i].1 := ⟨_, rfl⟩
          obtain ⟨V, hV⟩ : ∃ V, V = g.edges[i].2.1 := ⟨_, rfl⟩
          rw [← hU] at x0 ep
          rw [← hV] at x1 eq
          have hxU : Hid (∀ q, Calls Tryz.prog 21 #[.slice ba F.length ca, .int .i64 U] (wr.drewN q) fun e w' => e = .returned (.int .i64 (p : Int)) ∧ w' = wr.drewN q) := fun q =>
            (index_any ba _ ca F U _ rfl (by omega) (hcF.drewN q)).mono fun e w' ⟨h1, h2⟩ => ⟨by rw [h1, ep], h2.symm⟩
          have hxV : Hid (∀ q', Calls Tryz.prog 21 #[.slice ba F.length ca, .int .i64 V] (wr.drewN q') fun e w' => e = .returned (.int .i64 (q : Int)) ∧ w' = wr.drewN q') := fun q' =>
            (index_any ba _ ca F V _ rfl (by omega) (hcF.drewN q')).mono fun e w' ⟨h1, h2⟩ => ⟨by rw [h1, eq], h2.symm⟩
          have hbh := Lib.hid hb
          have hd1 : decide (kq < kp) = false := decide_eq_false (by omega)
          have hd2 : ¬ kq < kp := by omega
          have hd3 : ¬ (kq : Int) < (kp : Int) := by omega
          clear hU hV ownF ownL hcF hb hb4r hbw hgi hrg gp gq ep eq
          go_wp2_with fail
          go_quiet ((go_at_call 21; with_reducible first | exact Calls.quiet_of_same (hxU.out _) | exact Calls.quiet_of_same (hxV.out _)))
          clear x0 x1 y0 y1 hxU hxV
          go_wp2_with fail
          go_roundw
          case rel => exact ⟨i + 1, by omega, by go_num, below_draws hbh.out _⟩
          case measure => simp [intOf]; omega
        · have hfin : Hid (Below w.heap.size w wr) := hbw
          clear hbw hgi hb hb4r
          go_wp2_with fail
          go_ret
          exact ⟨rfl, hfin.out⟩
end Go.Proofs.YtagnmdhdogaijaaGreat
