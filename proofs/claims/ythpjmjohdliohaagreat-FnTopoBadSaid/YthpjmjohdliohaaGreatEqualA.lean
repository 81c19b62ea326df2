/- topo.Equal over a graph that is directed and one that is directed.
   topo.Equal over a graph that is directed and one that is undirected.
   topo.Equal over a graph that is undirected and one that is directed.
   topo.Equal over a graph that is undirected and one that is undirected.
   impl.Equal. -/
import Derived.Test.YthpjmjohdliohaaGreatNodesT
import Derived.Test.YthpjmjohdliohaaGreatSortA
import Derived.Test.YthpjmjohdliohaaGreatEqLawA
namespace Go.Proofs.YthpjmjohdliohaaGreat
open Go.RowKit

set_option maxRecDepth 100000 in
set_option maxHeartbeats 4000000 in
theorem topoEqDirDir_any (pa pb : Nat) (idsA : List Int) (outsA insA : List (List Arc)) (idsB : List Int) (outsB insB : List (List Arc)) (w : World) (hA : idsA.length ≤ 1000) (hB : idsB.length ≤ 1000) (hpA : PlainAt w pa idsA outsA insA) (hpB : PlainAt w pb idsB outsB insB) :
    Calls Tryz.prog 35 #[.iface 47 (.agg #[.pointer (some ⟨pa, 0, none⟩)]), .iface 47 (.agg #[.pointer (some ⟨pb, 0, none⟩)])] w
      fun e w' => e = .returned (.bool (decide (eqP idsA outsA idsB outsB))) ∧ Below w.heap.size w w' := by
  have hnA := Lib.hid (nodesDir_any pa idsA outsA insA w hA hpA)
  go_enter Tryz.func35, Tryz.ntmps35
  go_wp2_with fail
  refine (unhide hnA).mono ?_
  rintro e w1 ⟨ia, rfl, hit1, hb1⟩
  have hnB := Lib.hid (nodesDir_any pb idsB outsB insB w1 hB (hpB.below hb1))
  have hit1h := Lib.hid hit1
  have hb1h := Lib.hid hb1
  have hpAh := Lib.hid hpA
  have hpBh := Lib.hid hpB
  clear hnA hit1 hb1 hpA hpB
  go_wp2_with fail
  refine (unhide hnB).mono ?_
  rintro e w2 ⟨ib, rfl, hit2, hb2⟩
  obtain ⟨E1, hE1⟩ : ∃ E1, E1 = w1.heap.size := ⟨_, rfl⟩
  obtain ⟨E2, hE2⟩ : ∃ E2, E2 = w2.heap.size := ⟨_, rfl⟩
  have hitA2 : Hid (IterAt w2 w.heap.size E1 ia 0 idsA) := by
    unfold Hid; rw [hE1]; exact hit1h.out.same (fun j _ h => hb2.block j h)
  have hitB2 : Hid (IterAt w2 E1 E2 ib 0 idsB) := by unfold Hid; rw [hE1, hE2]; exact hit2
  have hsz1 : w.heap.size ≤ E1 := by rw [hE1]; exact hb1h.out.size
  have hsz2 : E1 ≤ E2 := by rw [hE1, hE2]; exact hb2.size
  have hbw2 : Hid (Below w.heap.size w w2) := hb1h.out.trans (hb2.mono hb1h.out.size)
  have hE2w : Hid (E2 = w2.heap.size) := hE2
  have hlA := Lib.hid (itLen_any w.heap.size E1 ia idsA w2 (by omega) hitA2.out)
  have hlB := Lib.hid (fun q => itLen_any E1 E2 ib idsB (w2.drewN q) (by omega) hitB2.out)
  clear hit2 hb2 hE1 hE2 hit1h hnB
  go_wp2_with fail
  refine (unhide hlA).mono ?_
  rintro e w' ⟨rfl, q1, rfl⟩
  go_wp2_with fail
  refine (unhide hlB q1).mono ?_
  rintro e w3 ⟨rfl, q2, hw3⟩
  have hbw3 : Hid (Below w.heap.size w w3) := by unfold Hid; rw [hw3]; exact below_draws (below_draws hbw2.out q1) q2
  by_cases hlen : idsA.length = idsB.length
  · have hitA3 : Hid (IterAt w3 w.heap.size E1 ia 0 idsA) := by unfold Hid; rw [hw3]; exact hitA2.out
    have hitB3 : Hid (IterAt w3 E1 E2 ib 0 idsB) := by unfold Hid; rw [hw3]; exact hitB2.out
    have hE3 : E2 ≤ w3.heap.size := by rw [hw3]; exact Nat.le_of_eq hE2w.out
    clear hw3 hlA hlB hitA2 hitB2 hbw2 hE2w
    have hitA := hitA3
    have hitB := hitB3
    have hE := hE3
    have hcmp : ((idsA.length : Int) != (idsB.length : Int)) = false := by rw [bne_eq_false_iff_eq]; omega
    have hlenh := Lib.hid hlen
    clear hlen
    have hneA := Lib.hid (nodesOf_any w.heap.size E1 ia idsA w3 (by omega) hitA.out)
    go_wp2_with fail
    clear hcmp
    refine (unhide hneA).mono ?_
    rintro e w4 ⟨aA, cA, rfl, oA, eA, gA⟩
    have ia1 := hitA.out.1
    have ia2 := hitA.out.2.1
    have ib1 := hitB.out.1
    have hitB4 : Hid (IterAt w4 E1 E2 ib 0 idsB) := hitB.out.same (fun j h1 h2 => gA.block j (by omega) (fun e => by injection e with e; omega))
    have bel4 : Hid (Below w.heap.size w w4) := hbw3.out.grown gA (by omega) (fun j e => by injection e with e; omega)
    have sz4 : E2 ≤ w4.heap.size := Nat.le_trans hE gA.size
    have oAh := Lib.hid oA
    have eAh := Lib.hid eA
    have hneB := Lib.hid (nodesOf_any E1 E2 ib idsB w4 (by omega) hitB4.out)
    clear oA eA gA hneA
    go_wp2_with fail
    refine (unhide hneB).mono ?_
    rintro e w5 ⟨aB, cB, rfl, oB, eB, gB⟩
    have oA5 := oAh.out.kept gB (by
      cases hc : (Value.slice aA idsA.length cA).ownBlock with
      | none => exact .inl rfl
      | some j => exact .inr (fun e => by injection e with e; have := eAh.out j hc; omega))
    have bel5 : Hid (Below w.heap.size w w5) := bel4.out.grown gB (by omega) (fun j e => by injection e with e; omega)
    have sz5 : E2 ≤ w5.heap.size := Nat.le_trans sz4 gB.size
    have hsA := Lib.hid (byId_any w.heap.size idsA.length cA aA idsA w5 (by omega) oA5)
    have oBh := Lib.hid oB
    have ltA := oA5.lt
    have ltB := oB.lt
    have ltAh := Lib.hid ltA
    have ltBh := Lib.hid ltB
    clear oA5 oB eB gB hneB ltA ltB oAh
    go_wp2_with fail
    refine (unhide hsA).mono ?_
    rintro e w6 ⟨rfl, oA6, g6⟩
    have oB6 := oBh.out.kept g6 (by
      cases hc : (Value.slice aB idsB.length cB).ownBlock with
      | none => exact .inl rfl
      | some j => exact .inr (fun e => by have h1 := (ltBh.out j hc).1; have h2 := eAh.out j e.symm; omega))
    have bel6 : Hid (Below w.heap.size w w6) := bel5.out.grown g6 (by omega) (fun j e => by have := (ltAh.out j e).1; omega)
    have sz6 : E2 ≤ w6.heap.size := Nat.le_trans sz5 g6.size
    have hsB := Lib.hid (byId_any E1 idsB.length cB aB idsB w6 (by omega) oB6)
    have oA6h := Lib.hid oA6
    clear oA6 oB6 g6 hsA oBh
    go_wp2_with fail
    refine (unhide hsB).mono ?_
    rintro e w7 ⟨rfl, oB7, g7⟩
    have oA7 := oA6h.out.kept g7 (by
      cases hc : (Value.slice aA idsA.length cA).ownBlock with
      | none => exact .inl rfl
      | some j => exact .inr (fun e => by have h1 := (ltBh.out j e.symm).1; have h2 := eAh.out j hc; omega))
    have bel7 : Hid (Below w.heap.size w w7) := bel6.out.grown g7 (by omega) (fun j e => by have := (ltBh.out j e).1; omega)
    have sz7 : E2 ≤ w7.heap.size := Nat.le_trans sz6 g7.size
    have oA7h := Lib.hid oA7
    have oB7h := Lib.hid oB7
    clear oA7 oB7 g7 hsB oA6h
    go_wp2_with fail
    go_loopw [38] (fun i wr => ∃ k : Nat, k ≤ idsA.length ∧ i = .int .i64 k ∧ (∀ j (hj : j < (asc idsA).length), j < k → ∃ hb : j < (asc idsB).length, (asc idsA)[j] = (asc idsB)[j] ∧ asc (succOf idsA outsA (asc idsA)[j]) = asc (succOf idsB outsB (asc idsA)[j])) ∧
      Below w7.heap.size w7 wr) (fun i _ => idsA.length - (intOf i).toNat)
    case atStart => exact ⟨0, Nat.zero_le _, rfl, fun j _ h => absurd h (Nat.not_lt_zero _), Below.refl _ _⟩
    case round =>
      obtain ⟨k, hk, rfl, hP, hb⟩ := hrel
      have hPh := Lib.hid hP
      have hbh := Lib.hid hb
      have hbwr : Hid (Below w.heap.size w wr) := bel7.out.trans (hb.mono bel7.out.size)
      clear hP hb
      by_cases hlt : k < idsA.length
      · have hkA : k < (asc idsA).length := by rw [asc_length]; exact hlt
        have hkB : k < (asc idsB).length := by rw [asc_length, ← hlenh.out]; exact hlt
        have hltB : (k : Int) < (idsB.length : Int) := by have := hlenh.out; omega
        obtain ⟨ga, rfl, _, _, _⟩ := owns_at oA7h.out (by omega)
        obtain ⟨gb, rfl, _, _, _⟩ := owns_at oB7h.out (by have := hlenh.out; omega)
        obtain ⟨x, hx⟩ : ∃ x, x = (asc idsA)[k] := ⟨_, rfl⟩
        obtain ⟨y, hy⟩ : ∃ y, y = (asc idsB)[k] := ⟨_, rfl⟩
        have cA7 : wr.cell? ⟨ga, k, none⟩ = some (.iface 127 (.int .i64 x)) := by rw [hx]; exact cell_below hbh.out (owns_cell oA7h.out (nodes_get _ k hkA))
        have cB7 : wr.cell? ⟨gb, k, none⟩ = some (.iface 127 (.int .i64 y)) := by rw [hy]; exact cell_below hbh.out (owns_cell oB7h.out (nodes_get _ k hkB))
        have hxh := Lib.hid hx
        have hyh := Lib.hid hy
        clear hx hy
        by_cases hxy : x = y
        · subst hxy
          have hxA : x ∈ idsA := by rw [hxh.out]; exact asc_mem.1 (List.getElem_mem _)
          have hxB : x ∈ idsB := by rw [hyh.out]; exact asc_mem.1 (List.getElem_mem _)
          have hpA2 := hpAh.out.below hbwr.out
          have hpB2 := hpBh.out.below hbwr.out
          have hfA := Lib.hid (fromDir_any pa idsA outsA insA x wr (by omega) hpA2 hxA)
          have hfB := Lib.hid (fun w8 (h : Below wr.heap.size wr w8) => fromDir_any pb idsB outsB insB x w8 (by omega) (hpB2.below h) hxB)
          have hsA8 := succ_len hpA2 x
          have hsB8 := succ_len hpB2 x
          clear hpA2 hpB2
          go_wp2_with (first
            | (go_at_call 184; refine (id_any _ _).mono ?_; rintro e w' ⟨rfl, rfl⟩))
          refine (unhide hfA).mono ?_
          rintro e w8 ⟨i8, rfl, it8, b8⟩
          have hfB8 := Lib.hid (unhide hfB w8 b8)
          have it8h := Lib.hid it8
          have b8h := Lib.hid b8
          clear it8 b8 hfA hfB cA7 cB7
          go_wp2_with fail
          refine (unhide hfB8).mono ?_
          rintro e w9 ⟨i9, rfl, it9, b9⟩
          obtain ⟨S8, hS8⟩ : ∃ S8, S8 = wr.heap.size := ⟨_, rfl⟩
          obtain ⟨E8, hE8⟩ : ∃ E8, E8 = w8.heap.size := ⟨_, rfl⟩
          obtain ⟨E9, hE9⟩ : ∃ E9, E9 = w9.heap.size := ⟨_, rfl⟩
          obtain ⟨sA, hsAe⟩ : ∃ sA, sA = succOf idsA outsA x := ⟨_, rfl⟩
          obtain ⟨sB, hsBe⟩ : ∃ sB, sB = succOf idsB outsB x := ⟨_, rfl⟩
          have hitA9 : Hid (IterAt w9 S8 E8 i8 0 sA) := by
            unfold Hid; rw [hS8, hE8, hsAe]; exact it8h.out.same (fun j _ h => b9.block j h)
          have hitB9 : Hid (IterAt w9 E8 E9 i9 0 sB) := by unfold Hid; rw [hE8, hE9, hsBe]; exact it9
          have bel9 : Hid (Below w7.heap.size w7 w9) := (hbh.out.trans (b8h.out.mono hbh.out.size)).trans (b9.mono (Nat.le_trans hbh.out.size b8h.out.size))
          have z1 : w7.heap.size ≤ S8 := by rw [hS8]; exact hbh.out.size
          have z2 : S8 ≤ E8 := by rw [hS8, hE8]; exact b8h.out.size
          have z3 : E8 ≤ E9 := by rw [hE8, hE9]; exact b9.size
          have hE9h := Lib.hid hE9
          have lA8 : sA.length ≤ 1000 := by rw [hsAe]; omega
          have lB8 : sB.length ≤ 1000 := by rw [hsBe]; omega
          have hsAh := Lib.hid hsAe
          have hsBh := Lib.hid hsBe
          have hlA9 := Lib.hid (itLen_any S8 E8 i8 sA w9 (by omega) hitA9.out)
          have hlB9 := Lib.hid (fun q => itLen_any E8 E9 i9 sB (w9.drewN q) (by omega) hitB9.out)
          clear it8h it9 b8h b9 hS8 hE8 hE9 hsAe hsBe hfB8 hsA8 hsB8
          go_wp2_with fail
          refine (unhide hlA9).mono ?_
          rintro e w' ⟨rfl, q3, rfl⟩
          go_wp2_with fail
          refine (unhide hlB9 q3).mono ?_
          rintro e w10 ⟨rfl, q4, hw10⟩
          have bel10 : Hid (Below w7.heap.size w7 w10) := by unfold Hid; rw [hw10]; exact below_draws (below_draws bel9.out q3) q4
          have hitAz : Hid (IterAt w10 S8 E8 i8 0 sA) := by unfold Hid; rw [hw10]; exact hitA9.out
          have hitBz : Hid (IterAt w10 E8 E9 i9 0 sB) := by unfold Hid; rw [hw10]; exact hitB9.out
          have hEz : E9 ≤ w10.heap.size := by rw [hw10]; exact Nat.le_of_eq hE9h.out
          clear hw10 hlA9 hlB9 hitA9 hitB9 bel9 hE9h
          by_cases hl9 : sA.length = sB.length
          · have hcmp9 : ((sA.length : Int) != (sB.length : Int)) = false := by rw [bne_eq_false_iff_eq]; omega
            have hl9h := Lib.hid hl9
            clear hl9
            have hneAz := Lib.hid (nodesOf_any S8 E8 i8 sA w10 (by omega) hitAz.out)
            go_wp2_with fail
            clear hcmp9
            refine (unhide hneAz).mono ?_
            rintro e w4z ⟨aAz, cAz, rfl, oAz, eAz, gAz⟩
            have ia1z := hitAz.out.1
            have ia2z := hitAz.out.2.1
            have ib1z := hitBz.out.1
            have hitB4z : Hid (IterAt w4z E8 E9 i9 0 sB) := hitBz.out.same (fun j h1 h2 => gAz.block j (by omega) (fun e => by injection e with e; omega))
            have bel4z : Hid (Below w7.heap.size w7 w4z) := bel10.out.grown gAz (by omega) (fun j e => by injection e with e; omega)
            have sz4z : E9 ≤ w4z.heap.size := Nat.le_trans hEz gAz.size
            have oAhz := Lib.hid oAz
            have eAhz := Lib.hid eAz
            have hneBz := Lib.hid (nodesOf_any E8 E9 i9 sB w4z (by omega) hitB4z.out)
            clear oAz eAz gAz hneAz
            go_wp2_with fail
            refine (unhide hneBz).mono ?_
            rintro e w5z ⟨aBz, cBz, rfl, oBz, eBz, gBz⟩
            have oA5z := oAhz.out.kept gBz (by
              cases hc : (Value.slice aAz sA.length cAz).ownBlock with
              | none => exact .inl rfl
              | some j => exact .inr (fun e => by injection e with e; have := eAhz.out j hc; omega))
            have bel5z : Hid (Below w7.heap.size w7 w5z) := bel4z.out.grown gBz (by omega) (fun j e => by injection e with e; omega)
            have sz5z : E9 ≤ w5z.heap.size := Nat.le_trans sz4z gBz.size
            have hsAz := Lib.hid (byId_any S8 sA.length cAz aAz sA w5z (by omega) oA5z)
            have oBhz := Lib.hid oBz
            have ltAz := oA5z.lt
            have ltBz := oBz.lt
            have ltAhz := Lib.hid ltAz
            have ltBhz := Lib.hid ltBz
            clear oA5z oBz eBz gBz hneBz ltAz ltBz oAhz
            go_wp2_with fail
            refine (unhide hsAz).mono ?_
            rintro e w6z ⟨rfl, oA6z, g6z⟩
            have oB6z := oBhz.out.kept g6z (by
              cases hc : (Value.slice aBz sB.length cBz).ownBlock with
              | none => exact .inl rfl
              | some j => exact .inr (fun e => by have h1 := (ltBhz.out j hc).1; have h2 := eAhz.out j e.symm; omega))
            have bel6z : Hid (Below w7.heap.size w7 w6z) := bel5z.out.grown g6z (by omega) (fun j e => by have := (ltAhz.out j e).1; omega)
            have sz6z : E9 ≤ w6z.heap.size := Nat.le_trans sz5z g6z.size
            have hsBz := Lib.hid (byId_any E8 sB.length cBz aBz sB w6z (by omega) oB6z)
            have oA6hz := Lib.hid oA6z
            clear oA6z oB6z g6z hsAz oBhz
            go_wp2_with fail
            refine (unhide hsBz).mono ?_
            rintro e w7z ⟨rfl, oB7z, g7z⟩
            have oA7z := oA6hz.out.kept g7z (by
              cases hc : (Value.slice aAz sA.length cAz).ownBlock with
              | none => exact .inl rfl
              | some j => exact .inr (fun e => by have h1 := (ltBhz.out j e.symm).1; have h2 := eAhz.out j hc; omega))
            have bel7z : Hid (Below w7.heap.size w7 w7z) := bel6z.out.grown g7z (by omega) (fun j e => by have := (ltBhz.out j e).1; omega)
            have sz7z : E9 ≤ w7z.heap.size := Nat.le_trans sz6z g7z.size
            have oA7hz := Lib.hid oA7z
            have oB7hz := Lib.hid oB7z
            clear oA7z oB7z g7z hsBz oA6hz
            go_wp2_with fail
            go_loopw [73] (fun i wi => ∃ m : Nat, wi = w7z ∧ m ≤ sA.length ∧ i = .int .i64 m ∧ (∀ j (hj : j < (asc sA).length), j < m → ∃ hb : j < (asc sB).length, (asc sA)[j] = (asc sB)[j])) (fun i _ => sA.length - (intOf i).toNat)
            case atStart => exact ⟨0, rfl, Nat.zero_le _, rfl, fun j _ h => absurd h (Nat.not_lt_zero _)⟩
            case round =>
              obtain ⟨m, hwi, hm, rfl, hQ⟩ := hrel
              have hQh := Lib.hid hQ
              have oAw := Lib.hid (hwi ▸ oA7hz.out)
              have oBw := Lib.hid (hwi ▸ oB7hz.out)
              have hww := Lib.hid hwi
              have belw : Hid (Below w7.heap.size w7 wr) := by unfold Hid; rw [hwi]; exact bel7z.out
              clear hQ hwi
              by_cases hmt : m < sA.length
              · have hmA : m < (asc sA).length := by rw [asc_length]; exact hmt
                have hmB : m < (asc sB).length := by rw [asc_length, ← hl9h.out]; exact hmt
                have hmB2 : (m : Int) < (sB.length : Int) := by have := hl9h.out; omega
                obtain ⟨gaz, rfl, _, _, _⟩ := owns_at oAw.out (by omega)
                obtain ⟨gbz, rfl, _, _, _⟩ := owns_at oBw.out (by have := hl9h.out; omega)
                obtain ⟨x2, hx2⟩ : ∃ x2, x2 = (asc sA)[m] := ⟨_, rfl⟩
                obtain ⟨y2, hy2⟩ : ∃ y2, y2 = (asc sB)[m] := ⟨_, rfl⟩
                have cAz : wr.cell? ⟨gaz, m, none⟩ = some (.iface 127 (.int .i64 x2)) := by rw [hx2]; exact owns_cell oAw.out (nodes_get _ m hmA)
                have cBz : wr.cell? ⟨gbz, m, none⟩ = some (.iface 127 (.int .i64 y2)) := by rw [hy2]; exact owns_cell oBw.out (nodes_get _ m hmB)
                have hx2h := Lib.hid hx2
                have hy2h := Lib.hid hy2
                clear hx2 hy2
                by_cases hxy2 : x2 = y2
                · subst hxy2
                  have hQ2 : Hid (∀ j (hj : j < (asc sA).length), j < m + 1 → ∃ hb : j < (asc sB).length, (asc sA)[j] = (asc sB)[j]) := by
                    intro j hj hjm
                    rcases Nat.lt_or_eq_of_le (Nat.le_of_lt_succ hjm) with h | h
                    · exact hQh.out j hj h
                    · subst h; exact ⟨hmB, by rw [← hx2h.out, ← hy2h.out]⟩
                  go_wp2_with (first
                    | (go_at_call 184; refine (id_any _ _).mono ?_; rintro e w' ⟨rfl, rfl⟩))
                  go_roundw
                  case rel => exact ⟨m + 1, hww.out, by omega, by go_num, hQ2.out⟩
                  case measure => simp [intOf]; omega
                · have hxy2' : (x2 != y2) = true := by rw [bne_iff_ne]; exact hxy2
                  have hfin : Hid (false = decide (eqP idsA outsA idsB outsB)) := (decide_eq_false (fun h => hxy2 (by
                    have hz := h.2 x (asc_mem.2 hxA)
                    rw [hx2h.out, hy2h.out]
                    have e : asc sA = asc sB := by rw [hsAh.out, hsBh.out]; exact hz
                    simp only [e]))).symm
                  have bel11 : Hid (Below w.heap.size w wr) := bel7.out.trans (belw.out.mono bel7.out.size)
                  clear hxy2
                  go_wp2_with (first
                    | (go_at_call 184; refine (id_any _ _).mono ?_; rintro e w' ⟨rfl, rfl⟩))
                  go_ret
                  exact ⟨ret_bool hfin.out, bel11.out⟩
              · have heq : asc sA = asc sB := List.ext_getElem (by rw [asc_length, asc_length]; exact hl9h.out) (fun j h1 h2 => by
                  obtain ⟨_, h⟩ := hQh.out j h1 (by rw [asc_length] at h1; omega)
                  exact h)
                have hP2 : Hid (∀ j (hj : j < (asc idsA).length), j < k + 1 → ∃ hb : j < (asc idsB).length, (asc idsA)[j] = (asc idsB)[j] ∧ asc (succOf idsA outsA (asc idsA)[j]) = asc (succOf idsB outsB (asc idsA)[j])) := by
                  intro j hj hjk
                  rcases Nat.lt_or_eq_of_le (Nat.le_of_lt_succ hjk) with h | h
                  · exact hPh.out j hj h
                  · subst h
                    refine ⟨hkB, by rw [← hxh.out, ← hyh.out], ?_⟩
                    rw [← hxh.out, ← hsAh.out, ← hsBh.out]; exact heq
                clear heq
                go_wp2_with fail
                go_roundw
                all_goals first
                  | (case rel => exact ⟨k + 1, by omega, by go_num, hP2.out, belw.out⟩)
                  | (case rel => ((repeat apply Exists.intro); exact ⟨⟨k + 1, by omega, by go_num, hP2.out, belw.out⟩, rfl⟩))
                  | (case measure => simp [intOf]; omega)
          · have hfin : Hid (false = decide (eqP idsA outsA idsB outsB)) := (decide_eq_false (fun h => hl9 (by
              have hz := congrArg List.length (h.2 x (asc_mem.2 hxA))
              rw [asc_length, asc_length] at hz
              rw [hsAh.out, hsBh.out]; exact hz))).symm
            have hne9 : ((sA.length : Int) != (sB.length : Int)) = true := by rw [bne_iff_ne]; omega
            have bel11 : Hid (Below w.heap.size w w10) := bel7.out.trans (bel10.out.mono bel7.out.size)
            clear hl9
            go_wp2_with fail
            go_ret
            exact ⟨ret_bool hfin.out, bel11.out⟩
        · have hxy' : (x != y) = true := by rw [bne_iff_ne]; exact hxy
          have hfin : Hid (false = decide (eqP idsA outsA idsB outsB)) := (decide_eq_false (fun h => hxy (by rw [hxh.out, hyh.out]; simp only [h.1]))).symm
          clear hxy
          go_wp2_with (first
            | (go_at_call 184; refine (id_any _ _).mono ?_; rintro e w' ⟨rfl, rfl⟩))
          go_ret
          exact ⟨ret_bool hfin.out, hbwr.out⟩
      · have hkn : k = idsA.length := by omega
        have hfin : Hid (true = decide (eqP idsA outsA idsB outsB)) := (decide_eq_true (by
          have hl : (asc idsA).length = (asc idsB).length := by rw [asc_length, asc_length]; exact hlenh.out
          refine ⟨List.ext_getElem hl (fun j h1 h2 => ?_), fun z hz => ?_⟩
          · obtain ⟨_, h, _⟩ := hPh.out j h1 (by rw [hkn, ← asc_length idsA]; exact h1)
            exact h
          · obtain ⟨j, hj, rfl⟩ := List.mem_iff_getElem.1 hz
            obtain ⟨_, _, h⟩ := hPh.out j hj (by rw [hkn, ← asc_length idsA]; exact hj)
            exact h)).symm
        clear hkn
        go_wp2_with fail
        go_ret
        exact ⟨ret_bool hfin.out, hbwr.out⟩
  · have hfin : Hid (false = decide (eqP idsA outsA idsB outsB)) := (decide_eq_false (fun h => hlen (by have := congrArg List.length h.1; rwa [asc_length, asc_length] at this))).symm
    have hne : ¬ ((idsA.length : Int) = (idsB.length : Int)) := by omega
    clear hw3
    have hne2 : ((idsA.length : Int) != (idsB.length : Int)) = true := by rw [bne_iff_ne]; exact hne
    go_wp2_with fail
    go_ret
    exact ⟨ret_bool hfin.out, hbw3.out⟩
end Go.Proofs.YthpjmjohdliohaaGreat

namespace Go.Proofs.YthpjmjohdliohaaGreat
open Go.RowKit

set_option maxRecDepth 100000 in
set_option maxHeartbeats 4000000 in
theorem topoEqDirUnd_any (pa pb : Nat) (idsA : List Int) (outsA insA : List (List Arc)) (idsB : List Int) (outsB insB : List (List Arc)) (w : World) (hA : idsA.length ≤ 1000) (hB : idsB.length ≤ 1000) (hpA : PlainAt w pa idsA outsA insA) (hpB : PlainAt w pb idsB outsB insB) :
    Calls Tryz.prog 35 #[.iface 47 (.agg #[.pointer (some ⟨pa, 0, none⟩)]), .iface 62 (.agg #[.pointer (some ⟨pb, 0, none⟩)])] w
      fun e w' => e = .returned (.bool (decide (eqP idsA outsA idsB outsB))) ∧ Below w.heap.size w w' := by
  have hnA := Lib.hid (nodesDir_any pa idsA outsA insA w hA hpA)
  go_enter Tryz.func35, Tryz.ntmps35
  go_wp2_with fail
  refine (unhide hnA).mono ?_
  rintro e w1 ⟨ia, rfl, hit1, hb1⟩
  have hnB := Lib.hid (nodesUnd_any pb idsB outsB insB w1 hB (hpB.below hb1))
  have hit1h := Lib.hid hit1
  have hb1h := Lib.hid hb1
  have hpAh := Lib.hid hpA
  have hpBh := Lib.hid hpB
  clear hnA hit1 hb1 hpA hpB
  go_wp2_with fail
  refine (unhide hnB).mono ?_
  rintro e w2 ⟨ib, rfl, hit2, hb2⟩
  obtain ⟨E1, hE1⟩ : ∃ E1, E1 = w1.heap.size := ⟨_, rfl⟩
  obtain ⟨E2, hE2⟩ : ∃ E2, E2 = w2.heap.size := ⟨_, rfl⟩
  have hitA2 : Hid (IterAt w2 w.heap.size E1 ia 0 idsA) := by
    unfold Hid; rw [hE1]; exact hit1h.out.same (fun j _ h => hb2.block j h)
  have hitB2 : Hid (IterAt w2 E1 E2 ib 0 idsB) := by unfold Hid; rw [hE1, hE2]; exact hit2
  have hsz1 : w.heap.size ≤ E1 := by rw [hE1]; exact hb1h.out.size
  have hsz2 : E1 ≤ E2 := by rw [hE1, hE2]; exact hb2.size
  have hbw2 : Hid (Below w.heap.size w w2) := hb1h.out.trans (hb2.mono hb1h.out.size)
  have hE2w : Hid (E2 = w2.heap.size) := hE2
  have hlA := Lib.hid (itLen_any w.heap.size E1 ia idsA w2 (by omega) hitA2.out)
  have hlB := Lib.hid (fun q => itLen_any E1 E2 ib idsB (w2.drewN q) (by omega) hitB2.out)
  clear hit2 hb2 hE1 hE2 hit1h hnB
  go_wp2_with fail
  refine (unhide hlA).mono ?_
  rintro e w' ⟨rfl, q1, rfl⟩
  go_wp2_with fail
  refine (unhide hlB q1).mono ?_
  rintro e w3 ⟨rfl, q2, hw3⟩
  have hbw3 : Hid (Below w.heap.size w w3) := by unfold Hid; rw [hw3]; exact below_draws (below_draws hbw2.out q1) q2
  by_cases hlen : idsA.length = idsB.length
  · have hitA3 : Hid (IterAt w3 w.heap.size E1 ia 0 idsA) := by unfold Hid; rw [hw3]; exact hitA2.out
    have hitB3 : Hid (IterAt w3 E1 E2 ib 0 idsB) := by unfold Hid; rw [hw3]; exact hitB2.out
    have hE3 : E2 ≤ w3.heap.size := by rw [hw3]; exact Nat.le_of_eq hE2w.out
    clear hw3 hlA hlB hitA2 hitB2 hbw2 hE2w
    have hitA := hitA3
    have hitB := hitB3
    have hE := hE3
    have hcmp : ((idsA.length : Int) != (idsB.length : Int)) = false := by rw [bne_eq_false_iff_eq]; omega
    have hlenh := Lib.hid hlen
    clear hlen
    have hneA := Lib.hid (nodesOf_any w.heap.size E1 ia idsA w3 (by omega) hitA.out)
    go_wp2_with fail
    clear hcmp
    refine (unhide hneA).mono ?_
    rintro e w4 ⟨aA, cA, rfl, oA, eA, gA⟩
    have ia1 := hitA.out.1
    have ia2 := hitA.out.2.1
    have ib1 := hitB.out.1
    have hitB4 : Hid (IterAt w4 E1 E2 ib 0 idsB) := hitB.out.same (fun j h1 h2 => gA.block j (by omega) (fun e => by injection e with e; omega))
    have bel4 : Hid (Below w.heap.size w w4) := hbw3.out.grown gA (by omega) (fun j e => by injection e with e; omega)
    have sz4 : E2 ≤ w4.heap.size := Nat.le_trans hE gA.size
    have oAh := Lib.hid oA
    have eAh := Lib.hid eA
    have hneB := Lib.hid (nodesOf_any E1 E2 ib idsB w4 (by omega) hitB4.out)
    clear oA eA gA hneA
    go_wp2_with fail
    refine (unhide hneB).mono ?_
    rintro e w5 ⟨aB, cB, rfl, oB, eB, gB⟩
    have oA5 := oAh.out.kept gB (by
      cases hc : (Value.slice aA idsA.length cA).ownBlock with
      | none => exact .inl rfl
      | some j => exact .inr (fun e => by injection e with e; have := eAh.out j hc; omega))
    have bel5 : Hid (Below w.heap.size w w5) := bel4.out.grown gB (by omega) (fun j e => by injection e with e; omega)
    have sz5 : E2 ≤ w5.heap.size := Nat.le_trans sz4 gB.size
    have hsA := Lib.hid (byId_any w.heap.size idsA.length cA aA idsA w5 (by omega) oA5)
    have oBh := Lib.hid oB
    have ltA := oA5.lt
    have ltB := oB.lt
    have ltAh := Lib.hid ltA
    have ltBh := Lib.hid ltB
    clear oA5 oB eB gB hneB ltA ltB oAh
    go_wp2_with fail
    refine (unhide hsA).mono ?_
    rintro e w6 ⟨rfl, oA6, g6⟩
    have oB6 := oBh.out.kept g6 (by
      cases hc : (Value.slice aB idsB.length cB).ownBlock with
      | none => exact .inl rfl
      | some j => exact .inr (fun e => by have h1 := (ltBh.out j hc).1; have h2 := eAh.out j e.symm; omega))
    have bel6 : Hid (Below w.heap.size w w6) := bel5.out.grown g6 (by omega) (fun j e => by have := (ltAh.out j e).1; omega)
    have sz6 : E2 ≤ w6.heap.size := Nat.le_trans sz5 g6.size
    have hsB := Lib.hid (byId_any E1 idsB.length cB aB idsB w6 (by omega) oB6)
    have oA6h := Lib.hid oA6
    clear oA6 oB6 g6 hsA oBh
    go_wp2_with fail
    refine (unhide hsB).mono ?_
    rintro e w7 ⟨rfl, oB7, g7⟩
    have oA7 := oA6h.out.kept g7 (by
      cases hc : (Value.slice aA idsA.length cA).ownBlock with
      | none => exact .inl rfl
      | some j => exact .inr (fun e => by have h1 := (ltBh.out j e.symm).1; have h2 := eAh.out j hc; omega))
    have bel7 : Hid (Below w.heap.size w w7) := bel6.out.grown g7 (by omega) (fun j e => by have := (ltBh.out j e).1; omega)
    have sz7 : E2 ≤ w7.heap.size := Nat.le_trans sz6 g7.size
    have oA7h := Lib.hid oA7
    have oB7h := Lib.hid oB7
    clear oA7 oB7 g7 hsB oA6h
    go_wp2_with fail
    go_loopw [38] (fun i wr => ∃ k : Nat, k ≤ idsA.length ∧ i = .int .i64 k ∧ (∀ j (hj : j < (asc idsA).length), j < k → ∃ hb : j < (asc idsB).length, (asc idsA)[j] = (asc idsB)[j] ∧ asc (succOf idsA outsA (asc idsA)[j]) = asc (succOf idsB outsB (asc idsA)[j])) ∧
      Below w7.heap.size w7 wr) (fun i _ => idsA.length - (intOf i).toNat)
    case atStart => exact ⟨0, Nat.zero_le _, rfl, fun j _ h => absurd h (Nat.not_lt_zero _), Below.refl _ _⟩
    case round =>
      obtain ⟨k, hk, rfl, hP, hb⟩ := hrel
      have hPh := Lib.hid hP
      have hbh := Lib.hid hb
      have hbwr : Hid (Below w.heap.size w wr) := bel7.out.trans (hb.mono bel7.out.size)
      clear hP hb
      by_cases hlt : k < idsA.length
      · have hkA : k < (asc idsA).length := by rw [asc_length]; exact hlt
        have hkB : k < (asc idsB).length := by rw [asc_length, ← hlenh.out]; exact hlt
        have hltB : (k : Int) < (idsB.length : Int) := by have := hlenh.out; omega
        obtain ⟨ga, rfl, _, _, _⟩ := owns_at oA7h.out (by omega)
        obtain ⟨gb, rfl, _, _, _⟩ := owns_at oB7h.out (by have := hlenh.out; omega)
        obtain ⟨x, hx⟩ : ∃ x, x = (asc idsA)[k] := ⟨_, rfl⟩
        obtain ⟨y, hy⟩ : ∃ y, y = (asc idsB)[k] := ⟨_, rfl⟩
        have cA7 : wr.cell? ⟨ga, k, none⟩ = some (.iface 127 (.int .i64 x)) := by rw [hx]; exact cell_below hbh.out (owns_cell oA7h.out (nodes_get _ k hkA))
        have cB7 : wr.cell? ⟨gb, k, none⟩ = some (.iface 127 (.int .i64 y)) := by rw [hy]; exact cell_below hbh.out (owns_cell oB7h.out (nodes_get _ k hkB))
        have hxh := Lib.hid hx
        have hyh := Lib.hid hy
        clear hx hy
        by_cases hxy : x = y
        · subst hxy
          have hxA : x ∈ idsA := by rw [hxh.out]; exact asc_mem.1 (List.getElem_mem _)
          have hxB : x ∈ idsB := by rw [hyh.out]; exact asc_mem.1 (List.getElem_mem _)
          have hpA2 := hpAh.out.below hbwr.out
          have hpB2 := hpBh.out.below hbwr.out
          have hfA := Lib.hid (fromDir_any pa idsA outsA insA x wr (by omega) hpA2 hxA)
          have hfB := Lib.hid (fun w8 (h : Below wr.heap.size wr w8) => fromUnd_any pb idsB outsB insB x w8 (by omega) (hpB2.below h) hxB)
          have hsA8 := succ_len hpA2 x
          have hsB8 := succ_len hpB2 x
          clear hpA2 hpB2
          go_wp2_with (first
            | (go_at_call 184; refine (id_any _ _).mono ?_; rintro e w' ⟨rfl, rfl⟩))
          refine (unhide hfA).mono ?_
          rintro e w8 ⟨i8, rfl, it8, b8⟩
          have hfB8 := Lib.hid (unhide hfB w8 b8)
          have it8h := Lib.hid it8
          have b8h := Lib.hid b8
          clear it8 b8 hfA hfB cA7 cB7
          go_wp2_with fail
          refine (unhide hfB8).mono ?_
          rintro e w9 ⟨i9, rfl, it9, b9⟩
          obtain ⟨S8, hS8⟩ : ∃ S8, S8 = wr.heap.size := ⟨_, rfl⟩
          obtain ⟨E8, hE8⟩ : ∃ E8, E8 = w8.heap.size := ⟨_, rfl⟩
          obtain ⟨E9, hE9⟩ : ∃ E9, E9 = w9.heap.size := ⟨_, rfl⟩
          obtain ⟨sA, hsAe⟩ : ∃ sA, sA = succOf idsA outsA x := ⟨_, rfl⟩
          obtain ⟨sB, hsBe⟩ : ∃ sB, sB = succOf idsB outsB x := ⟨_, rfl⟩
          have hitA9 : Hid (IterAt w9 S8 E8 i8 0 sA) := by
            unfold Hid; rw [hS8, hE8, hsAe]; exact it8h.out.same (fun j _ h => b9.block j h)
          have hitB9 : Hid (IterAt w9 E8 E9 i9 0 sB) := by unfold Hid; rw [hE8, hE9, hsBe]; exact it9
          have bel9 : Hid (Below w7.heap.size w7 w9) := (hbh.out.trans (b8h.out.mono hbh.out.size)).trans (b9.mono (Nat.le_trans hbh.out.size b8h.out.size))
          have z1 : w7.heap.size ≤ S8 := by rw [hS8]; exact hbh.out.size
          have z2 : S8 ≤ E8 := by rw [hS8, hE8]; exact b8h.out.size
          have z3 : E8 ≤ E9 := by rw [hE8, hE9]; exact b9.size
          have hE9h := Lib.hid hE9
          have lA8 : sA.length ≤ 1000 := by rw [hsAe]; omega
          have lB8 : sB.length ≤ 1000 := by rw [hsBe]; omega
          have hsAh := Lib.hid hsAe
          have hsBh := Lib.hid hsBe
          have hlA9 := Lib.hid (itLen_any S8 E8 i8 sA w9 (by omega) hitA9.out)
          have hlB9 := Lib.hid (fun q => itLen_any E8 E9 i9 sB (w9.drewN q) (by omega) hitB9.out)
          clear it8h it9 b8h b9 hS8 hE8 hE9 hsAe hsBe hfB8 hsA8 hsB8
          go_wp2_with fail
          refine (unhide hlA9).mono ?_
          rintro e w' ⟨rfl, q3, rfl⟩
          go_wp2_with fail
          refine (unhide hlB9 q3).mono ?_
          rintro e w10 ⟨rfl, q4, hw10⟩
          have bel10 : Hid (Below w7.heap.size w7 w10) := by unfold Hid; rw [hw10]; exact below_draws (below_draws bel9.out q3) q4
          have hitAz : Hid (IterAt w10 S8 E8 i8 0 sA) := by unfold Hid; rw [hw10]; exact hitA9.out
          have hitBz : Hid (IterAt w10 E8 E9 i9 0 sB) := by unfold Hid; rw [hw10]; exact hitB9.out
          have hEz : E9 ≤ w10.heap.size := by rw [hw10]; exact Nat.le_of_eq hE9h.out
          clear hw10 hlA9 hlB9 hitA9 hitB9 bel9 hE9h
          by_cases hl9 : sA.length = sB.length
          · have hcmp9 : ((sA.length : Int) != (sB.length : Int)) = false := by rw [bne_eq_false_iff_eq]; omega
            have hl9h := Lib.hid hl9
            clear hl9
            have hneAz := Lib.hid (nodesOf_any S8 E8 i8 sA w10 (by omega) hitAz.out)
            go_wp2_with fail
            clear hcmp9
            refine (unhide hneAz).mono ?_
            rintro e w4z ⟨aAz, cAz, rfl, oAz, eAz, gAz⟩
            have ia1z := hitAz.out.1
            have ia2z := hitAz.out.2.1
            have ib1z := hitBz.out.1
            have hitB4z : Hid (IterAt w4z E8 E9 i9 0 sB) := hitBz.out.same (fun j h1 h2 => gAz.block j (by omega) (fun e => by injection e with e; omega))
            have bel4z : Hid (Below w7.heap.size w7 w4z) := bel10.out.grown gAz (by omega) (fun j e => by injection e with e; omega)
            have sz4z : E9 ≤ w4z.heap.size := Nat.le_trans hEz gAz.size
            have oAhz := Lib.hid oAz
            have eAhz := Lib.hid eAz
            have hneBz := Lib.hid (nodesOf_any E8 E9 i9 sB w4z (by omega) hitB4z.out)
            clear oAz eAz gAz hneAz
            go_wp2_with fail
            refine (unhide hneBz).mono ?_
            rintro e w5z ⟨aBz, cBz, rfl, oBz, eBz, gBz⟩
            have oA5z := oAhz.out.kept gBz (by
              cases hc : (Value.slice aAz sA.length cAz).ownBlock with
              | none => exact .inl rfl
              | some j => exact .inr (fun e => by injection e with e; have := eAhz.out j hc; omega))
            have bel5z : Hid (Below w7.heap.size w7 w5z) := bel4z.out.grown gBz (by omega) (fun j e => by injection e with e; omega)
            have sz5z : E9 ≤ w5z.heap.size := Nat.le_trans sz4z gBz.size
            have hsAz := Lib.hid (byId_any S8 sA.length cAz aAz sA w5z (by omega) oA5z)
            have oBhz := Lib.hid oBz
            have ltAz := oA5z.lt
            have ltBz := oBz.lt
            have ltAhz := Lib.hid ltAz
            have ltBhz := Lib.hid ltBz
            clear oA5z oBz eBz gBz hneBz ltAz ltBz oAhz
            go_wp2_with fail
            refine (unhide hsAz).mono ?_
            rintro e w6z ⟨rfl, oA6z, g6z⟩
            have oB6z := oBhz.out.kept g6z (by
              cases hc : (Value.slice aBz sB.length cBz).ownBlock with
              | none => exact .inl rfl
              | some j => exact .inr (fun e => by have h1 := (ltBhz.out j hc).1; have h2 := eAhz.out j e.symm; omega))
            have bel6z : Hid (Below w7.heap.size w7 w6z) := bel5z.out.grown g6z (by omega) (fun j e => by have := (ltAhz.out j e).1; omega)
            have sz6z : E9 ≤ w6z.heap.size := Nat.le_trans sz5z g6z.size
            have hsBz := Lib.hid (byId_any E8 sB.length cBz aBz sB w6z (by omega) oB6z)
            have oA6hz := Lib.hid oA6z
            clear oA6z oB6z g6z hsAz oBhz
            go_wp2_with fail
            refine (unhide hsBz).mono ?_
            rintro e w7z ⟨rfl, oB7z, g7z⟩
            have oA7z := oA6hz.out.kept g7z (by
              cases hc : (Value.slice aAz sA.length cAz).ownBlock with
              | none => exact .inl rfl
              | some j => exact .inr (fun e => by have h1 := (ltBhz.out j e.symm).1; have h2 := eAhz.out j hc; omega))
            have bel7z : Hid (Below w7.heap.size w7 w7z) := bel6z.out.grown g7z (by omega) (fun j e => by have := (ltBhz.out j e).1; omega)
            have sz7z : E9 ≤ w7z.heap.size := Nat.le_trans sz6z g7z.size
            have oA7hz := Lib.hid oA7z
            have oB7hz := Lib.hid oB7z
            clear oA7z oB7z g7z hsBz oA6hz
            go_wp2_with fail
            go_loopw [73] (fun i wi => ∃ m : Nat, wi = w7z ∧ m ≤ sA.length ∧ i = .int .i64 m ∧ (∀ j (hj : j < (asc sA).length), j < m → ∃ hb : j < (asc sB).length, (asc sA)[j] = (asc sB)[j])) (fun i _ => sA.length - (intOf i).toNat)
            case atStart => exact ⟨0, rfl, Nat.zero_le _, rfl, fun j _ h => absurd h (Nat.not_lt_zero _)⟩
            case round =>
              obtain ⟨m, hwi, hm, rfl, hQ⟩ := hrel
              have hQh := Lib.hid hQ
              have oAw := Lib.hid (hwi ▸ oA7hz.out)
              have oBw := Lib.hid (hwi ▸ oB7hz.out)
              have hww := Lib.hid hwi
              have belw : Hid (Below w7.heap.size w7 wr) := by unfold Hid; rw [hwi]; exact bel7z.out
              clear hQ hwi
              by_cases hmt : m < sA.length
              · have hmA : m < (asc sA).length := by rw [asc_length]; exact hmt
                have hmB : m < (asc sB).length := by rw [asc_length, ← hl9h.out]; exact hmt
                have hmB2 : (m : Int) < (sB.length : Int) := by have := hl9h.out; omega
                obtain ⟨gaz, rfl, _, _, _⟩ := owns_at oAw.out (by omega)
                obtain ⟨gbz, rfl, _, _, _⟩ := owns_at oBw.out (by have := hl9h.out; omega)
                obtain ⟨x2, hx2⟩ : ∃ x2, x2 = (asc sA)[m] := ⟨_, rfl⟩
                obtain ⟨y2, hy2⟩ : ∃ y2, y2 = (asc sB)[m] := ⟨_, rfl⟩
                have cAz : wr.cell? ⟨gaz, m, none⟩ = some (.iface 127 (.int .i64 x2)) := by rw [hx2]; exact owns_cell oAw.out (nodes_get _ m hmA)
                have cBz : wr.cell? ⟨gbz, m, none⟩ = some (.iface 127 (.int .i64 y2)) := by rw [hy2]; exact owns_cell oBw.out (nodes_get _ m hmB)
                have hx2h := Lib.hid hx2
                have hy2h := Lib.hid hy2
                clear hx2 hy2
                by_cases hxy2 : x2 = y2
                · subst hxy2
                  have hQ2 : Hid (∀ j (hj : j < (asc sA).length), j < m + 1 → ∃ hb : j < (asc sB).length, (asc sA)[j] = (asc sB)[j]) := by
                    intro j hj hjm
                    rcases Nat.lt_or_eq_of_le (Nat.le_of_lt_succ hjm) with h | h
                    · exact hQh.out j hj h
                    · subst h; exact ⟨hmB, by rw [← hx2h.out, ← hy2h.out]⟩
                  go_wp2_with (first
                    | (go_at_call 184; refine (id_any _ _).mono ?_; rintro e w' ⟨rfl, rfl⟩))
                  go_roundw
                  case rel => exact ⟨m + 1, hww.out, by omega, by go_num, hQ2.out⟩
                  case measure => simp [intOf]; omega
                · have hxy2' : (x2 != y2) = true := by rw [bne_iff_ne]; exact hxy2
                  have hfin : Hid (false = decide (eqP idsA outsA idsB outsB)) := (decide_eq_false (fun h => hxy2 (by
                    have hz := h.2 x (asc_mem.2 hxA)
                    rw [hx2h.out, hy2h.out]
                    have e : asc sA = asc sB := by rw [hsAh.out, hsBh.out]; exact hz
                    simp only [e]))).symm
                  have bel11 : Hid (Below w.heap.size w wr) := bel7.out.trans (belw.out.mono bel7.out.size)
                  clear hxy2
                  go_wp2_with (first
                    | (go_at_call 184; refine (id_any _ _).mono ?_; rintro e w' ⟨rfl, rfl⟩))
                  go_ret
                  exact ⟨ret_bool hfin.out, bel11.out⟩
              · have heq : asc sA = asc sB := List.ext_getElem (by rw [asc_length, asc_length]; exact hl9h.out) (fun j h1 h2 => by
                  obtain ⟨_, h⟩ := hQh.out j h1 (by rw [asc_length] at h1; omega)
                  exact h)
                have hP2 : Hid (∀ j (hj : j < (asc idsA).length), j < k + 1 → ∃ hb : j < (asc idsB).length, (asc idsA)[j] = (asc idsB)[j] ∧ asc (succOf idsA outsA (asc idsA)[j]) = asc (succOf idsB outsB (asc idsA)[j])) := by
                  intro j hj hjk
                  rcases Nat.lt_or_eq_of_le (Nat.le_of_lt_succ hjk) with h | h
                  · exact hPh.out j hj h
                  · subst h
                    refine ⟨hkB, by rw [← hxh.out, ← hyh.out], ?_⟩
                    rw [← hxh.out, ← hsAh.out, ← hsBh.out]; exact heq
                clear heq
                go_wp2_with fail
                go_roundw
                all_goals first
                  | (case rel => exact ⟨k + 1, by omega, by go_num, hP2.out, belw.out⟩)
                  | (case rel => ((repeat apply Exists.intro); exact ⟨⟨k + 1, by omega, by go_num, hP2.out, belw.out⟩, rfl⟩))
                  | (case measure => simp [intOf]; omega)
          · have hfin : Hid (false = decide (eqP idsA outsA idsB outsB)) := (decide_eq_false (fun h => hl9 (by
              have hz := congrArg List.length (h.2 x (asc_mem.2 hxA))
              rw [asc_length, asc_length] at hz
              rw [hsAh.out, hsBh.out]; exact hz))).symm
            have hne9 : ((sA.length : Int) != (sB.length : Int)) = true := by rw [bne_iff_ne]; omega
            have bel11 : Hid (Below w.heap.size w w10) := bel7.out.trans (bel10.out.mono bel7.out.size)
            clear hl9
            go_wp2_with fail
            go_ret
            exact ⟨ret_bool hfin.out, bel11.out⟩
        · have hxy' : (x != y) = true := by rw [bne_iff_ne]; exact hxy
          have hfin : Hid (false = decide (eqP idsA outsA idsB outsB)) := (decide_eq_false (fun h => hxy (by rw [hxh.out, hyh.out]; simp only [h.1]))).symm
          clear hxy
          go_wp2_with (first
            | (go_at_call 184; refine (id_any _ _).mono ?_; rintro e w' ⟨rfl, rfl⟩))
          go_ret
          exact ⟨ret_bool hfin.out, hbwr.out⟩
      · have hkn : k = idsA.length := by omega
        have hfin : Hid (true = decide (eqP idsA outsA idsB outsB)) := (decide_eq_true (by
          have hl : (asc idsA).length = (asc idsB).length := by rw [asc_length, asc_length]; exact hlenh.out
          refine ⟨List.ext_getElem hl (fun j h1 h2 => ?_), fun z hz => ?_⟩
          · obtain ⟨_, h, _⟩ := hPh.out j h1 (by rw [hkn, ← asc_length idsA]; exact h1)
            exact h
          · obtain ⟨j, hj, rfl⟩ := List.mem_iff_getElem.1 hz
            obtain ⟨_, _, h⟩ := hPh.out j hj (by rw [hkn, ← asc_length idsA]; exact hj)
            exact h)).symm
        clear hkn
        go_wp2_with fail
        go_ret
        exact ⟨ret_bool hfin.out, hbwr.out⟩
  · have hfin : Hid (false = decide (eqP idsA outsA idsB outsB)) := (decide_eq_false (fun h => hlen (by have := congrArg List.length h.1; rwa [asc_length, asc_length] at this))).symm
    have hne : ¬ ((idsA.length : Int) = (idsB.length : Int)) := by omega
    clear hw3
    have hne2 : ((idsA.length : Int) != (idsB.length : Int)) = true := by rw [bne_iff_ne]; exact hne
    go_wp2_with fail
    go_ret
    exact ⟨ret_bool hfin.out, hbw3.out⟩
end Go.Proofs.YthpjmjohdliohaaGreat

namespace Go.Proofs.YthpjmjohdliohaaGreat
open Go.RowKit

set_option maxRecDepth 100000 in
set_option maxHeartbeats 4000000 in
theorem topoEqUndDir_any (pa pb : Nat) (idsA : List Int) (outsA insA : List (List Arc)) (idsB : List Int) (outsB insB : List (List Arc)) (w : World) (hA : idsA.length ≤ 1000) (hB : idsB.length ≤ 1000) (hpA : PlainAt w pa idsA outsA insA) (hpB : PlainAt w pb idsB outsB insB) :
    Calls Tryz.prog 35 #[.iface 62 (.agg #[.pointer (some ⟨pa, 0, none⟩)]), .iface 47 (.agg #[.pointer (some ⟨pb, 0, none⟩)])] w
      fun e w' => e = .returned (.bool (decide (eqP idsA outsA idsB outsB))) ∧ Below w.heap.size w w' := by
  have hnA := Lib.hid (nodesUnd_any pa idsA outsA insA w hA hpA)
  go_enter Tryz.func35, Tryz.ntmps35
  go_wp2_with fail
  refine (unhide hnA).mono ?_
  rintro e w1 ⟨ia, rfl, hit1, hb1⟩
  have hnB := Lib.hid (nodesDir_any pb idsB outsB insB w1 hB (hpB.below hb1))
  have hit1h := Lib.hid hit1
  have hb1h := Lib.hid hb1
  have hpAh := Lib.hid hpA
  have hpBh := Lib.hid hpB
  clear hnA hit1 hb1 hpA hpB
  go_wp2_with fail
  refine (unhide hnB).mono ?_
  rintro e w2 ⟨ib, rfl, hit2, hb2⟩
  obtain ⟨E1, hE1⟩ : ∃ E1, E1 = w1.heap.size := ⟨_, rfl⟩
  obtain ⟨E2, hE2⟩ : ∃ E2, E2 = w2.heap.size := ⟨_, rfl⟩
  have hitA2 : Hid (IterAt w2 w.heap.size E1 ia 0 idsA) := by
    unfold Hid; rw [hE1]; exact hit1h.out.same (fun j _ h => hb2.block j h)
  have hitB2 : Hid (IterAt w2 E1 E2 ib 0 idsB) := by unfold Hid; rw [hE1, hE2]; exact hit2
  have hsz1 : w.heap.size ≤ E1 := by rw [hE1]; exact hb1h.out.size
  have hsz2 : E1 ≤ E2 := by rw [hE1, hE2]; exact hb2.size
  have hbw2 : Hid (Below w.heap.size w w2) := hb1h.out.trans (hb2.mono hb1h.out.size)
  have hE2w : Hid (E2 = w2.heap.size) := hE2
  have hlA := Lib.hid (itLen_any w.heap.size E1 ia idsA w2 (by omega) hitA2.out)
  have hlB := Lib.hid (fun q => itLen_any E1 E2 ib idsB (w2.drewN q) (by omega) hitB2.out)
  clear hit2 hb2 hE1 hE2 hit1h hnB
  go_wp2_with fail
  refine (unhide hlA).mono ?_
  rintro e w' ⟨rfl, q1, rfl⟩
  go_wp2_with fail
  refine (unhide hlB q1).mono ?_
  rintro e w3 ⟨rfl, q2, hw3⟩
  have hbw3 : Hid (Below w.heap.size w w3) := by unfold Hid; rw [hw3]; exact below_draws (below_draws hbw2.out q1) q2
  by_cases hlen : idsA.length = idsB.length
  · have hitA3 : Hid (IterAt w3 w.heap.size E1 ia 0 idsA) := by unfold Hid; rw [hw3]; exact hitA2.out
    have hitB3 : Hid (IterAt w3 E1 E2 ib 0 idsB) := by unfold Hid; rw [hw3]; exact hitB2.out
    have hE3 : E2 ≤ w3.heap.size := by rw [hw3]; exact Nat.le_of_eq hE2w.out
    clear hw3 hlA hlB hitA2 hitB2 hbw2 hE2w
    have hitA := hitA3
    have hitB := hitB3
    have hE := hE3
    have hcmp : ((idsA.length : Int) != (idsB.length : Int)) = false := by rw [bne_eq_false_iff_eq]; omega
    have hlenh := Lib.hid hlen
    clear hlen
    have hneA := Lib.hid (nodesOf_any w.heap.size E1 ia idsA w3 (by omega) hitA.out)
    go_wp2_with fail
    clear hcmp
    refine (unhide hneA).mono ?_
    rintro e w4 ⟨aA, cA, rfl, oA, eA, gA⟩
    have ia1 := hitA.out.1
    have ia2 := hitA.out.2.1
    have ib1 := hitB.out.1
    have hitB4 : Hid (IterAt w4 E1 E2 ib 0 idsB) := hitB.out.same (fun j h1 h2 => gA.block j (by omega) (fun e => by injection e with e; omega))
    have bel4 : Hid (Below w.heap.size w w4) := hbw3.out.grown gA (by omega) (fun j e => by injection e with e; omega)
    have sz4 : E2 ≤ w4.heap.size := Nat.le_trans hE gA.size
    have oAh := Lib.hid oA
    have eAh := Lib.hid eA
    have hneB := Lib.hid (nodesOf_any E1 E2 ib idsB w4 (by omega) hitB4.out)
    clear oA eA gA hneA
    go_wp2_with fail
    refine (unhide hneB).mono ?_
    rintro e w5 ⟨aB, cB, rfl, oB, eB, gB⟩
    have oA5 := oAh.out.kept gB (by
      cases hc : (Value.slice aA idsA.length cA).ownBlock with
      | none => exact .inl rfl
      | some j => exact .inr (fun e => by injection e with e; have := eAh.out j hc; omega))
    have bel5 : Hid (Below w.heap.size w w5) := bel4.out.grown gB (by omega) (fun j e => by injection e with e; omega)
    have sz5 : E2 ≤ w5.heap.size := Nat.le_trans sz4 gB.size
    have hsA := Lib.hid (byId_any w.heap.size idsA.length cA aA idsA w5 (by omega) oA5)
    have oBh := Lib.hid oB
    have ltA := oA5.lt
    have ltB := oB.lt
    have ltAh := Lib.hid ltA
    have ltBh := Lib.hid ltB
    clear oA5 oB eB gB hneB ltA ltB oAh
    go_wp2_with fail
    refine (unhide hsA).mono ?_
    rintro e w6 ⟨rfl, oA6, g6⟩
    have oB6 := oBh.out.kept g6 (by
      cases hc : (Value.slice aB idsB.length cB).ownBlock with
      | none => exact .inl rfl
      | some j => exact .inr (fun e => by have h1 := (ltBh.out j hc).1; have h2 := eAh.out j e.symm; omega))
    have bel6 : Hid (Below w.heap.size w w6) := bel5.out.grown g6 (by omega) (fun j e => by have := (ltAh.out j e).1; omega)
    have sz6 : E2 ≤ w6.heap.size := Nat.le_trans sz5 g6.size
    have hsB := Lib.hid (byId_any E1 idsB.length cB aB idsB w6 (by omega) oB6)
    have oA6h := Lib.hid oA6
    clear oA6 oB6 g6 hsA oBh
    go_wp2_with fail
    refine (unhide hsB).mono ?_
    rintro e w7 ⟨rfl, oB7, g7⟩
    have oA7 := oA6h.out.kept g7 (by
      cases hc : (Value.slice aA idsA.length cA).ownBlock with
      | none => exact .inl rfl
      | some j => exact .inr (fun e => by have h1 := (ltBh.out j e.symm).1; have h2 := eAh.out j hc; omega))
    have bel7 : Hid (Below w.heap.size w w7) := bel6.out.grown g7 (by omega) (fun j e => by have := (ltBh.out j e).1; omega)
    have sz7 : E2 ≤ w7.heap.size := Nat.le_trans sz6 g7.size
    have oA7h := Lib.hid oA7
    have oB7h := Lib.hid oB7
    clear oA7 oB7 g7 hsB oA6h
    go_wp2_with fail
    go_loopw [38] (fun i wr => ∃ k : Nat, k ≤ idsA.length ∧ i = .int .i64 k ∧ (∀ j (hj : j < (asc idsA).length), j < k → ∃ hb : j < (asc idsB).length, (asc idsA)[j] = (asc idsB)[j] ∧ asc (succOf idsA outsA (asc idsA)[j]) = asc (succOf idsB outsB (asc idsA)[j])) ∧
      Below w7.heap.size w7 wr) (fun i _ => idsA.length - (intOf i).toNat)
    case atStart => exact ⟨0, Nat.zero_le _, rfl, fun j _ h => absurd h (Nat.not_lt_zero _), Below.refl _ _⟩
    case round =>
      obtain ⟨k, hk, rfl, hP, hb⟩ := hrel
      have hPh := Lib.hid hP
      have hbh := Lib.hid hb
      have hbwr : Hid (Below w.heap.size w wr) := bel7.out.trans (hb.mono bel7.out.size)
      clear hP hb
      by_cases hlt : k < idsA.length
      · have hkA : k < (asc idsA).length := by rw [asc_length]; exact hlt
        have hkB : k < (asc idsB).length := by rw [asc_length, ← hlenh.out]; exact hlt
        have hltB : (k : Int) < (idsB.length : Int) := by have := hlenh.out; omega
        obtain ⟨ga, rfl, _, _, _⟩ := owns_at oA7h.out (by omega)
        obtain ⟨gb, rfl, _, _, _⟩ := owns_at oB7h.out (by have := hlenh.out; omega)
        obtain ⟨x, hx⟩ : ∃ x, x = (asc idsA)[k] := ⟨_, rfl⟩
        obtain ⟨y, hy⟩ : ∃ y, y = (asc idsB)[k] := ⟨_, rfl⟩
        have cA7 : wr.cell? ⟨ga, k, none⟩ = some (.iface 127 (.int .i64 x)) := by rw [hx]; exact cell_below hbh.out (owns_cell oA7h.out (nodes_get _ k hkA))
        have cB7 : wr.cell? ⟨gb, k, none⟩ = some (.iface 127 (.int .i64 y)) := by rw [hy]; exact cell_below hbh.out (owns_cell oB7h.out (nodes_get _ k hkB))
        have hxh := Lib.hid hx
        have hyh := Lib.hid hy
        clear hx hy
        by_cases hxy : x = y
        · subst hxy
          have hxA : x ∈ idsA := by rw [hxh.out]; exact asc_mem.1 (List.getElem_mem _)
          have hxB : x ∈ idsB := by rw [hyh.out]; exact asc_mem.1 (List.getElem_mem _)
          have hpA2 := hpAh.out.below hbwr.out
          have hpB2 := hpBh.out.below hbwr.out
          have hfA := Lib.hid (fromUnd_any pa idsA outsA insA x wr (by omega) hpA2 hxA)
          have hfB := Lib.hid (fun w8 (h : Below wr.heap.size wr w8) => fromDir_any pb idsB outsB insB x w8 (by omega) (hpB2.below h) hxB)
          have hsA8 := succ_len hpA2 x
          have hsB8 := succ_len hpB2 x
          clear hpA2 hpB2
          go_wp2_with (first
            | (go_at_call 184; refine (id_any _ _).mono ?_; rintro e w' ⟨rfl, rfl⟩))
          refine (unhide hfA).mono ?_
          rintro e w8 ⟨i8, rfl, it8, b8⟩
          have hfB8 := Lib.hid (unhide hfB w8 b8)
          have it8h := Lib.hid it8
          have b8h := Lib.hid b8
          clear it8 b8 hfA hfB cA7 cB7
          go_wp2_with fail
          refine (unhide hfB8).mono ?_
          rintro e w9 ⟨i9, rfl, it9, b9⟩
          obtain ⟨S8, hS8⟩ : ∃ S8, S8 = wr.heap.size := ⟨_, rfl⟩
          obtain ⟨E8, hE8⟩ : ∃ E8, E8 = w8.heap.size := ⟨_, rfl⟩
          obtain ⟨E9, hE9⟩ : ∃ E9, E9 = w9.heap.size := ⟨_, rfl⟩
          obtain ⟨sA, hsAe⟩ : ∃ sA, sA = succOf idsA outsA x := ⟨_, rfl⟩
          obtain ⟨sB, hsBe⟩ : ∃ sB, sB = succOf idsB outsB x := ⟨_, rfl⟩
          have hitA9 : Hid (IterAt w9 S8 E8 i8 0 sA) := by
            unfold Hid; rw [hS8, hE8, hsAe]; exact it8h.out.same (fun j _ h => b9.block j h)
          have hitB9 : Hid (IterAt w9 E8 E9 i9 0 sB) := by unfold Hid; rw [hE8, hE9, hsBe]; exact it9
          have bel9 : Hid (Below w7.heap.size w7 w9) := (hbh.out.trans (b8h.out.mono hbh.out.size)).trans (b9.mono (Nat.le_trans hbh.out.size b8h.out.size))
          have z1 : w7.heap.size ≤ S8 := by rw [hS8]; exact hbh.out.size
          have z2 : S8 ≤ E8 := by rw [hS8, hE8]; exact b8h.out.size
          have z3 : E8 ≤ E9 := by rw [hE8, hE9]; exact b9.size
          have hE9h := Lib.hid hE9
          have lA8 : sA.length ≤ 1000 := by rw [hsAe]; omega
          have lB8 : sB.length ≤ 1000 := by rw [hsBe]; omega
          have hsAh := Lib.hid hsAe
          have hsBh := Lib.hid hsBe
          have hlA9 := Lib.hid (itLen_any S8 E8 i8 sA w9 (by omega) hitA9.out)
          have hlB9 := Lib.hid (fun q => itLen_any E8 E9 i9 sB (w9.drewN q) (by omega) hitB9.out)
          clear it8h it9 b8h b9 hS8 hE8 hE9 hsAe hsBe hfB8 hsA8 hsB8
          go_wp2_with fail
          refine (unhide hlA9).mono ?_
          rintro e w' ⟨rfl, q3, rfl⟩
          go_wp2_with fail
          refine (unhide hlB9 q3).mono ?_
          rintro e w10 ⟨rfl, q4, hw10⟩
          have bel10 : Hid (Below w7.heap.size w7 w10) := by unfold Hid; rw [hw10]; exact below_draws (below_draws bel9.out q3) q4
          have hitAz : Hid (IterAt w10 S8 E8 i8 0 sA) := by unfold Hid; rw [hw10]; exact hitA9.out
          have hitBz : Hid (IterAt w10 E8 E9 i9 0 sB) := by unfold Hid; rw [hw10]; exact hitB9.out
          have hEz : E9 ≤ w10.heap.size := by rw [hw10]; exact Nat.le_of_eq hE9h.out
          clear hw10 hlA9 hlB9 hitA9 hitB9 bel9 hE9h
          by_cases hl9 : sA.length = sB.length
          · have hcmp9 : ((sA.length : Int) != (sB.length : Int)) = false := by rw [bne_eq_false_iff_eq]; omega
            have hl9h := Lib.hid hl9
            clear hl9
            have hneAz := Lib.hid (nodesOf_any S8 E8 i8 sA w10 (by omega) hitAz.out)
            go_wp2_with fail
            clear hcmp9
            refine (unhide hneAz).mono ?_
            rintro e w4z ⟨aAz, cAz, rfl, oAz, eAz, gAz⟩
            have ia1z := hitAz.out.1
            have ia2z := hitAz.out.2.1
            have ib1z := hitBz.out.1
            have hitB4z : Hid (IterAt w4z E8 E9 i9 0 sB) := hitBz.out.same (fun j h1 h2 => gAz.block j (by omega) (fun e => by injection e with e; omega))
            have bel4z : Hid (Below w7.heap.size w7 w4z) := bel10.out.grown gAz (by omega) (fun j e => by injection e with e; omega)
            have sz4z : E9 ≤ w4z.heap.size := Nat.le_trans hEz gAz.size
            have oAhz := Lib.hid oAz
            have eAhz := Lib.hid eAz
            have hneBz := Lib.hid (nodesOf_any E8 E9 i9 sB w4z (by omega) hitB4z.out)
            clear oAz eAz gAz hneAz
            go_wp2_with fail
            refine (unhide hneBz).mono ?_
            rintro e w5z ⟨aBz, cBz, rfl, oBz, eBz, gBz⟩
            have oA5z := oAhz.out.kept gBz (by
              cases hc : (Value.slice aAz sA.length cAz).ownBlock with
              | none => exact .inl rfl
              | some j => exact .inr (fun e => by injection e with e; have := eAhz.out j hc; omega))
            have bel5z : Hid (Below w7.heap.size w7 w5z) := bel4z.out.grown gBz (by omega) (fun j e => by injection e with e; omega)
            have sz5z : E9 ≤ w5z.heap.size := Nat.le_trans sz4z gBz.size
            have hsAz := Lib.hid (byId_any S8 sA.length cAz aAz sA w5z (by omega) oA5z)
            have oBhz := Lib.hid oBz
            have ltAz := oA5z.lt
            have ltBz := oBz.lt
            have ltAhz := Lib.hid ltAz
            have ltBhz := Lib.hid ltBz
            clear oA5z oBz eBz gBz hneBz ltAz ltBz oAhz
            go_wp2_with fail
            refine (unhide hsAz).mono ?_
            rintro e w6z ⟨rfl, oA6z, g6z⟩
            have oB6z := oBhz.out.kept g6z (by
              cases hc : (Value.slice aBz sB.length cBz).ownBlock with
              | none => exact .inl rfl
              | some j => exact .inr (fun e => by have h1 := (ltBhz.out j hc).1; have h2 := eAhz.out j e.symm; omega))
            have bel6z : Hid (Below w7.heap.size w7 w6z) := bel5z.out.grown g6z (by omega) (fun j e => by have := (ltAhz.out j e).1; omega)
            have sz6z : E9 ≤ w6z.heap.size := Nat.le_trans sz5z g6z.size
            have hsBz := Lib.hid (byId_any E8 sB.length cBz aBz sB w6z (by omega) oB6z)
            have oA6hz := Lib.hid oA6z
            clear oA6z oB6z g6z hsAz oBhz
            go_wp2_with fail
            refine (unhide hsBz).mono ?_
            rintro e w7z ⟨rfl, oB7z, g7z⟩
            have oA7z := oA6hz.out.kept g7z (by
              cases hc : (Value.slice aAz sA.length cAz).ownBlock with
              | none => exact .inl rfl
              | some j => exact .inr (fun e => by have h1 := (ltBhz.out j e.symm).1; have h2 := eAhz.out j hc; omega))
            have bel7z : Hid (Below w7.heap.size w7 w7z) := bel6z.out.grown g7z (by omega) (fun j e => by have := (ltBhz.out j e).1; omega)
            have sz7z : E9 ≤ w7z.heap.size := Nat.le_trans sz6z g7z.size
            have oA7hz := Lib.hid oA7z
            have oB7hz := Lib.hid oB7z
            clear oA7z oB7z g7z hsBz oA6hz
            go_wp2_with fail
            go_loopw [73] (fun i wi => ∃ m : Nat, wi = w7z ∧ m ≤ sA.length ∧ i = .int .i64 m ∧ (∀ j (hj : j < (asc sA).length), j < m → ∃ hb : j < (asc sB).length, (asc sA)[j] = (asc sB)[j])) (fun i _ => sA.length - (intOf i).toNat)
            case atStart => exact ⟨0, rfl, Nat.zero_le _, rfl, fun j _ h => absurd h (Nat.not_lt_zero _)⟩
            case round =>
              obtain ⟨m, hwi, hm, rfl, hQ⟩ := hrel
              have hQh := Lib.hid hQ
              have oAw := Lib.hid (hwi ▸ oA7hz.out)
              have oBw := Lib.hid (hwi ▸ oB7hz.out)
              have hww := Lib.hid hwi
              have belw : Hid (Below w7.heap.size w7 wr) := by unfold Hid; rw [hwi]; exact bel7z.out
              clear hQ hwi
              by_cases hmt : m < sA.length
              · have hmA : m < (asc sA).length := by rw [asc_length]; exact hmt
                have hmB : m < (asc sB).length := by rw [asc_length, ← hl9h.out]; exact hmt
                have hmB2 : (m : Int) < (sB.length : Int) := by have := hl9h.out; omega
                obtain ⟨gaz, rfl, _, _, _⟩ := owns_at oAw.out (by omega)
                obtain ⟨gbz, rfl, _, _, _⟩ := owns_at oBw.out (by have := hl9h.out; omega)
                obtain ⟨x2, hx2⟩ : ∃ x2, x2 = (asc sA)[m] := ⟨_, rfl⟩
                obtain ⟨y2, hy2⟩ : ∃ y2, y2 = (asc sB)[m] := ⟨_, rfl⟩
                have cAz : wr.cell? ⟨gaz, m, none⟩ = some (.iface 127 (.int .i64 x2)) := by rw [hx2]; exact owns_cell oAw.out (nodes_get _ m hmA)
                have cBz : wr.cell? ⟨gbz, m, none⟩ = some (.iface 127 (.int .i64 y2)) := by rw [hy2]; exact owns_cell oBw.out (nodes_get _ m hmB)
                have hx2h := Lib.hid hx2
                have hy2h := Lib.hid hy2
                clear hx2 hy2
                by_cases hxy2 : x2 = y2
                · subst hxy2
                  have hQ2 : Hid (∀ j (hj : j < (asc sA).length), j < m + 1 → ∃ hb : j < (asc sB).length, (asc sA)[j] = (asc sB)[j]) := by
                    intro j hj hjm
                    rcases Nat.lt_or_eq_of_le (Nat.le_of_lt_succ hjm) with h | h
                    · exact hQh.out j hj h
                    · subst h; exact ⟨hmB, by rw [← hx2h.out, ← hy2h.out]⟩
                  go_wp2_with (first
                    | (go_at_call 184; refine (id_any _ _).mono ?_; rintro e w' ⟨rfl, rfl⟩))
                  go_roundw
                  case rel => exact ⟨m + 1, hww.out, by omega, by go_num, hQ2.out⟩
                  case measure => simp [intOf]; omega
                · have hxy2' : (x2 != y2) = true := by rw [bne_iff_ne]; exact hxy2
                  have hfin : Hid (false = decide (eqP idsA outsA idsB outsB)) := (decide_eq_false (fun h => hxy2 (by
                    have hz := h.2 x (asc_mem.2 hxA)
                    rw [hx2h.out, hy2h.out]
                    have e : asc sA = asc sB := by rw [hsAh.out, hsBh.out]; exact hz
                    simp only [e]))).symm
                  have bel11 : Hid (Below w.heap.size w wr) := bel7.out.trans (belw.out.mono bel7.out.size)
                  clear hxy2
                  go_wp2_with (first
                    | (go_at_call 184; refine (id_any _ _).mono ?_; rintro e w' ⟨rfl, rfl⟩))
                  go_ret
                  exact ⟨ret_bool hfin.out, bel11.out⟩
              · have heq : asc sA = asc sB := List.ext_getElem (by rw [asc_length, asc_length]; exact hl9h.out) (fun j h1 h2 => by
                  obtain ⟨_, h⟩ := hQh.out j h1 (by rw [asc_length] at h1; omega)
                  exact h)
                have hP2 : Hid (∀ j (hj : j < (asc idsA).length), j < k + 1 → ∃ hb : j < (asc idsB).length, (asc idsA)[j] = (asc idsB)[j] ∧ asc (succOf idsA outsA (asc idsA)[j]) = asc (succOf idsB outsB (asc idsA)[j])) := by
                  intro j hj hjk
                  rcases Nat.lt_or_eq_of_le (Nat.le_of_lt_succ hjk) with h | h
                  · exact hPh.out j hj h
                  · subst h
                    refine ⟨hkB, by rw [← hxh.out, ← hyh.out], ?_⟩
                    rw [← hxh.out, ← hsAh.out, ← hsBh.out]; exact heq
                clear heq
                go_wp2_with fail
                go_roundw
                all_goals first
                  | (case rel => exact ⟨k + 1, by omega, by go_num, hP2.out, belw.out⟩)
                  | (case rel => ((repeat apply Exists.intro); exact ⟨⟨k + 1, by omega, by go_num, hP2.out, belw.out⟩, rfl⟩))
                  | (case measure => simp [intOf]; omega)
          · have hfin : Hid (false = decide (eqP idsA outsA idsB outsB)) := (decide_eq_false (fun h => hl9 (by
              have hz := congrArg List.length (h.2 x (asc_mem.2 hxA))
              rw [asc_length, asc_length] at hz
              rw [hsAh.out, hsBh.out]; exact hz))).symm
            have hne9 : ((sA.length : Int) != (sB.length : Int)) = true := by rw [bne_iff_ne]; omega
            have bel11 : Hid (Below w.heap.size w w10) := bel7.out.trans (bel10.out.mono bel7.out.size)
            clear hl9
            go_wp2_with fail
            go_ret
            exact ⟨ret_bool hfin.out, bel11.out⟩
        · have hxy' : (x != y) = true := by rw [bne_iff_ne]; exact hxy
          have hfin : Hid (false = decide (eqP idsA outsA idsB outsB)) := (decide_eq_false (fun h => hxy (by rw [hxh.out, hyh.out]; simp only [h.1]))).symm
          clear hxy
          go_wp2_with (first
            | (go_at_call 184; refine (id_any _ _).mono ?_; rintro e w' ⟨rfl, rfl⟩))
          go_ret
          exact ⟨ret_bool hfin.out, hbwr.out⟩
      · have hkn : k = idsA.length := by omega
        have hfin : Hid (true = decide (eqP idsA outsA idsB outsB)) := (decide_eq_true (by
          have hl : (asc idsA).length = (asc idsB).length := by rw [asc_length, asc_length]; exact hlenh.out
          refine ⟨List.ext_getElem hl (fun j h1 h2 => ?_), fun z hz => ?_⟩
          · obtain ⟨_, h, _⟩ := hPh.out j h1 (by rw [hkn, ← asc_length idsA]; exact h1)
            exact h
          · obtain ⟨j, hj, rfl⟩ := List.mem_iff_getElem.1 hz
            obtain ⟨_, _, h⟩ := hPh.out j hj (by rw [hkn, ← asc_length idsA]; exact hj)
            exact h)).symm
        clear hkn
        go_wp2_with fail
        go_ret
        exact ⟨ret_bool hfin.out, hbwr.out⟩
  · have hfin : Hid (false = decide (eqP idsA outsA idsB outsB)) := (decide_eq_false (fun h => hlen (by have := congrArg List.length h.1; rwa [asc_length, asc_length] at this))).symm
    have hne : ¬ ((idsA.length : Int) = (idsB.length : Int)) := by omega
    clear hw3
    have hne2 : ((idsA.length : Int) != (idsB.length : Int)) = true := by rw [bne_iff_ne]; exact hne
    go_wp2_with fail
    go_ret
    exact ⟨ret_bool hfin.out, hbw3.out⟩
end Go.Proofs.YthpjmjohdliohaaGreat

namespace Go.Proofs.YthpjmjohdliohaaGreat
open Go.RowKit

set_option maxRecDepth 100000 in
set_option maxHeartbeats 4000000 in
theorem topoEqUndUnd_any (pa pb : Nat) (idsA : List Int) (outsA insA : List (List Arc)) (idsB : List Int) (outsB insB : List (List Arc)) (w : World) (hA : idsA.length ≤ 1000) (hB : idsB.length ≤ 1000) (hpA : PlainAt w pa idsA outsA insA) (hpB : PlainAt w pb idsB outsB insB) :
    Calls Tryz.prog 35 #[.iface 62 (.agg #[.pointer (some ⟨pa, 0, none⟩)]), .iface 62 (.agg #[.pointer (some ⟨pb, 0, none⟩)])] w
      fun e w' => e = .returned (.bool (decide (eqP idsA outsA idsB outsB))) ∧ Below w.heap.size w w' := by
  have hnA := Lib.hid (nodesUnd_any pa idsA outsA insA w hA hpA)
  go_enter Tryz.func35, Tryz.ntmps35
  go_wp2_with fail
  refine (unhide hnA).mono ?_
  rintro e w1 ⟨ia, rfl, hit1, hb1⟩
  have hnB := Lib.hid (nodesUnd_any pb idsB outsB insB w1 hB (hpB.below hb1))
  have hit1h := Lib.hid hit1
  have hb1h := Lib.hid hb1
  have hpAh := Lib.hid hpA
  have hpBh := Lib.hid hpB
  clear hnA hit1 hb1 hpA hpB
  go_wp2_with fail
  refine (unhide hnB).mono ?_
  rintro e w2 ⟨ib, rfl, hit2, hb2⟩
  obtain ⟨E1, hE1⟩ : ∃ E1, E1 = w1.heap.size := ⟨_, rfl⟩
  obtain ⟨E2, hE2⟩ : ∃ E2, E2 = w2.heap.size := ⟨_, rfl⟩
  have hitA2 : Hid (IterAt w2 w.heap.size E1 ia 0 idsA) := by
    unfold Hid; rw [hE1]; exact hit1h.out.same (fun j _ h => hb2.block j h)
  have hitB2 : Hid (IterAt w2 E1 E2 ib 0 idsB) := by unfold Hid; rw [hE1, hE2]; exact hit2
  have hsz1 : w.heap.size ≤ E1 := by rw [hE1]; exact hb1h.out.size
  have hsz2 : E1 ≤ E2 := by rw [hE1, hE2]; exact hb2.size
  have hbw2 : Hid (Below w.heap.size w w2) := hb1h.out.trans (hb2.mono hb1h.out.size)
  have hE2w : Hid (E2 = w2.heap.size) := hE2
  have hlA := Lib.hid (itLen_any w.heap.size E1 ia idsA w2 (by omega) hitA2.out)
  have hlB := Lib.hid (fun q => itLen_any E1 E2 ib idsB (w2.drewN q) (by omega) hitB2.out)
  clear hit2 hb2 hE1 hE2 hit1h hnB
  go_wp2_with fail
  refine (unhide hlA).mono ?_
  rintro e w' ⟨rfl, q1, rfl⟩
  go_wp2_with fail
  refine (unhide hlB q1).mono ?_
  rintro e w3 ⟨rfl, q2, hw3⟩
  have hbw3 : Hid (Below w.heap.size w w3) := by unfold Hid; rw [hw3]; exact below_draws (below_draws hbw2.out q1) q2
  by_cases hlen : idsA.length = idsB.length
  · have hitA3 : Hid (IterAt w3 w.heap.size E1 ia 0 idsA) := by unfold Hid; rw [hw3]; exact hitA2.out
    have hitB3 : Hid (IterAt w3 E1 E2 ib 0 idsB) := by unfold Hid; rw [hw3]; exact hitB2.out
    have hE3 : E2 ≤ w3.heap.size := by rw [hw3]; exact Nat.le_of_eq hE2w.out
    clear hw3 hlA hlB hitA2 hitB2 hbw2 hE2w
    have hitA := hitA3
    have hitB := hitB3
    have hE := hE3
    have hcmp : ((idsA.length : Int) != (idsB.length : Int)) = false := by rw [bne_eq_false_iff_eq]; omega
    have hlenh := Lib.hid hlen
    clear hlen
    have hneA := Lib.hid (nodesOf_any w.heap.size E1 ia idsA w3 (by omega) hitA.out)
    go_wp2_with fail
    clear hcmp
    refine (unhide hneA).mono ?_
    rintro e w4 ⟨aA, cA, rfl, oA, eA, gA⟩
    have ia1 := hitA.out.1
    have ia2 := hitA.out.2.1
    have ib1 := hitB.out.1
    have hitB4 : Hid (IterAt w4 E1 E2 ib 0 idsB) := hitB.out.same (fun j h1 h2 => gA.block j (by omega) (fun e => by injection e with e; omega))
    have bel4 : Hid (Below w.heap.size w w4) := hbw3.out.grown gA (by omega) (fun j e => by injection e with e; omega)
    have sz4 : E2 ≤ w4.heap.size := Nat.le_trans hE gA.size
    have oAh := Lib.hid oA
    have eAh := Lib.hid eA
    have hneB := Lib.hid (nodesOf_any E1 E2 ib idsB w4 (by omega) hitB4.out)
    clear oA eA gA hneA
    go_wp2_with fail
    refine (unhide hneB).mono ?_
    rintro e w5 ⟨aB, cB, rfl, oB, eB, gB⟩
    have oA5 := oAh.out.kept gB (by
      cases hc : (Value.slice aA idsA.length cA).ownBlock with
      | none => exact .inl rfl
      | some j => exact .inr (fun e => by injection e with e; have := eAh.out j hc; omega))
    have bel5 : Hid (Below w.heap.size w w5) := bel4.out.grown gB (by omega) (fun j e => by injection e with e; omega)
    have sz5 : E2 ≤ w5.heap.size := Nat.le_trans sz4 gB.size
    have hsA := Lib.hid (byId_any w.heap.size idsA.length cA aA idsA w5 (by omega) oA5)
    have oBh := Lib.hid oB
    have ltA := oA5.lt
    have ltB := oB.lt
    have ltAh := Lib.hid ltA
    have ltBh := Lib.hid ltB
    clear oA5 oB eB gB hneB ltA ltB oAh
    go_wp2_with fail
    refine (unhide hsA).mono ?_
    rintro e w6 ⟨rfl, oA6, g6⟩
    have oB6 := oBh.out.kept g6 (by
      cases hc : (Value.slice aB idsB.length cB).ownBlock with
      | none => exact .inl rfl
      | some j => exact .inr (fun e => by have h1 := (ltBh.out j hc).1; have h2 := eAh.out j e.symm; omega))
    have bel6 : Hid (Below w.heap.size w w6) := bel5.out.grown g6 (by omega) (fun j e => by have := (ltAh.out j e).1; omega)
    have sz6 : E2 ≤ w6.heap.size := Nat.le_trans sz5 g6.size
    have hsB := Lib.hid (byId_any E1 idsB.length cB aB idsB w6 (by omega) oB6)
    have oA6h := Lib.hid oA6
    clear oA6 oB6 g6 hsA oBh
    go_wp2_with fail
    refine (unhide hsB).mono ?_
    rintro e w7 ⟨rfl, oB7, g7⟩
    have oA7 := oA6h.out.kept g7 (by
      cases hc : (Value.slice aA idsA.length cA).ownBlock with
      | none => exact .inl rfl
      | some j => exact .inr (fun e => by have h1 := (ltBh.out j e.symm).1; have h2 := eAh.out j hc; omega))
    have bel7 : Hid (Below w.heap.size w w7) := bel6.out.grown g7 (by omega) (fun j e => by have := (ltBh.out j e).1; omega)
    have sz7 : E2 ≤ w7.heap.size := Nat.le_trans sz6 g7.size
    have oA7h := Lib.hid oA7
    have oB7h := Lib.hid oB7
    clear oA7 oB7 g7 hsB oA6h
    go_wp2_with fail
    go_loopw [38] (fun i wr => ∃ k : Nat, k ≤ idsA.length ∧ i = .int .i64 k ∧ (∀ j (hj : j < (asc idsA).length), j < k → ∃ hb : j < (asc idsB).length, (asc idsA)[j] = (asc idsB)[j] ∧ asc (succOf idsA outsA (asc idsA)[j]) = asc (succOf idsB outsB (asc idsA)[j])) ∧
      Below w7.heap.size w7 wr) (fun i _ => idsA.length - (intOf i).toNat)
    case atStart => exact ⟨0, Nat.zero_le _, rfl, fun j _ h => absurd h (Nat.not_lt_zero _), Below.refl _ _⟩
    case round =>
      obtain ⟨k, hk, rfl, hP, hb⟩ := hrel
      have hPh := Lib.hid hP
      have hbh := Lib.hid hb
      have hbwr : Hid (Below w.heap.size w wr) := bel7.out.trans (hb.mono bel7.out.size)
      clear hP hb
      by_cases hlt : k < idsA.length
      · have hkA : k < (asc idsA).length := by rw [asc_length]; exact hlt
        have hkB : k < (asc idsB).length := by rw [asc_length, ← hlenh.out]; exact hlt
        have hltB : (k : Int) < (idsB.length : Int) := by have := hlenh.out; omega
        obtain ⟨ga, rfl, _, _, _⟩ := owns_at oA7h.out (by omega)
        obtain ⟨gb, rfl, _, _, _⟩ := owns_at oB7h.out (by have := hlenh.out; omega)
        obtain ⟨x, hx⟩ : ∃ x, x = (asc idsA)[k] := ⟨_, rfl⟩
        obtain ⟨y, hy⟩ : ∃ y, y = (asc idsB)[k] := ⟨_, rfl⟩
        have cA7 : wr.cell? ⟨ga, k, none⟩ = some (.iface 127 (.int .i64 x)) := by rw [hx]; exact cell_below hbh.out (owns_cell oA7h.out (nodes_get _ k hkA))
        have cB7 : wr.cell? ⟨gb, k, none⟩ = some (.iface 127 (.int .i64 y)) := by rw [hy]; exact cell_below hbh.out (owns_cell oB7h.out (nodes_get _ k hkB))
        have hxh := Lib.hid hx
        have hyh := Lib.hid hy
        clear hx hy
        by_cases hxy : x = y
        · subst hxy
          have hxA : x ∈ idsA := by rw [hxh.out]; exact asc_mem.1 (List.getElem_mem _)
          have hxB : x ∈ idsB := by rw [hyh.out]; exact asc_mem.1 (List.getElem_mem _)
          have hpA2 := hpAh.out.below hbwr.out
          have hpB2 := hpBh.out.below hbwr.out
          have hfA := Lib.hid (fromUnd_any pa idsA outsA insA x wr (by omega) hpA2 hxA)
          have hfB := Lib.hid (fun w8 (h : Below wr.heap.size wr w8) => fromUnd_any pb idsB outsB insB x w8 (by omega) (hpB2.below h) hxB)
          have hsA8 := succ_len hpA2 x
          have hsB8 := succ_len hpB2 x
          clear hpA2 hpB2
          go_wp2_with (first
            | (go_at_call 184; refine (id_any _ _).mono ?_; rintro e w' ⟨rfl, rfl⟩))
          refine (unhide hfA).mono ?_
          rintro e w8 ⟨i8, rfl, it8, b8⟩
          have hfB8 := Lib.hid (unhide hfB w8 b8)
          have it8h := Lib.hid it8
          have b8h := Lib.hid b8
          clear it8 b8 hfA hfB cA7 cB7
          go_wp2_with fail
          refine (unhide hfB8).mono ?_
          rintro e w9 ⟨i9, rfl, it9, b9⟩
          obtain ⟨S8, hS8⟩ : ∃ S8, S8 = wr.heap.size := ⟨_, rfl⟩
          obtain ⟨E8, hE8⟩ : ∃ E8, E8 = w8.heap.size := ⟨_, rfl⟩
          obtain ⟨E9, hE9⟩ : ∃ E9, E9 = w9.heap.size := ⟨_, rfl⟩
          obtain ⟨sA, hsAe⟩ : ∃ sA, sA = succOf idsA outsA x := ⟨_, rfl⟩
          obtain ⟨sB, hsBe⟩ : ∃ sB, sB = succOf idsB outsB x := ⟨_, rfl⟩
          have hitA9 : Hid (IterAt w9 S8 E8 i8 0 sA) := by
            unfold Hid; rw [hS8, hE8, hsAe]; exact it8h.out.same (fun j _ h => b9.block j h)
          have hitB9 : Hid (IterAt w9 E8 E9 i9 0 sB) := by unfold Hid; rw [hE8, hE9, hsBe]; exact it9
          have bel9 : Hid (Below w7.heap.size w7 w9) := (hbh.out.trans (b8h.out.mono hbh.out.size)).trans (b9.mono (Nat.le_trans hbh.out.size b8h.out.size))
          have z1 : w7.heap.size ≤ S8 := by rw [hS8]; exact hbh.out.size
          have z2 : S8 ≤ E8 := by rw [hS8, hE8]; exact b8h.out.size
          have z3 : E8 ≤ E9 := by rw [hE8, hE9]; exact b9.size
          have hE9h := Lib.hid hE9
          have lA8 : sA.length ≤ 1000 := by rw [hsAe]; omega
          have lB8 : sB.length ≤ 1000 := by rw [hsBe]; omega
          have hsAh := Lib.hid hsAe
          have hsBh := Lib.hid hsBe
          have hlA9 := Lib.hid (itLen_any S8 E8 i8 sA w9 (by omega) hitA9.out)
          have hlB9 := Lib.hid (fun q => itLen_any E8 E9 i9 sB (w9.drewN q) (by omega) hitB9.out)
          clear it8h it9 b8h b9 hS8 hE8 hE9 hsAe hsBe hfB8 hsA8 hsB8
          go_wp2_with fail
          refine (unhide hlA9).mono ?_
          rintro e w' ⟨rfl, q3, rfl⟩
          go_wp2_with fail
          refine (unhide hlB9 q3).mono ?_
          rintro e w10 ⟨rfl, q4, hw10⟩
          have bel10 : Hid (Below w7.heap.size w7 w10) := by unfold Hid; rw [hw10]; exact below_draws (below_draws bel9.out q3) q4
          have hitAz : Hid (IterAt w10 S8 E8 i8 0 sA) := by unfold Hid; rw [hw10]; exact hitA9.out
          have hitBz : Hid (IterAt w10 E8 E9 i9 0 sB) := by unfold Hid; rw [hw10]; exact hitB9.out
          have hEz : E9 ≤ w10.heap.size := by rw [hw10]; exact Nat.le_of_eq hE9h.out
          clear hw10 hlA9 hlB9 hitA9 hitB9 bel9 hE9h
          by_cases hl9 : sA.length = sB.length
          · have hcmp9 : ((sA.length : Int) != (sB.length : Int)) = false := by rw [bne_eq_false_iff_eq]; omega
            have hl9h := Lib.hid hl9
            clear hl9
            have hneAz := Lib.hid (nodesOf_any S8 E8 i8 sA w10 (by omega) hitAz.out)
            go_wp2_with fail
            clear hcmp9
            refine (unhide hneAz).mono ?_
            rintro e w4z ⟨aAz, cAz, rfl, oAz, eAz, gAz⟩
            have ia1z := hitAz.out.1
            have ia2z := hitAz.out.2.1
            have ib1z := hitBz.out.1
            have hitB4z : Hid (IterAt w4z E8 E9 i9 0 sB) := hitBz.out.same (fun j h1 h2 => gAz.block j (by omega) (fun e => by injection e with e; omega))
            have bel4z : Hid (Below w7.heap.size w7 w4z) := bel10.out.grown gAz (by omega) (fun j e => by injection e with e; omega)
            have sz4z : E9 ≤ w4z.heap.size := Nat.le_trans hEz gAz.size
            have oAhz := Lib.hid oAz
            have eAhz := Lib.hid eAz
            have hneBz := Lib.hid (nodesOf_any E8 E9 i9 sB w4z (by omega) hitB4z.out)
            clear oAz eAz gAz hneAz
            go_wp2_with fail
            refine (unhide hneBz).mono ?_
            rintro e w5z ⟨aBz, cBz, rfl, oBz, eBz, gBz⟩
            have oA5z := oAhz.out.kept gBz (by
              cases hc : (Value.slice aAz sA.length cAz).ownBlock with
              | none => exact .inl rfl
              | some j => exact .inr (fun e => by injection e with e; have := eAhz.out j hc; omega))
            have bel5z : Hid (Below w7.heap.size w7 w5z) := bel4z.out.grown gBz (by omega) (fun j e => by injection e with e; omega)
            have sz5z : E9 ≤ w5z.heap.size := Nat.le_trans sz4z gBz.size
            have hsAz := Lib.hid (byId_any S8 sA.length cAz aAz sA w5z (by omega) oA5z)
            have oBhz := Lib.hid oBz
            have ltAz := oA5z.lt
            have ltBz := oBz.lt
            have ltAhz := Lib.hid ltAz
            have ltBhz := Lib.hid ltBz
            clear oA5z oBz eBz gBz hneBz ltAz ltBz oAhz
            go_wp2_with fail
            refine (unhide hsAz).mono ?_
            rintro e w6z ⟨rfl, oA6z, g6z⟩
            have oB6z := oBhz.out.kept g6z (by
              cases hc : (Value.slice aBz sB.length cBz).ownBlock with
              | none => exact .inl rfl
              | some j => exact .inr (fun e => by have h1 := (ltBhz.out j hc).1; have h2 := eAhz.out j e.symm; omega))
            have bel6z : Hid (Below w7.heap.size w7 w6z) := bel5z.out.grown g6z (by omega) (fun j e => by have := (ltAhz.out j e).1; omega)
            have sz6z : E9 ≤ w6z.heap.size := Nat.le_trans sz5z g6z.size
            have hsBz := Lib.hid (byId_any E8 sB.length cBz aBz sB w6z (by omega) oB6z)
            have oA6hz := Lib.hid oA6z
            clear oA6z oB6z g6z hsAz oBhz
            go_wp2_with fail
            refine (unhide hsBz).mono ?_
            rintro e w7z ⟨rfl, oB7z, g7z⟩
            have oA7z := oA6hz.out.kept g7z (by
              cases hc : (Value.slice aAz sA.length cAz).ownBlock with
              | none => exact .inl rfl
              | some j => exact .inr (fun e => by have h1 := (ltBhz.out j e.symm).1; have h2 := eAhz.out j hc; omega))
            have bel7z : Hid (Below w7.heap.size w7 w7z) := bel6z.out.grown g7z (by omega) (fun j e => by have := (ltBhz.out j e).1; omega)
            have sz7z : E9 ≤ w7z.heap.size := Nat.le_trans sz6z g7z.size
            have oA7hz := Lib.hid oA7z
            have oB7hz := Lib.hid oB7z
            clear oA7z oB7z g7z hsBz oA6hz
            go_wp2_with fail
            go_loopw [73] (fun i wi => ∃ m : Nat, wi = w7z ∧ m ≤ sA.length ∧ i = .int .i64 m ∧ (∀ j (hj : j < (asc sA).length), j < m → ∃ hb : j < (asc sB).length, (asc sA)[j] = (asc sB)[j])) (fun i _ => sA.length - (intOf i).toNat)
            case atStart => exact ⟨0, rfl, Nat.zero_le _, rfl, fun j _ h => absurd h (Nat.not_lt_zero _)⟩
            case round =>
              obtain ⟨m, hwi, hm, rfl, hQ⟩ := hrel
              have hQh := Lib.hid hQ
              have oAw := Lib.hid (hwi ▸ oA7hz.out)
              have oBw := Lib.hid (hwi ▸ oB7hz.out)
              have hww := Lib.hid hwi
              have belw : Hid (Below w7.heap.size w7 wr) := by unfold Hid; rw [hwi]; exact bel7z.out
              clear hQ hwi
              by_cases hmt : m < sA.length
              · have hmA : m < (asc sA).length := by rw [asc_length]; exact hmt
                have hmB : m < (asc sB).length := by rw [asc_length, ← hl9h.out]; exact hmt
                have hmB2 : (m : Int) < (sB.length : Int) := by have := hl9h.out; omega
                obtain ⟨gaz, rfl, _, _, _⟩ := owns_at oAw.out (by omega)
                obtain ⟨gbz, rfl, _, _, _⟩ := owns_at oBw.out (by have := hl9h.out; omega)
                obtain ⟨x2, hx2⟩ : ∃ x2, x2 = (asc sA)[m] := ⟨_, rfl⟩
                obtain ⟨y2, hy2⟩ : ∃ y2, y2 = (asc sB)[m] := ⟨_, rfl⟩
                have cAz : wr.cell? ⟨gaz, m, none⟩ = some (.iface 127 (.int .i64 x2)) := by rw [hx2]; exact owns_cell oAw.out (nodes_get _ m hmA)
                have cBz : wr.cell? ⟨gbz, m, none⟩ = some (.iface 127 (.int .i64 y2)) := by rw [hy2]; exact owns_cell oBw.out (nodes_get _ m hmB)
                have hx2h := Lib.hid hx2
                have hy2h := Lib.hid hy2
                clear hx2 hy2
                by_cases hxy2 : x2 = y2
                · subst hxy2
                  have hQ2 : Hid (∀ j (hj : j < (asc sA).length), j < m + 1 → ∃ hb : j < (asc sB).length, (asc sA)[j] = (asc sB)[j]) := by
                    intro j hj hjm
                    rcases Nat.lt_or_eq_of_le (Nat.le_of_lt_succ hjm) with h | h
                    · exact hQh.out j hj h
                    · subst h; exact ⟨hmB, by rw [← hx2h.out, ← hy2h.out]⟩
                  go_wp2_with (first
                    | (go_at_call 184; refine (id_any _ _).mono ?_; rintro e w' ⟨rfl, rfl⟩))
                  go_roundw
                  case rel => exact ⟨m + 1, hww.out, by omega, by go_num, hQ2.out⟩
                  case measure => simp [intOf]; omega
                · have hxy2' : (x2 != y2) = true := by rw [bne_iff_ne]; exact hxy2
                  have hfin : Hid (false = decide (eqP idsA outsA idsB outsB)) := (decide_eq_false (fun h => hxy2 (by
                    have hz := h.2 x (asc_mem.2 hxA)
                    rw [hx2h.out, hy2h.out]
                    have e : asc sA = asc sB := by rw [hsAh.out, hsBh.out]; exact hz
                    simp only [e]))).symm
                  have bel11 : Hid (Below w.heap.size w wr) := bel7.out.trans (belw.out.mono bel7.out.size)
                  clear hxy2
                  go_wp2_with (first
                    | (go_at_call 184; refine (id_any _ _).mono ?_; rintro e w' ⟨rfl, rfl⟩))
                  go_ret
                  exact ⟨ret_bool hfin.out, bel11.out⟩
              · have heq : asc sA = asc sB := List.ext_getElem (by rw [asc_length, asc_length]; exact hl9h.out) (fun j h1 h2 => by
                  obtain ⟨_, h⟩ := hQh.out j h1 (by rw [asc_length] at h1; omega)
                  exact h)
                have hP2 : Hid (∀ j (hj : j < (asc idsA).length), j < k + 1 → ∃ hb : j < (asc idsB).length, (asc idsA)[j] = (asc idsB)[j] ∧ asc (succOf idsA outsA (asc idsA)[j]) = asc (succOf idsB outsB (asc idsA)[j])) := by
                  intro j hj hjk
                  rcases Nat.lt_or_eq_of_le (Nat.le_of_lt_succ hjk) with h | h
                  · exact hPh.out j hj h
                  · subst h
                    refine ⟨hkB, by rw [← hxh.out, ← hyh.out], ?_⟩
                    rw [← hxh.out, ← hsAh.out, ← hsBh.out]; exact heq
                clear heq
                go_wp2_with fail
                go_roundw
                all_goals first
                  | (case rel => exact ⟨k + 1, by omega, by go_num, hP2.out, belw.out⟩)
                  | (case rel => ((repeat apply Exists.intro); exact ⟨⟨k + 1, by omega, by go_num, hP2.out, belw.out⟩, rfl⟩))
                  | (case measure => simp [intOf]; omega)
          · have hfin : Hid (false = decide (eqP idsA outsA idsB outsB)) := (decide_eq_false (fun h => hl9 (by
              have hz := congrArg List.length (h.2 x (asc_mem.2 hxA))
              rw [asc_length, asc_length] at hz
              rw [hsAh.out, hsBh.out]; exact hz))).symm
            have hne9 : ((sA.length : Int) != (sB.length : Int)) = true := by rw [bne_iff_ne]; omega
            have bel11 : Hid (Below w.heap.size w w10) := bel7.out.trans (bel10.out.mono bel7.out.size)
            clear hl9
            go_wp2_with fail
            go_ret
            exact ⟨ret_bool hfin.out, bel11.out⟩
        · have hxy' : (x != y) = true := by rw [bne_iff_ne]; exact hxy
          have hfin : Hid (false = decide (eqP idsA outsA idsB outsB)) := (decide_eq_false (fun h => hxy (by rw [hxh.out, hyh.out]; simp only [h.1]))).symm
          clear hxy
          go_wp2_with (first
            | (go_at_call 184; refine (id_any _ _).mono ?_; rintro e w' ⟨rfl, rfl⟩))
          go_ret
          exact ⟨ret_bool hfin.out, hbwr.out⟩
      · have hkn : k = idsA.length := by omega
        have hfin : Hid (true = decide (eqP idsA outsA idsB outsB)) := (decide_eq_true (by
          have hl : (asc idsA).length = (asc idsB).length := by rw [asc_length, asc_length]; exact hlenh.out
          refine ⟨List.ext_getElem hl (fun j h1 h2 => ?_), fun z hz => ?_⟩
          · obtain ⟨_, h, _⟩ := hPh.out j h1 (by rw [hkn, ← asc_length idsA]; exact h1)
            exact h
          · obtain ⟨j, hj, rfl⟩ := List.mem_iff_getElem.1 hz
            obtain ⟨_, _, h⟩ := hPh.out j hj (by rw [hkn, ← asc_length idsA]; exact hj)
            exact h)).symm
        clear hkn
        go_wp2_with fail
        go_ret
        exact ⟨ret_bool hfin.out, hbwr.out⟩
  · have hfin : Hid (false = decide (eqP idsA outsA idsB outsB)) := (decide_eq_false (fun h => hlen (by have := congrArg List.length h.1; rwa [asc_length, asc_length] at this))).symm
    have hne : ¬ ((idsA.length : Int) = (idsB.length : Int)) := by omega
    clear hw3
    have hne2 : ((idsA.length : Int) != (idsB.length : Int)) = true := by rw [bne_iff_ne]; exact hne
    go_wp2_with fail
    go_ret
    exact ⟨ret_bool hfin.out, hbw3.out⟩
end Go.Proofs.YthpjmjohdliohaaGreat

namespace Go.Proofs.YthpjmjohdliohaaGreat
open Go.RowKit

/-- topo.Equal over whatever kinds. -/
theorem topoEq_any (dA dB : Bool) (pa pb : Nat) (idsA : List Int) (outsA insA : List (List Arc)) (idsB : List Int) (outsB insB : List (List Arc)) (w : World) (hA : idsA.length ≤ 1000) (hB : idsB.length ≤ 1000) (hpA : PlainAt w pa idsA outsA insA) (hpB : PlainAt w pb idsB outsB insB) :
    Calls Tryz.prog 35 #[openv dA pa, openv dB pb] w
      fun e w' => e = .returned (.bool (decide (eqP idsA outsA idsB outsB))) ∧ Below w.heap.size w w' := by
  cases dA <;> cases dB
  · exact topoEqUndUnd_any pa pb idsA outsA insA idsB outsB insB w hA hB hpA hpB
  · exact topoEqUndDir_any pa pb idsA outsA insA idsB outsB insB w hA hB hpA hpB
  · exact topoEqDirUnd_any pa pb idsA outsA insA idsB outsB insB w hA hB hpA hpB
  · exact topoEqDirDir_any pa pb idsA outsA insA idsB outsB insB w hA hB hpA hpB

set_option maxHeartbeats 1000000 in
theorem equal_any (a b : Gr) (an : Option Addr) (cn : Nat) (ae : Option Addr) (ce : Nat) (bn : Option Addr) (dn : Nat) (be : Option Addr) (de : Nat) (w : World) (hn : a.nodes.length ≤ 1000) (he : a.edges.length ≤ 1048576) (hn' : b.nodes.length ≤ 1000) (he' : b.edges.length ≤ 1048576)
    (hga : GrAt w a an cn ae) (hgb : GrAt w b bn dn be) (hoa : okGraph a = true) (hob : okGraph b = true) :
    Calls Tryz.prog 15 #[.agg #[.bool a.dir, .slice an a.nodes.length cn, .slice ae a.edges.length ce], .agg #[.bool b.dir, .slice bn b.nodes.length dn, .slice be b.edges.length de]] w
      fun e w' => e = .returned (.tuple #[.bool (decide (eqP (asc a.nodes) (outsOf a) (asc b.nodes) (outsOf b))), .bool false]) ∧ Below w.heap.size w w' := by
  obtain ⟨w2, hw2⟩ : ∃ w2, w2 = (w.alloc (.cells #[.bool a.dir, .slice an a.nodes.length cn, .slice ae a.edges.length ce] 25)).alloc (.cells #[.bool b.dir, .slice bn b.nodes.length dn, .slice be b.edges.length de] 25) := ⟨_, rfl⟩
  have hb2 : Below w.heap.size w w2 := by rw [hw2]; exact (alloc_below w _).trans ((alloc_below _ _).mono (by simp))
  have k1 : w2.cell? ⟨w.heap.size + 1, 0, none⟩ = some (.bool b.dir) ∧ w2.cell? ⟨w.heap.size + 1, 1, none⟩ = some (.slice bn b.nodes.length dn) ∧ w2.cell? ⟨w.heap.size + 1, 2, none⟩ = some (.slice be b.edges.length de) := by
    have h : w2.heap[w.heap.size + 1]? = some (.cells #[.bool b.dir, .slice bn b.nodes.length dn, .slice be b.edges.length de] 25 (0, 0)) := by
      rw [hw2]
      have := heap_alloc_new (w.alloc (.cells #[.bool a.dir, .slice an a.nodes.length cn, .slice ae a.edges.length ce] 25)) (.cells #[.bool b.dir, .slice bn b.nodes.length dn, .slice be b.edges.length de] 25)
      rwa [show (w.alloc (.cells #[.bool a.dir, .slice an a.nodes.length cn, .slice ae a.edges.length ce] 25)).heap.size = w.heap.size + 1 by simp] at this
    simp [World.cell?, h]
  have hopA := open_any a an cn ae ce w2 (by omega) he (hga.below hb2)
  have hopB := Lib.hid (fun w3 (h : Below w2.heap.size w2 w3) => open_any b bn dn be de w3 (by omega) he' ((hgb.below hb2).below h))
  have hlA := asc_length a.nodes
  have hlB := asc_length b.nodes
  have lA : (asc a.nodes).length ≤ 1000 := by omega
  have lB : (asc b.nodes).length ≤ 1000 := by omega
  have hw2h := Lib.hid hw2
  have hb2h := Lib.hid hb2
  have k1h := Lib.hid k1
  rw [hw2] at hopA
  have hopAh := Lib.hid hopA
  have hoah := Lib.hid hoa
  have hobh := Lib.hid hob
  clear hw2 hb2 k1 hopA hga hgb hoa hob hlA hlB
  go_enter Tryz.func15, Tryz.ntmps15
  go_wp2_with fail
  refine (unhide hopAh).mono ?_
  rintro e w3 ⟨pa, ba, rfl, hba, hb3, _, _, hpa, _⟩
  rw [← hw2h.out] at hb3
  rw [hoah.out] at hba
  subst hba
  have hpA := hpa hoah.out
  have hopB3 := Lib.hid (unhide hopB w3 hb3)
  have c0 := cell_below hb3 k1h.out.1
  have c1 := cell_below hb3 k1h.out.2.1
  have c2 := cell_below hb3 k1h.out.2.2
  have hb3h := Lib.hid hb3
  have hpAh := Lib.hid hpA
  obtain ⟨va, hva⟩ : ∃ va, va = openv a.dir pa := ⟨_, rfl⟩
  rw [← hva]
  have hvah := Lib.hid hva
  clear hpa hb3 hpA hva hopAh hopB
  go_wp2_with fail
  refine (unhide hopB3).mono ?_
  rintro e w4 ⟨pb, bb, rfl, hbb, hb4, _, _, hpb, _⟩
  rw [hobh.out] at hbb
  subst hbb
  have hpB := hpb hobh.out
  have htop := topoEq_any a.dir b.dir pa pb _ _ _ _ _ _ w4 lA lB (hpAh.out.below hb4) hpB
  have hbw4 : Hid (Below w.heap.size w w4) := hb2h.out.trans ((hb3h.out.mono hb2h.out.size).trans (hb4.mono (Nat.le_trans hb2h.out.size hb3h.out.size)))
  obtain ⟨vb, hvb⟩ : ∃ vb, vb = openv b.dir pb := ⟨_, rfl⟩
  rw [← hvb] at htop ⊢
  rw [← hvah.out] at htop
  have htoph := Lib.hid htop
  clear hpb hpB htop hb4 hvb hopB3 c0 c1 c2
  go_wp2_with fail
  refine (unhide htoph).mono ?_
  rintro e w5 ⟨rfl, hb5⟩
  have hb5' : Hid (Below w.heap.size w w5) := hbw4.out.trans (hb5.mono hbw4.out.size)
  clear hb5 htoph
  go_wp2_with fail
  go_ret2
  exact ⟨rfl, hb5'.out⟩
end Go.Proofs.YthpjmjohdliohaaGreat
