/- slices.Insert at []arc of one arc, into a full row: a new row. -/
import Derived.Test.YtagnmdhdogaijaaGreatInsert
namespace Go.Proofs.YtagnmdhdogaijaaGreat
open Go.RowKit

theorem ins_new (xs zs : List Value) (z : Arc) {i m : Nat} (hz : zs.length = m * 2 + 2) (hm : xs.length = i * 2 + m * 2) :
    splice (splice (xs.take (i * 2) ++ zs) (i * 2) [.int .i64 z.1, .float .f64 z.2]) ((i + 1) * 2) (xs.drop (i * 2)) = xs.take (i * 2) ++ ([.int .i64 z.1, .float .f64 z.2] ++ xs.drop (i * 2)) := by
  have ht : (xs.take (i * 2)).length = i * 2 := by simp; omega
  have hA : splice (xs.take (i * 2) ++ zs) (i * 2) [.int .i64 (z.1 : Int), .float .f64 z.2] = (xs.take (i * 2) ++ [.int .i64 (z.1 : Int), .float .f64 z.2]) ++ zs.drop 2 := by
    unfold splice
    have e1 : (xs.take (i * 2) ++ zs).take (i * 2) = xs.take (i * 2) := by
      have := List.take_left (l₁ := xs.take (i * 2)) (l₂ := zs)
      rwa [ht] at this
    have e2 : (xs.take (i * 2) ++ zs).drop (i * 2 + ([.int .i64 (z.1 : Int), .float .f64 z.2] : List Value).length) = zs.drop 2 := by
      show (xs.take (i * 2) ++ zs).drop (i * 2 + 2) = _
      rw [List.drop_append, List.drop_eq_nil_of_le (by omega), ht]
      simp
    rw [e1, e2, List.append_assoc]
  rw [hA]
  have hl : (xs.take (i * 2) ++ ([.int .i64 (z.1 : Int), .float .f64 z.2] : List Value)).length = (i + 1) * 2 := by
    rw [List.length_append, ht]; show i * 2 + 2 = _; omega
  unfold splice
  have e1 : ((xs.take (i * 2) ++ ([.int .i64 (z.1 : Int), .float .f64 z.2] : List Value)) ++ zs.drop 2).take ((i + 1) * 2) = xs.take (i * 2) ++ [.int .i64 (z.1 : Int), .float .f64 z.2] := by
    have := List.take_left (l₁ := xs.take (i * 2) ++ ([.int .i64 (z.1 : Int), .float .f64 z.2] : List Value)) (l₂ := zs.drop 2)
    rwa [hl] at this
  have e2 : ((xs.take (i * 2) ++ ([.int .i64 (z.1 : Int), .float .f64 z.2] : List Value)) ++ zs.drop 2).drop ((i + 1) * 2 + (xs.drop (i * 2)).length) = [] :=
    List.drop_eq_nil_of_le (by rw [List.length_append, hl, List.length_drop, List.length_drop]; omega)
  rw [e1, e2, List.append_nil, List.append_assoc]

set_option maxRecDepth 100000 in
set_option maxHeartbeats 1000000 in
theorem insert_grow (base : Nat) (g : Nat) (n i : Nat) (l : List Arc) (z : Arc) (vb : Nat) (w : World) (hi : i < n) (hn : n ≤ 1048576) (hown : w.ownsRow base 172 2 (.slice (some ⟨g, 0, none⟩) n n) n (arcCells l)) (hbase : base ≤ w.heap.size)
    (hv : w.heap[vb]? = some (.cells #[.int .i64 z.1, .float .f64 z.2] 172 (0, 0))) :
    Calls Tryz.prog 120 #[.slice (some ⟨g, 0, none⟩) n n, .int .i64 i, .slice (some ⟨vb, 0, none⟩) 1 1] w (InsPost w base (some ⟨g, 0, none⟩) n n l i z) := by
  obtain ⟨i0, hi0, hz0, hz1, hz2⟩ := info_parts info_arc
  have hz3 : ¬ ((i : Int) = (n : Int)) := by omega
  have hl2 : (arcCells l).length = n * 2 := hown.1
  have hsz : (Tryz.prog.info? 172).map (·.size) = some 2 := by kernel_rfl
  have hgw : g < w.heap.size := by
    obtain ⟨g', h1, _, h2, _⟩ := owns_at hown (by omega)
    injection h1 with h1; injection h1 with h1 _ _; omega
  have hvw : vb < w.heap.size := lt_of_block hv
  have hkk : (n : Int) + 1 - (i : Int) = ((n + 1 - i : Nat) : Int) := by omega
  have hik : i + (n + 1 - i) = n + 1 := by omega
  have hold : (Builtin.firstCells i0.size i (.slice (some ⟨g, 0, none⟩) i n)).run Tryz.prog w.drew = .ok ((arcCells l).take (i * 2)).toArray w.drew := by
    rw [hz1]
    exact run_firstCells_some w.drew 2 i ⟨g, 0, none⟩ i n ((arcCells l).take (i * 2)) (by rw [List.length_take]; omega) (fun j v hj => by
      rw [Addr.add_mid, Nat.zero_add]
      rw [List.getElem?_take] at hj
      split at hj
      · exact owns_cell (w := w.drew) hown hj
      · cases hj)
  have hrz : ∀ ty, (Builtin.append_ #[146, 3] ty #[.slice (some ⟨g, 0, none⟩) i n, .int .i64 ((n : Int) + 1 - (i : Int))]).run Tryz.prog w =
      .ok (.slice (some ⟨w.heap.size, 0, none⟩) (n + 1) (grownCap w (n + 1) n 172)) (w.drew.alloc (.cells (((arcCells l).take (i * 2)).toArray ++ Builtin.zeroCells (Value.agg #[.int .i64 0, .float .f64 0]).cells (n + 1 - i) ++ Builtin.zeroCells (Value.agg #[.int .i64 0, .float .f64 0]).cells (grownCap w (n + 1) n 172 - (n + 1))) 172)) := fun ty => by
    have h := Lib.run_append_grow_zeros w 146 3 ty 172 i0 _ .i64 .i64 Tryz.underlying146 Tryz.underlying3 hi0 hz0 (some ⟨g, 0, none⟩) i n ((arcCells l).take (i * 2)) hold (n + 1 - i) (by omega) (by omega) (by omega) (by omega) (by rw [hz2]; omega) (by rw [hz2, hik]; exact growslice_fits (by omega) (by omega))
    rw [hik] at h
    rw [hkk]
    exact h
  have hGn : n + 1 ≤ grownCap w (n + 1) n 172 := grownCap_ge w _ _ _
  have hGm : grownCap w (n + 1) n 172 ≤ maxLen := grownCap_le_maxLen w _ _ _ (by unfold maxLen; omega)
  generalize grownCap w (n + 1) n 172 = G at hrz hGn hGm
  have hzl : (Builtin.zeroCells (Value.agg #[.int .i64 0, .float .f64 0]).cells (n + 1 - i)).size = (n - i) * 2 + 2 := by rw [size_zeroCells]; show (n + 1 - i) * 2 = _; omega
  have hW1 : (w.drew.alloc (.cells (((arcCells l).take (i * 2)).toArray ++ Builtin.zeroCells (Value.agg #[.int .i64 0, .float .f64 0]).cells (n + 1 - i) ++ Builtin.zeroCells (Value.agg #[.int .i64 0, .float .f64 0]).cells (G - (n + 1))) 172)).ownsRow w.heap.size 172 2
      (.slice (some ⟨w.heap.size, 0, none⟩) (n + 1) G) (n + 1) ((arcCells l).take (i * 2) ++ (Builtin.zeroCells (Value.agg #[.int .i64 0, .float .f64 0]).cells (n + 1 - i)).toList) := by
    refine ⟨by rw [List.length_append, List.length_take, hl2, Array.length_toList, hzl]; omega, .inr ⟨w.heap.size, G, _, rfl, Nat.le_refl _, heap_alloc_new w.drew _, hGn, hGm, ?_, ?_⟩⟩
    · rw [Array.size_append, Array.size_append, hzl, size_zeroCells, List.size_toArray, List.length_take, hl2]
      show min (i * 2) (n * 2) + ((n - i) * 2 + 2) + (G - (n + 1)) * 2 = G * 2
      omega
    · rw [Array.toList_append, Array.toList_append, List.toList_toArray]
      refine (List.take_append_of_le_length ?_).trans (List.take_of_length_le ?_)
      · rw [List.length_append, List.length_take, hl2, Array.length_toList, hzl]; omega
      · rw [List.length_append, List.length_take, hl2, Array.length_toList, hzl]; omega
  have hG1 : w.grownBy (w.drew.alloc (.cells (((arcCells l).take (i * 2)).toArray ++ Builtin.zeroCells (Value.agg #[.int .i64 0, .float .f64 0]).cells (n + 1 - i) ++ Builtin.zeroCells (Value.agg #[.int .i64 0, .float .f64 0]).cells (G - (n + 1))) 172)) none :=
    row_drew (World.grownBy_alloc w.drew _ none)
  generalize w.drew.alloc (.cells (((arcCells l).take (i * 2)).toArray ++ Builtin.zeroCells (Value.agg #[.int .i64 0, .float .f64 0]).cells (n + 1 - i) ++ Builtin.zeroCells (Value.agg #[.int .i64 0, .float .f64 0]).cells (G - (n + 1))) 172) = W1 at hW1 hG1 hrz
  generalize (Builtin.zeroCells (Value.agg #[.int .i64 0, .float .f64 0]).cells (n + 1 - i)).toList = zs at hW1
  have hcs : ((arcCells l).drop (i * 2)).length = (n - i) * 2 := by rw [List.length_drop, hl2, Nat.sub_mul]
  have hl1 : ((arcCells l).take (i * 2) ++ zs).length = (n + 1) * 2 := hW1.1
  have hvW : W1.heap[vb]? = some (.cells #[.int .i64 z.1, .float .f64 z.2] 172 (0, 0)) := by rw [hG1.block vb hvw (by simp)]; exact hv
  obtain ⟨cur, hcur, hfit, hW2, hG2⟩ := owns_copy (cs := [.int .i64 z.1, .float .f64 z.2]) hW1 (i * 2) (by rw [hl1]; show i * 2 + 2 ≤ _; omega)
  have hsrc : ∀ j v, ([.int .i64 z.1, .float .f64 z.2] : List Value)[j]? = some v → W1.cell? ((⟨vb, 0, none⟩ : Addr).add j) = some v := fun j v hj => by
    rw [Addr.add_mid]
    simp only [World.cell?, hvW, Nat.zero_add]
    simpa using hj
  have hcp1 : ∀ ty, (Builtin.copy_ #[146, 146] ty #[.slice (some ⟨w.heap.size, i * 2, none⟩) (n + 1 - i) (G - i), .slice (some ⟨vb, 0, none⟩) 1 1]).run Tryz.prog W1 = _ := fun ty =>
    run_copy_sized W1 _ _ ty 172 w.heap.size (i * 2) (n + 1 - i) (G - i) ⟨vb, 0, none⟩ 1 1 cur _ [.int .i64 z.1, .float .f64 z.2] 2 Tryz.underlying146 hsz hcur (by rw [show Nat.min 1 (n + 1 - i) = 1 from Nat.min_eq_left (by omega)]; rfl) hsrc hfit (by simp [Value.oneCell'])
  generalize W1.setRow w.heap.size (cur.toList.take (i * 2) ++ ([.int .i64 z.1, .float .f64 z.2] : List Value) ++ cur.toList.drop (i * 2 + ([.int .i64 z.1, .float .f64 z.2] : List Value).length)).toArray = W2 at hW2 hG2 hcp1
  have hl3 : (splice ((arcCells l).take (i * 2) ++ zs) (i * 2) [.int .i64 z.1, .float .f64 z.2]).length = (n + 1) * 2 := hW2.1
  obtain ⟨cur2, hcur2, hfit2, hW3, hG3⟩ := owns_copy (w := W2.drew) (cs := (arcCells l).drop (i * 2)) hW2 ((i + 1) * 2) (by rw [hl3, hcs]; omega)
  have hsrc2 : ∀ j v, ((arcCells l).drop (i * 2))[j]? = some v → W2.drew.cell? ((⟨g, i * 2, none⟩ : Addr).add j) = some v := fun j v hj => by
    rw [Addr.add_mid]
    rw [List.getElem?_drop] at hj
    have h0 := owns_cell hown hj
    have h1 : W1.cell? ⟨g, i * 2 + j, none⟩ = some v := hG1.cell h0 (by simp)
    have h2 : W2.cell? ⟨g, i * 2 + j, none⟩ = some v := hG2.cell h1 (by simp; omega)
    exact h2
  have hcp2 : ∀ ty, (Builtin.copy_ #[146, 146] ty #[.slice (some ⟨w.heap.size, (i + 1) * 2, none⟩) (n - i) (G - (i + 1)), .slice (some ⟨g, i * 2, none⟩) (n - i) (n - i)]).run Tryz.prog W2.drew = _ := fun ty =>
    run_copy_sized W2.drew _ _ ty 172 w.heap.size ((i + 1) * 2) (n - i) (G - (i + 1)) ⟨g, i * 2, none⟩ (n - i) (n - i) cur2 _ ((arcCells l).drop (i * 2)) 2 Tryz.underlying146 hsz hcur2 (by rw [show Nat.min (n - i) (n - i) = n - i from Nat.min_eq_left (by omega)]; exact hcs) hsrc2 hfit2 (fun v hv => arc_one l v (List.mem_of_mem_drop hv))
  generalize W2.drew.setRow w.heap.size (cur2.toList.take ((i + 1) * 2) ++ (arcCells l).drop (i * 2) ++ cur2.toList.drop ((i + 1) * 2 + ((arcCells l).drop (i * 2)).length)).toArray = W3 at hW3 hG3 hcp2
  have hfinal : Hid (W3.ownsRow base 172 2 (.slice (some ⟨w.heap.size, 0, none⟩) (n + 1) G) (n + 1) (arcCells (l.take i ++ z :: l.drop i))) := by
    have e1 : arcCells (l.take i ++ z :: l.drop i) = (arcCells l).take (i * 2) ++ ([.int .i64 z.1, .float .f64 z.2] ++ (arcCells l).drop (i * 2)) := by
      rw [arcCells_append, arcCells_take]
      show _ ++ (([.int .i64 (z.1 : Int), .float .f64 z.2] : List Value) ++ arcCells (l.drop i)) = _
      rw [arcCells_drop]
    rw [e1, ← ins_new (arcCells l) zs z (m := n - i) (by rw [List.length_append, List.length_take, hl2] at hl1; omega) (by rw [hl2]; omega)]
    exact owns_base hW3 hbase
  have hgrow : Hid (w.grownBy W3 (some g)) := by
    refine ⟨?_, ?_, ?_, ?_, fun k hk hne => ?_⟩
    · exact (hG3.os.trans hG2.os).trans hG1.os
    · exact (hG3.tape.trans hG2.tape).trans hG1.tape
    · exact (hG3.output.trans hG2.output).trans hG1.output
    · exact Nat.le_trans hG1.size (Nat.le_trans hG2.size hG3.size)
    · rw [hG3.block k (Nat.lt_of_lt_of_le hk (Nat.le_trans hG1.size hG2.size)) (by simp; omega)]
      show W2.heap[k]? = _
      rw [hG2.block k (Nat.lt_of_lt_of_le hk hG1.size) (by simp; omega), hG1.block k hk (by simp)]
  have hc0 := Lib.hid hrz
  have hc1 := Lib.hid hcp1
  have hc2 := Lib.hid hcp2
  have hG63 : G ≤ 9223372036854775807 := by unfold maxLen at hGm; omega
  have hGi : ¬ (G = i) := by omega
  have hGi1 : ¬ (G = i + 1) := by omega
  have hni : ¬ (n = i) := by omega
  have hIn2 : (i : Int) + 1 ≤ (n : Int) + 1 := by omega
  have hIn : (i : Int) ≤ (n : Int) := by omega
  have hw1 : IntKind.i64.wrap ((i : Int) + 1) = (i : Int) + 1 := by rw [IntKind.wrap_i64]; omega
  have hb1 : (0 : Int) ≤ (i : Int) + 1 := by omega
  have htn : ((i : Int) + 1).toNat = i + 1 := by omega
  clear hkk hik hold hrz hcp1 hcp2 hG1 hG2 hG3 hW1 hW2 hW3 hcs hl1 hl3 hvW hcur hcur2 hfit hfit2 hsrc hsrc2 hown hv hsz hl2 hzl hi0 hz0 hz1 hz2
  go_enter Tryz.func120, Tryz.ntmps120
  go_wp2_with (first
    | (at_builtin; refine Lib.wpList_append_run _ rfl (.tmp 34) (.tmp 39) 146 3 rfl _ _ rfl rfl _ _ (unhide hc0 _) ?_)
    | (with_reducible refine wpList_copy_run (o := ⟨some 45, _, _, _, _, _⟩) rfl (.tmp 43) (.tmp 44) 146 146 rfl (.slice (some ⟨w.heap.size, i * 2, none⟩) (n + 1 - i) (G - i)) (.slice (some ⟨vb, 0, none⟩) 1 1) rfl rfl (unhide hc1) ?_))
  go_region_law (refine step_copy_run rfl (.tmp 50) (.tmp 53) 146 146 rfl _ _ (by simp [Act.eval, Act.put]) (by simp [Act.eval, Act.put]) (unhide hc2) ?_)
  clear hw1 hb1 htn
  go_wp2
  go_ret
  exact ⟨some ⟨w.heap.size, 0, none⟩, G, rfl, hfinal.out, hgrow.out, .inr ⟨_, rfl, Nat.le_refl _⟩⟩
end Go.Proofs.YtagnmdhdogaijaaGreat
