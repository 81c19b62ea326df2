/- append(s, make([]int, k)...) on a row of its own. -/
import Derived.Test.YtfihclhceakmdaaIter
import Derived.Lib.AppendZerosOnto
namespace Go.Proofs.Ytfihclhceakmdaa
open Go.RowKit Go.Lib

theorem zeros_one (z : Value) (n : Nat) : Builtin.zeroCells #[z] n = (List.replicate n z).toArray := by
  unfold Builtin.zeroCells
  apply Array.ext
  · simp
  · intro i h1 h2
    simp [Nat.mod_one]

theorem append_zeros_own {w : World} {base g n k cap : Nat} {xs : List Value} (h : w.ownsRow base 3 1 (.slice (some ⟨g, 0, none⟩) n cap) n xs) (hk : 0 < k) (hnk : n + k ≤ 1048576) (hbase : base ≤ w.heap.size) (ty : TypeId) :
    ∃ a' cap' w', (Builtin.append_ #[22, 3] ty #[.slice (some ⟨g, 0, none⟩) n cap, .int .i64 (k : Nat)]).run Try.prog w = .ok (.slice a' (n + k) cap') w' ∧ w'.ownsRow base 3 1 (.slice a' (n + k) cap') (n + k) (xs ++ List.replicate k (.int .i64 0)) ∧ w.grownBy w' (some g) ∧
      (a' = some ⟨g, 0, none⟩ ∨ a' = some ⟨w.heap.size, 0, none⟩) := by
  obtain ⟨i, hi, hz, hsize, hby⟩ := info_parts info_int
  have hlen : (xs ++ List.replicate k (Value.int .i64 0)).length = (n + k) * 1 := by
    have := h.1
    rw [List.length_append, List.length_replicate]; omega
  have hcells : (Value.int .i64 0).cells = #[.int .i64 0] := rfl
  obtain ⟨hl, h0 | ⟨g', cap', cur, hv, hbg, hg, hnc, hcm, hcs, htake⟩⟩ := h
  · cases h0.1
  · injection hv with h1 _ h3
    injection h1 with h1
    injection h1 with h1 _ _
    subst h1; subst h3
    by_cases hroom : n + k ≤ cap
    · have hst := run_storeCells_at Try.prog g n 3 (List.replicate k (Value.int .i64 0)) 0 cur w hg (by rw [List.length_replicate]; omega) (fun v hv => by rw [(List.mem_replicate.1 hv).2]; rfl)
      simp only [Nat.add_zero] at hst
      have hw : IntKind.i64.wrap (k : Int) = k := by rw [IntKind.wrap_i64]; omega
      have hneg : ¬ ((k : Int) < 0) := by omega
      have h48i : ¬ (281474976710656 < (k : Int) * (8 : Int)) := by omega
      have hk0 : k ≠ 0 := by omega
      rw [List.length_replicate] at hst
      obtain ⟨N, hN⟩ : ∃ N, N = (cur.toList.take n ++ List.replicate k (Value.int .i64 0) ++ cur.toList.drop (n + k)).toArray := ⟨_, rfl⟩
      rw [← hN] at hst
      refine ⟨some ⟨g, 0, none⟩, cap, w.setRow g N, ?_, ⟨hlen, .inr ⟨g, cap, N, rfl, hbg, setRow_heap w g cur N 3 _ hg, hroom, hcm, ?_, ?_⟩⟩, ⟨rfl, rfl, rfl, by simp, fun j _ hj => setRow_other w g j N (fun e => hj (by rw [e]))⟩, .inl rfl⟩
      · simp [Builtin.append_, run_underlying Try.underlying22, run_underlying Try.underlying3, sizeOf, typeInfo, zeroValue, hi, hz, hsize, hby, asInt, asIntOf, hw, hneg, h48i, hk0, hroom, Addr.add_lit, hcells, zeros_one, hst]
      · rw [hN]
        simp only [List.size_toArray, List.length_append, List.length_take, List.length_drop, Array.length_toList, List.length_replicate]
        omega
      · have htake' : cur.toList.take n = xs := by rw [← htake, Nat.mul_one]
        rw [hN, htake', ← hlen]
        simp only [List.append_assoc]
        rw [← List.append_assoc]
        exact List.take_left
    · have holds : ∀ j u, xs[j]? = some u → w.drew.cell? ((⟨g, 0, none⟩ : Addr).add j) = some u := fun j u hj => by
        have hj' : j < n := by
          have := (List.getElem?_eq_some_iff.1 hj).1; omega
        have : cur[j]? = some u := by
          rw [← htake, List.getElem?_take_of_lt (by omega), Array.getElem?_toList] at hj
          exact hj
        rw [Addr.add_mid, Nat.zero_add]
        show w.cell? ⟨g, j, none⟩ = some u
        simp [World.cell?, hg, this]
      have hf := run_firstCells_some (P := Try.prog) w.drew i.size n ⟨g, 0, none⟩ n cap xs (by rw [hsize]; exact hl) holds
      have hfit : Builtin.nextslicecap (n + k) cap * i.bytes ≤ 281474976710656 := growslice_fits (by omega) (by rw [hby]; omega)
      have hr := run_append_grow_zeros (P := Try.prog) w 22 3 ty 3 i (.int .i64 0) .i64 .i64 Try.underlying22 Try.underlying3 hi hz (some ⟨g, 0, none⟩) n cap xs hf k hk (by omega) (by omega) (by omega) (by rw [hby]; omega) hfit
      have hge := grownCap_ge w (n + k) cap 3
      have hcm' : grownCap w (n + k) cap 3 ≤ maxLen := grownCap_le_maxLen w (n + k) cap 3 (by unfold maxLen; omega)
      refine ⟨_, _, _, hr, ⟨hlen, .inr ⟨w.heap.size, _, _, rfl, hbase, heap_alloc_new w.drew _, hge, hcm', ?_, ?_⟩⟩, ⟨rfl, rfl, rfl, by simp, fun j hj _ => Below.heap_alloc w.drew _ j hj⟩, .inr rfl⟩
      · rw [hcells, zeros_one, zeros_one]
        simp only [Array.size_append, List.size_toArray, List.length_replicate]
        omega
      · rw [hcells, zeros_one, zeros_one]
        simp only [Array.toList_append, List.append_assoc]
        rw [← List.append_assoc, ← hlen]
        exact List.take_left
end Go.Proofs.Ytfihclhceakmdaa
