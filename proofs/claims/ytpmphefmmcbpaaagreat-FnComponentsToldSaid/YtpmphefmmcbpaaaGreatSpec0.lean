/- The definitions (spec): sortInts, hasInt, Nodes. -/
import Derived.Test.YtpmphefmmcbpaaaGreatIter
import Derived.Deep.RegionLawGrows
import Derived.Laws.OwnMore
import Derived.Deep.AppendLies
import Derived.Deep.DeepCutAuto
import Derived.Maps.AppendAt
namespace Go.Proofs.YtpmphefmmcbpaaaGreat
open Go.RowKit

/-- An append of an empty source: what stood first comes back. -/
theorem step_append_empty {P : Program} {ops : Array Oper} {o : Oper} {a : Act} {w : World} {K : Act → World → Prop} {Q : Exit → Act → World → Prop} {E : Prop}
    (hg : o.guard = none) (s x : Operand) (t : TypeId) (hop : o.op = Op.call { callee := Callee.builtin Builtin.append, args := #[s, x], argTypes := #[t, t] })
    (e : TypeId) (i : TypeInfo) (h1 : P.underlying t = some (.slice e)) (h2 : P.info? e = some i)
    (b : Addr) (n cap : Nat) (hs : a.eval s = .slice (some b) n cap) (hnc : n ≤ cap) (ao : Option Addr) (c : Nat) (hx : a.eval x = .slice ao 0 c)
    (hK : K (a.put o.dst (.slice (some b) n cap)) w) :
    if Region.wanted o (yielded ops a.tmps) = true then Oper.wp P o a w K Q else E := by
  have hw : Region.wanted o (yielded ops a.tmps) = true := by simp [Region.wanted, hg]
  rw [if_pos hw]
  have hrun : (Builtin.append_ #[t, t] o.type #[.slice (some b) n cap, .slice ao 0 c]).run P w = .ok (.slice (some b) n cap) w := by
    cases ao with
    | none => simp [Builtin.append_, run_underlying h1, sizeOf, typeInfo, h2, Builtin.lenOf, Builtin.firstCells, hnc, storeCells]
    | some d => simp [Builtin.append_, run_underlying h1, sizeOf, typeInfo, h2, Builtin.lenOf, Builtin.firstCells, hnc]; rfl
  unfold Oper.wp
  simp [execOp, hop, resolve, invoke, builtin, hs, hx, hrun, Result.andThen]
  exact hK

theorem asc_nil : asc [] = [] := List.eq_nil_of_length_eq_zero (by rw [asc_length]; rfl)

/-- A number laid into a list that ascends. -/
theorem asc_lay {zs : List Int} {x : Int} {k : Nat} (hk : k ≤ zs.length) (h1 : ∀ j (hj : j < (asc zs).length), k ≤ j → x < (asc zs)[j]) (h2 : ∀ (h : 0 < k), (asc zs)[k - 1]'(by rw [asc_length]; omega) ≤ x) :
    (asc zs).take k ++ x :: (asc zs).drop k = asc (zs ++ [x]) := by
  have hal := asc_length zs
  refine asc_unique ?_ ?_
  · refine List.perm_middle.trans ?_
    rw [List.take_append_drop]
    exact ((asc_perm zs).cons x).trans (List.perm_append_comm (l₁ := [x]) (l₂ := zs))
  · have hs := asc_sorted zs
    have hle : ∀ y ∈ (asc zs).take k, y ≤ x := fun y hy => by
      obtain ⟨j, hj, rfl⟩ := List.mem_iff_getElem.1 hy
      rw [List.length_take] at hj
      rw [List.getElem_take]
      have h3 := h2 (by omega)
      rcases Nat.lt_or_ge j (k - 1) with h | h
      · have := List.pairwise_iff_getElem.1 hs j (k - 1) (by omega) (by omega) h
        omega
      · have e : j = k - 1 := by omega
        subst e; exact h3
    have hge : ∀ y ∈ (asc zs).drop k, x < y := fun y hy => by
      obtain ⟨j, hj, rfl⟩ := List.mem_iff_getElem.1 hy
      rw [List.length_drop] at hj
      rw [List.getElem_drop]
      exact h1 (k + j) (by omega) (by omega)
    rw [List.pairwise_append]
    refine ⟨hs.sublist (List.take_sublist _ _), ?_, fun a ha b hb => ?_⟩
    · rw [List.pairwise_cons]
      exact ⟨fun y hy => by have := hge y hy; omega, hs.sublist (List.drop_sublist _ _)⟩
    · have h3 := hle a ha
      rcases List.mem_cons.1 hb with rfl | hb
      · exact h3
      · have := hge b hb; omega

set_option maxRecDepth 100000 in
set_option maxHeartbeats 4000000 in
theorem sortInts_any (a : Option Addr) (n cap : Nat) (zs : List Int) (w : World) (hl : n = zs.length) (hn : n ≤ 1000000) (hc : Cells w a (ints zs)) :
    Calls Tryz.prog 84 #[.slice a n cap] w fun e w' => ∃ a1 c1, e = .returned (.slice a1 n c1) ∧ w'.ownsRow w.heap.size 3 1 (.slice a1 n c1) n (ints (asc zs)) ∧ Below w.heap.size w w' := by
  subst hl
  have hch := Lib.hid hc
  clear hc
  go_enter Tryz.func84, Tryz.ntmps84
  go_wp2_with fail
  go_loopw [3, 5, 6, 9] (fun s _ _ iv wr => ∃ (j : Nat) (b : Option Addr) (cb : Nat), j ≤ zs.length ∧ iv = .int .i64 j ∧ s = .slice b j cb ∧ wr.ownsRow w.heap.size 3 1 (.slice b j cb) j (ints (asc (zs.take j))) ∧ Below w.heap.size w wr ∧ (j = 0 → b = none ∧ cb = 0)) (fun _ _ _ iv _ => zs.length - (intOf iv).toNat)
  case atStart => exact ⟨0, none, 0, Nat.zero_le _, rfl, rfl, by rw [List.take_zero, asc_nil]; exact World.ownsRow_nil _ _ _ _, Below.refl _ _, fun _ => ⟨rfl, rfl⟩⟩
  case round =>
    obtain ⟨j, b, cb, hj, rfl, rfl, hown, hb, hz0⟩ := hrel
    by_cases hlt : j < zs.length
    · obtain ⟨sb, so, rfl, _, hr⟩ := (hch.out.below hb).at (by rw [ints_length]; omega)
      have x0 := hr _ _ (ints_get zs j hlt)
      obtain ⟨x, hx⟩ : ∃ x, x = zs[j] := ⟨_, rfl⟩
      rw [← hx] at x0
      obtain ⟨ys, hys⟩ : ∃ ys, ys = asc (zs.take j) := ⟨_, rfl⟩
      have hyl : ys.length = j := by rw [hys, asc_length, List.length_take]; omega
      have htk : Hid (∀ k, k ≤ j → (∀ i (hi : i < ys.length), k ≤ i → x < ys[i]) → (∀ (h : 0 < k) (h' : k - 1 < ys.length), ys[k - 1] ≤ x) → ys.take k ++ x :: ys.drop k = asc (zs.take (j + 1))) := fun k hk h1 h2 => by
        subst hys
        rw [List.take_succ_eq_append_getElem hlt, ← hx]
        exact asc_lay (by rw [List.length_take]; omega) h1 (fun h => h2 h _)
      rw [← hys] at hown
      have hyh := Lib.hid hyl
      have hownh := Lib.hid hown
      have hbh := Lib.hid hb
      have hBs := hb.size
      clear hx hys hown hb hr hyl
      go_wp2_with fail
      go_loopw [6] (fun kv wr' => wr' = wr ∧ ∃ k : Nat, k ≤ j ∧ kv = .int .i64 k ∧ ∀ i (hi : i < ys.length), k ≤ i → x < ys[i]) (fun kv _ => (intOf kv).toNat)
      case atStart => exact ⟨rfl, j, Nat.le_refl _, rfl, fun i hi h => absurd hi (by have := hyh.out; omega)⟩
      case round =>
        obtain ⟨rfl, k, hk, rfl, hgt⟩ := hrel
        obtain ⟨i0, hi0, hz0', hz1, hz2⟩ := info_parts info_int
        have hnew : Hid (∀ (i : Nat) u, [Value.int .i64 x][i]? = some u → (wr.drew.alloc (.cells #[.int .i64 x] 3)).cell? ((⟨wr.heap.size, 0, none⟩ : Addr).add i) = some u) := new_one wr.drew _ _
        rcases Nat.eq_zero_or_pos j with hj0 | hj0
        · subst hj0
          obtain rfl : k = 0 := by omega
          have hy0 : ys = [] := List.eq_nil_of_length_eq_zero hyh.out
          subst hy0
          have hz : Hid ([x] = asc (zs.take (0 + 1))) := htk.out 0 (by omega) (fun i hi => by simp at hi) (fun h => absurd h (by omega))
          obtain ⟨rfl, rfl⟩ := hz0 rfl
          have hfin : Hid (∀ o v w2, w2.ownsRow (wr.drew.alloc o).heap.size 3 1 v (0 + 1) ([] ++ [.int .i64 x]) → (wr.drew.alloc o).grownBy w2 none → ∃ b2 cb2, v = .slice b2 1 cb2 ∧ w2.ownsRow w.heap.size 3 1 (.slice b2 1 cb2) 1 (ints (asc (zs.take (0 + 1)))) ∧ Below w.heap.size w w2) := fun o v w2 h1 h2 => by
            obtain ⟨b2, c2, rfl, _⟩ := owns_cells h1
            refine ⟨b2, c2, rfl, ?_, ((hbh.out.drew.alloc hBs o).grown h2 (by show _ ≤ ((wr.drew).alloc _).heap.size; simp; omega) (fun j e => by cases e))⟩
            rw [← hz.out]
            exact owns_base h1 (by show _ ≤ ((wr.drew).alloc _).heap.size; simp; omega)
          clear hz hgt htk
          have e0 : ((0 : Nat) : Int) = 0 := rfl
          simp only [e0]
          go_wp2_with fail
          go_region_law (first
            | (refine step_append_grows rfl (.tmp 31) (.tmp 37) 22 rfl 3 i0 (.int .i64 0) 1 8 Tryz.underlying22 hi0 hz0' hz1 hz2 rfl (by decide) none 0 0 [] rfl (fun _ => ⟨rfl, rfl⟩) rfl (fun b e => by cases e) ⟨wr.heap.size, 0, none⟩ 1 1 [.int .i64 x] rfl rfl hnew.out (one_int _) (by omega) (by unfold maxLen; omega) (by omega) ?_; intro v2 w2 hown2 hg2; obtain ⟨b2, cb2, rfl, s1, s2⟩ := hfin.out _ _ _ hown2 hg2; clear hown2 hg2))
          all_goals
            go_wp2_with fail
            go_roundw
            case rel => exact ⟨1, b2, cb2, by omega, by go_num, rfl, s1, s2, fun h => absurd h (by omega)⟩
            case measure => simp [intOf]; omega
        · obtain ⟨g, rfl, hgB, hgw, hjc⟩ := owns_at hownh.out hj0
          have hyl := hyh.out
          -- what stands behind the region
          have hreg : Hid (k ≤ j → (∀ (h : 0 < k) (h' : k - 1 < ys.length), ys[k - 1] ≤ x) → ∀ N, N = j + 1 → ∀ o v w2, w2.ownsRow (wr.drew.alloc o).heap.size 3 1 v N (ints (ys.take k ++ x :: ys.drop k)) → (wr.drew.alloc o).grownBy w2 none → ∃ b2 cb2, v = .slice b2 (j + 1) cb2 ∧ w2.ownsRow w.heap.size 3 1 (.slice b2 (j + 1) cb2) (j + 1) (ints (asc (zs.take (j + 1)))) ∧ Below w.heap.size w w2) := fun h1 h2 N hN o v w2 h3 h4 => by
            subst hN
            obtain ⟨b2, c2, rfl, _⟩ := owns_cells h3
            refine ⟨b2, c2, rfl, ?_, ((hbh.out.drew.alloc hBs o).grown h4 (by show _ ≤ ((wr.drew).alloc _).heap.size; simp; omega) (fun j e => by cases e))⟩
            rw [← htk.out k h1 hgt h2]
            exact owns_base h3 (by show _ ≤ ((wr.drew).alloc _).heap.size; simp; omega)
          have hold : Hid (∀ o w2, (wr.drew.alloc o).grownBy w2 none → ∀ (i : Nat) u, (ints (ys.take k))[i]? = some u → w2.cell? ((⟨g, 0, none⟩ : Addr).add i) = some u) := fun o w2 hg i u hi => by
            rw [Addr.add_mid, Nat.zero_add]
            have h1 : (ints ys)[i]? = some u := by
              unfold ints at hi ⊢
              rw [List.getElem?_map, List.getElem?_take] at hi
              rw [List.getElem?_map]
              split at hi
              · exact hi
              · cases hi
            have h2 := owns_cell hownh.out h1
            have h3 : (wr.drew.alloc o).cell? ⟨g, i, none⟩ = some u := cell_alloc (w := wr.drew) h2 o
            exact (World.cell?_of_block (hg.block g (by show g < ((wr.drew).alloc o).heap.size; simp; omega) (fun e => by cases e))).trans h3
          have hrest : Hid (∀ o, ∀ (i : Nat) u, (ints (ys.drop k))[i]? = some u → (wr.drew.alloc o).cell? ((⟨g, k, none⟩ : Addr).add i) = some u) := fun o i u hi => by
            rw [Addr.add_mid]
            have h1 : (ints ys)[k + i]? = some u := by
              unfold ints at hi ⊢
              rw [List.getElem?_map, List.getElem?_drop] at hi
              rw [List.getElem?_map]
              exact hi
            exact cell_alloc (w := wr.drew) (owns_cell hownh.out h1) o
          have hkc : (k : Int) ≤ (cb : Int) := by omega
          have hkj : (k : Int) ≤ (j : Int) := by omega
          have htl : (ints (ys.take k)).length = k := by rw [ints_length, List.length_take]; omega
          have hdl : (ints (ys.drop k)).length = j - k := by rw [ints_length, List.length_drop]; omega
          have hones : ∀ (l : List Int), ∀ u ∈ ints l, u.oneCell' = true := fun l u hu => by
            unfold ints at hu
            obtain ⟨z, _, rfl⟩ := List.mem_map.1 hu
            rfl
          have hns : Hid (∀ (w2 : World) (g1 c1 : Nat), w2.ownsRow (wr.drew.alloc (.cells #[.int .i64 x] 3)).heap.size 3 1 (.slice (some ⟨g1, 0, none⟩) (1 + (j - k)) c1) (1 + (j - k)) ([.int .i64 x] ++ ints (ys.drop k)) → ∀ (i : Nat) u, (ints (x :: ys.drop k))[i]? = some u → w2.cell? ((⟨g1, 0, none⟩ : Addr).add i) = some u) := fun w2 g1 c1 h i u hi => by
            rw [Addr.add_mid, Nat.zero_add]
            exact owns_cell h hi
          have hdis : Hid ((∀ (h : 0 < k) (h' : k - 1 < ys.length), ys[k - 1] ≤ x) ∨ ∃ r, k = r + 1 ∧ ∃ h' : r < ys.length, x < ys[r]) := by
            rcases k with _ | r
            · exact .inl fun h => absurd h (by omega)
            · rcases Int.lt_or_le x (ys[r]'(by omega)) with h | h
              · exact .inr ⟨r, rfl, by omega, h⟩
              · exact .inl fun _ _ => h
          rcases hdis.out with hstop | ⟨r, hkr, hr', hxy⟩
          · have hreg1 := Lib.hid (hreg.out hk hstop)
            have hall : ints (ys.take k ++ x :: ys.drop k) = ints (ys.take k) ++ ints (x :: ys.drop k) := by unfold ints; rw [List.map_append]
            have hcond : Hid (k = 0 ∨ ∃ r y, k = r + 1 ∧ wr.cell? ⟨g, r, none⟩ = some (.int .i64 y) ∧ ¬ x < y) := by
              rcases k with _ | r
              · exact .inl rfl
              · refine .inr ⟨r, ys[r]'(by omega), rfl, owns_cell hownh.out (ints_get ys r (by omega)), ?_⟩
                have := hstop (by omega) (by show r < ys.length; omega)
                simp only [Nat.add_sub_cancel] at this
                omega
            rw [hall] at hreg1
            have hlk : Hid (k + (1 + (j - k)) = j + 1) := by unfold Hid; omega
            clear hreg hstop hall hgt htk hdis
            rcases hcond.out with hk0 | ⟨r, y, hkr, hyc, hyx⟩
            · subst hk0
              have hck1 : ¬ cb = 0 := by omega
              have hck2 : ¬ (cb : Int) = 0 := by omega
              have e0 : ((0 : Nat) : Int) = 0 := rfl
              simp only [e0]
              go_wp2_with fail
              go_region_law (first
                | (refine step_append_grows rfl (.tmp 33) (.tmp 36) 22 rfl 3 i0 (.int .i64 0) 1 8 Tryz.underlying22 hi0 hz0' hz1 hz2 rfl (by decide) (some ⟨wr.heap.size, 0, none⟩) 1 1 [.int .i64 x] rfl (fun e => by cases e) rfl (fun b e => by injection e with e; subst e; exact hnew.out) ⟨g, 0, none⟩ (j - 0) (cb - 0) (ints (ys.drop 0)) rfl (by rw [hdl, Nat.mul_one]) (hrest.out _) (hones _) (by omega) (by unfold maxLen; omega) (by omega) ?_; intro v1 w1 hown1 hg1; obtain ⟨a1, c1, rfl, _⟩ := owns_cells hown1; obtain ⟨g1, rfl, _⟩ := owns_at hown1 (by omega))
                | (refine step_append_grows rfl (.tmp 31) (.tmp 37) 22 rfl 3 i0 (.int .i64 0) 1 8 Tryz.underlying22 hi0 hz0' hz1 hz2 rfl (by decide) (some ⟨g, 0, none⟩) 0 0 (ints (ys.take 0)) rfl (fun e => by cases e) (by rw [htl, Nat.mul_one]) (fun b e => by injection e with e; subst e; exact hold.out _ _ hg1) ⟨g1, 0, none⟩ (1 + (j - 0)) c1 (ints (x :: ys.drop 0)) rfl (by rw [ints_length, List.length_cons, List.length_drop]; omega) (hns.out _ _ _ hown1) (hones _) (by omega) (by unfold maxLen; omega) (by omega) ?_; intro v2 w2 hown2 hg2; obtain ⟨b2, cb2, rfl, s1, s2⟩ := hreg1.out _ hlk.out _ _ _ (owns_base hown2 hg1.size) (hg1.trans hg2); clear hown2 hg2))
              all_goals
                go_wp2_with fail
                go_roundw
                case rel => exact ⟨j + 1, b2, cb2, by omega, by go_num, rfl, s1, s2, fun h => absurd h (by omega)⟩
                case measure => simp [intOf]; omega
            · have hr1 : (k : Int) - 1 = (r : Int) := by omega
              have hr0 : (0 : Int) < (k : Int) := by omega
              have hrj : (r : Int) < (j : Int) := by omega
              clear hkr
              by_cases hkj2 : j = k
              · have hone1 : Hid (∀ (i : Nat) u, (ints (x :: ys.drop k))[i]? = some u → (wr.drew.alloc (.cells #[.int .i64 x] 3)).cell? ((⟨wr.heap.size, 0, none⟩ : Addr).add i) = some u) := by
                  have e : ys.drop k = [] := List.drop_eq_nil_of_le (by omega)
                  rw [e]
                  exact hnew.out
                subst hkj2
                go_wp2_with fail
                go_region_law (first
                  | (refine step_append_empty rfl (.tmp 33) (.tmp 36) 22 rfl 3 i0 Tryz.underlying22 hi0 ⟨wr.heap.size, 0, none⟩ 1 1 rfl (Nat.le_refl _) _ _ rfl ?_)
                  | (refine step_append_grows rfl (.tmp 31) (.tmp 37) 22 rfl 3 i0 (.int .i64 0) 1 8 Tryz.underlying22 hi0 hz0' hz1 hz2 rfl (by decide) (some ⟨g, 0, none⟩) j j (ints (ys.take j)) rfl (fun e => by cases e) (by rw [htl, Nat.mul_one]) (fun b e => by injection e with e; subst e; exact hold.out _ _ (World.grownBy.refl _ _)) ⟨wr.heap.size, 0, none⟩ 1 1 (ints (x :: ys.drop j)) rfl (by rw [ints_length, List.length_cons, List.length_drop]; omega) hone1.out (hones _) (by omega) (by unfold maxLen; omega) (by omega) ?_; intro v2 w2 hown2 hg2; obtain ⟨b2, cb2, rfl, s1, s2⟩ := hreg1.out _ rfl _ _ _ hown2 hg2; clear hown2 hg2))
                all_goals
                  go_wp2_with fail
                  go_roundw
                  case rel => exact ⟨j + 1, b2, cb2, by omega, by go_num, rfl, s1, s2, fun h => absurd h (by omega)⟩
                  case measure => simp [intOf]; omega
              · have hpos : 0 < j - k := by omega
                have hck1 : ¬ cb = k := by omega
                have hck2 : ¬ (cb : Int) = (k : Int) := by omega
                go_wp2_with fail
                go_region_law (first
                  | (refine step_append_grows rfl (.tmp 33) (.tmp 36) 22 rfl 3 i0 (.int .i64 0) 1 8 Tryz.underlying22 hi0 hz0' hz1 hz2 rfl (by decide) (some ⟨wr.heap.size, 0, none⟩) 1 1 [.int .i64 x] rfl (fun e => by cases e) rfl (fun b e => by injection e with e; subst e; exact hnew.out) ⟨g, k, none⟩ (j - k) (cb - k) (ints (ys.drop k)) rfl (by rw [hdl, Nat.mul_one]) (hrest.out _) (hones _) (by omega) (by unfold maxLen; omega) (by omega) ?_; intro v1 w1 hown1 hg1; obtain ⟨a1, c1, rfl, _⟩ := owns_cells hown1; obtain ⟨g1, rfl, _⟩ := owns_at hown1 (by omega))
                  | (refine step_append_grows rfl (.tmp 31) (.tmp 37) 22 rfl 3 i0 (.int .i64 0) 1 8 Tryz.underlying22 hi0 hz0' hz1 hz2 rfl (by decide) (some ⟨g, 0, none⟩) k k (ints (ys.take k)) rfl (fun e => by cases e) (by rw [htl, Nat.mul_one]) (fun b e => by injection e with e; subst e; exact hold.out _ _ hg1) ⟨g1, 0, none⟩ (1 + (j - k)) c1 (ints (x :: ys.drop k)) rfl (by rw [ints_length, List.length_cons, List.length_drop]; omega) (hns.out _ _ _ hown1) (hones _) (by omega) (by unfold maxLen; omega) (by omega) ?_; intro v2 w2 hown2 hg2; obtain ⟨b2, cb2, rfl, s1, s2⟩ := hreg1.out _ hlk.out _ _ _ (owns_base hown2 hg1.size) (hg1.trans hg2); clear hown2 hg2))
                all_goals
                  go_wp2_with fail
                  go_roundw
                  case rel => exact ⟨j + 1, b2, cb2, by omega, by go_num, rfl, s1, s2, fun h => absurd h (by omega)⟩
                  case measure => simp [intOf]; omega
          · clear hdis hreg hold hrest hns htk
            subst hkr
            have hgt2 : Hid (∀ i (hi : i < ys.length), r ≤ i → x < ys[i]) := fun i hi hri => by
              rcases Nat.lt_or_eq_of_le hri with h | h
              · exact hgt i hi h
              · subst h; exact hxy
            have hyc := owns_cell hownh.out (ints_get ys r hr')
            obtain ⟨y, hy⟩ : ∃ y, y = ys[r] := ⟨_, rfl⟩
            rw [← hy] at hyc hxy
            have hr1 : ((r + 1 : Nat) : Int) - 1 = (r : Int) := by omega
            have hr0 : (0 : Int) < ((r + 1 : Nat) : Int) := by omega
            have hrj : (r : Int) < (j : Int) := by omega
            clear hgt hy
            go_wp2_with fail
            go_roundw
            case rel => exact ⟨by first | rfl | trivial, r, by omega, by go_num, hgt2.out⟩
            case measure => simp [intOf]
    · have hjn : j = zs.length := by omega
      subst hjn
      rw [List.take_length] at hown
      have hownh := Lib.hid hown
      have hbh := Lib.hid hb
      clear hown hb
      go_wp2_with fail
      go_ret
      exact ⟨b, cb, rfl, hownh.out, hbh.out⟩
end Go.Proofs.YtpmphefmmcbpaaaGreat
