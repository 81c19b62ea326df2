/- The definitions (spec): sortInts, hasInt, Nodes. -/
import Derived.Test.YtanbhibllilccaaGreatIter
import Derived.Deep.RegionLawGrows
import Derived.Laws.OwnMore
import Derived.Deep.AppendLies
import Derived.Deep.DeepCutAuto
import Derived.Maps.AppendAt
namespace Go.Proofs.YtanbhibllilccaaGreat
open Go.RowKit

/-- An append of an empty source: what stood first comes back. -/
theorem step_append_empty {P : Program} {ops : Array Oper} {o : Oper} {a : Act} {w : World} {K : Act → World → Prop} {Q : Exit → Act → World → Prop} {E : Prop}
    (hg : o.guard = none) (s x : Operand) (t : TypeId) (hop : o.op = Op.call { callee := Callee.builtin Builtin.append, args := #[s, x], argTypes := #[t, t] })
    (e : TypeId) (i : TypeInfo) (h1 : P.underlying t = some (.slice e)) (h2 : P.info? e = some i)
    (b : Addr) (n cap : Nat) (hs : a.eval s = .slice (some b) n cap) (hnc : n ≤ cap) (ao : Option Addr) (c : Nat) (hx : a.eval x = .slice ao 0 c)
    (hK : K (a.put o.dst (.slice (some b) n cap)) w) :
    if Region.wanted o (yielded ops a.tmps) = true then Oper.wp P o a w K Q else E := by
  have hw : Region.wanted o (yielded ops a.tmps) = true := by simp [Region.wanted, hg]
  rw [if_pos hw]
  have hrun : (Builtin.append_ #[t, t] o.type #[.slice (some b) n cap, .slice ao 0 c]).run P w = .ok (.slice (some b) n cap) w := by
    cases ao with
    | none => simp [Builtin.append_, run_underlying h1, sizeOf, typeInfo, h2, Builtin.lenOf, Builtin.firstCells, hnc, storeCells]
    | some d => simp [Builtin.append_, run_underlying h1, sizeOf, typeInfo, h2, Builtin.lenOf, Builtin.firstCells, hnc]; rfl
  unfold Oper.wp
  simp [execOp, hop, resolve, invoke, builtin, hs, hx, hrun, Result.andThen]
  exact hK

theorem asc_nil : asc [] = [] := List.eq_nil_of_length_eq_zero (by rw [asc_length]; rfl)

/-- A number laid into a list that ascends. -/
theorem asc_lay {zs : List Int} {x : Int} {k : Nat} (hk : k ≤ zs.length) (h1 : ∀ j (hj : j < (asc zs).length), k ≤ j → x < (asc zs)[j]) (h2 : ∀ (h : 0 < k), (asc zs)[k - 1]'(by rw [asc_length]; omega) ≤ x) :
    (asc zs).take k ++ x :: (asc zs).drop k = asc (zs ++ [x]) := by
  have hal := asc_length zs
  refine asc_unique ?_ ?_
  · refine List.perm_middle.trans ?_
    rw [List.take_append_drop]
    exact ((asc_perm zs).cons x).trans (List.perm_append_comm (l₁ := [x]) (l₂ := zs))
  · have hs := asc_sorted zs
    have hle : ∀ y ∈ (asc zs).take k, y ≤ x := fun y hy => by
      obtain ⟨j, hj, rfl⟩ := List.mem_iff_getElem.1 hy
      rw [List.length_take] at hj
      rw [List.getElem_take]
      have h3 := h2 (by omega)
      rcases Nat.lt_or_ge j (k - 1) with h | h
      · have := List.pairwise_iff_getElem.1 hs j (k - 1) (by omega) (by omega) h
        omega
      · have e : j = k - 1 := by omega
        subst e; exact h3
    have hge : ∀ y ∈ (asc zs).drop k, x < y := fun y hy => by
      obtain ⟨j, hj, rfl⟩ := List.mem_iff_getElem.1 hy
      rw [List.length_drop] at hj
      rw [List.getElem_drop]
      exact h1 (k + j) (by omega) (by omega)
    rw [List.pairwise_append]
    refine ⟨hs.sublist (List.take_sublist _ _), ?_, fun a ha b hb => ?_⟩
    · rw [List.pairwise_cons]
      exact ⟨fun y hy => by have := hge y hy; omega, hs.sublist (List.drop_sublist _ _)⟩
    · have h3 := hle a ha
      rcases List.mem_cons.1 hb with rfl | hb
      · exact h3
      · have := hge b hb; omega

end Go.Proofs.YtanbhibllilccaaGreat
