/- copy at elements of any number of cells, into a row that is owned whole; an owned row lengthened within its capacity. No program in sight. -/
import Derived.Test.YtagnmdhdogaijaaGreatBase
import Derived.Laws.CopyRow
import Derived.Laws.CopyOwn
import Derived.Deep.RegionLaw
import Derived.Lib.AppendZerosOnto
import Derived.Laws.Externs
import Derived.Lib.Overlaps
namespace Go.Proofs.YtagnmdhdogaijaaGreat
open Go.RowKit

section
variable {P : Program}

theorem run_copy_sized (w : World) (dT sT ty elem : TypeId) (g o dLen dCap : Nat) (a : Addr) (sLen sCap : Nat) (cur : Array Value) (t : TypeId) (cs : List Value) (size : Nat)
    (hu : P.underlying dT = some (.slice elem)) (hs : (P.info? elem).map (·.size) = some size)
    (hg : w.heap[g]? = some (.cells cur t (0, 0))) (hn : cs.length = Nat.min sLen dLen * size)
    (hsrc : ∀ j v, cs[j]? = some v → w.cell? (a.add j) = some v) (hfit : o + cs.length ≤ cur.size) (h1 : ∀ v ∈ cs, v.oneCell' = true) :
    (Builtin.copy_ #[dT, sT] ty #[.slice (some ⟨g, o, none⟩) dLen dCap, .slice (some a) sLen sCap]).run P w =
      .ok (goInt (Nat.min sLen dLen)) (w.setRow g (cur.toList.take o ++ cs ++ cur.toList.drop (o + cs.length)).toArray) := by
  have hl := run_loadCells_list (P := P) w a cs hsrc
  have hst := run_storeCells_at P g o t cs 0 cur w hg (by simpa using hfit) h1
  cases hq : P.info? elem with
  | none => simp [hq] at hs
  | some i =>
    have hi : i.size = size := by simpa [hq] using hs
    rw [hn] at hl
    simp [Builtin.copy_, run_underlying hu, Builtin.lenOf, Builtin.firstCells, sizeOf, typeInfo, hq, hi, hl, hst]

theorem take_splice {α : Type} {L xs cs : List α} {o : Nat} (ht : L.take xs.length = xs) (hfit : o + cs.length ≤ xs.length) :
    (L.take o ++ cs ++ L.drop (o + cs.length)).take xs.length = splice xs o cs := by
  obtain ⟨ys, rfl⟩ : ∃ ys, L = xs ++ ys := ⟨L.drop xs.length, by
    have h := List.take_append_drop xs.length L
    rw [ht] at h
    exact h.symm⟩
  have e1 : (xs ++ ys).take o = xs.take o := List.take_append_of_le_length (by omega)
  have e2 : (xs ++ ys).drop (o + cs.length) = xs.drop (o + cs.length) ++ ys := List.drop_append_of_le_length hfit
  have e3 : (splice xs o cs).length = xs.length := length_splice _ _ _ hfit
  have e4 : xs.take o ++ cs ++ (xs.drop (o + cs.length) ++ ys) = splice xs o cs ++ ys := by simp [splice]
  rw [e1, e2, e4, ← e3]
  exact List.take_left

/-- What copy leaves of an owned row. -/
theorem owns_copy {w : World} {base e size n cap g : Nat} {xs cs : List Value} (h : w.ownsRow base e size (.slice (some ⟨g, 0, none⟩) n cap) n xs) (o : Nat) (hfit : o + cs.length ≤ xs.length) :
    ∃ cur, w.heap[g]? = some (.cells cur e (0, 0)) ∧ o + cs.length ≤ cur.size ∧
      (w.setRow g (cur.toList.take o ++ cs ++ cur.toList.drop (o + cs.length)).toArray).ownsRow base e size (.slice (some ⟨g, 0, none⟩) n cap) n (splice xs o cs) ∧
      w.grownBy (w.setRow g (cur.toList.take o ++ cs ++ cur.toList.drop (o + cs.length)).toArray) (some g) := by
  obtain ⟨hl, h | ⟨g', cap', cur, hv, hg, hh, hn, hm, hs, ht⟩⟩ := h
  · simp at h
  · injection hv with hv _ hcap
    injection hv with hv
    injection hv with hv _ _
    subst hv; subst hcap
    have hle : xs.length ≤ cur.size := by
      have := congrArg List.length ht
      rw [List.length_take, Array.length_toList] at this
      omega
    refine ⟨cur, hh, by omega, ⟨by rw [length_splice _ _ _ hfit]; exact hl, .inr ⟨g, cap, _, rfl, hg, setRow_heap w g cur _ e _ hh, hn, hm, ?_, ?_⟩⟩,
      ⟨rfl, rfl, rfl, by simp, fun k _ hk => setRow_other w g k _ (fun e => hk (by simp [e]))⟩⟩
    · simp only [List.size_toArray, List.length_append, List.length_take, List.length_drop, Array.length_toList]
      omega
    · rw [← hl] at ht ⊢
      exact take_splice ht hfit

/-- An owned row within its capacity: one element more. -/
theorem owns_longer {w : World} {base e size n cap g : Nat} {xs : List Value} (h : w.ownsRow base e size (.slice (some ⟨g, 0, none⟩) n cap) n xs) (hc : n + 1 ≤ cap) :
    ∃ ex : List Value, ex.length = size ∧ w.ownsRow base e size (.slice (some ⟨g, 0, none⟩) (n + 1) cap) (n + 1) (xs ++ ex) := by
  obtain ⟨hl, h | ⟨g', cap', cur, hv, hg, hh, hn, hm, hs, ht⟩⟩ := h
  · simp at h
  · injection hv with hv _ hcap
    injection hv with hv
    injection hv with hv _ _
    subst hv; subst hcap
    have hle : (n + 1) * size ≤ cur.size := by rw [hs]; exact Nat.mul_le_mul_right _ hc
    have h1 : (n + 1) * size = n * size + size := by rw [Nat.add_mul, Nat.one_mul]
    refine ⟨(cur.toList.drop (n * size)).take size, ?_, ?_⟩
    · rw [List.length_take, List.length_drop, Array.length_toList]; omega
    · have e : cur.toList.take ((n + 1) * size) = xs ++ (cur.toList.drop (n * size)).take size := by
        rw [h1, List.take_add, ht]
      refine ⟨?_, .inr ⟨g, cap, cur, rfl, hg, hh, hc, hm, hs, e⟩⟩
      rw [List.length_append, hl, List.length_take, List.length_drop, Array.length_toList]
      omega

/-- An owned row cut to fewer elements. -/
theorem owns_cut {w : World} {base e size n cap g : Nat} {xs : List Value} (h : w.ownsRow base e size (.slice (some ⟨g, 0, none⟩) n cap) n xs) {i : Nat} (hi : i ≤ n) :
    w.ownsRow base e size (.slice (some ⟨g, 0, none⟩) i cap) i (xs.take (i * size)) := by
  obtain ⟨hl, h | ⟨g', cap', cur, hv, hg, hh, hn, hm, hs, ht⟩⟩ := h
  · simp at h
  · injection hv with hv _ hcap
    injection hv with hv
    injection hv with hv _ _
    subst hv; subst hcap
    have hle : i * size ≤ n * size := Nat.mul_le_mul_right _ hi
    refine ⟨by rw [List.length_take, hl]; omega, .inr ⟨g, cap, cur, rfl, hg, hh, by omega, hm, hs, ?_⟩⟩
    rw [← ht, List.take_take, Nat.min_eq_left hle]

theorem row_drew {w w' : World} {row : Option Nat} (h : w.drew.grownBy w' row) : w.grownBy w' row := ⟨h.os, h.tape, h.output, h.size, h.block⟩
theorem grown_trans {a b c : World} {row : Option Nat} (h : a.grownBy b row) (k : b.grownBy c row) : a.grownBy c row :=
  ⟨k.os.trans h.os, k.tape.trans h.tape, k.output.trans h.output, Nat.le_trans h.size k.size, fun i hi hne => (k.block i (Nat.lt_of_lt_of_le hi h.size) hne).trans (h.block i hi hne)⟩

theorem wpList_copy_run {w : World} {ops : Array Oper} {rest : List Oper} {o : Oper} {a : Act} {Q : Exit → Act → World → Prop} (hgd : o.guard = none) (d s : Operand) (t t' : TypeId)
    (ho : o.op = .call { callee := .builtin .copy, args := #[d, s], argTypes := #[t, t'] }) (v u : Value) (hd : a.eval d = v) (hs : a.eval s = u) {v' : Value} {w' : World}
    (hr : ∀ ty, (Builtin.copy_ #[t, t'] ty #[v, u]).run P w = .ok v' w') (h : wpList P ops Q rest (a.put o.dst v') w') : wpList P ops Q (o :: rest) a w :=
  wpList_plain hgd fun K hK => by
    unfold Oper.wp execOp
    simp only [ho, resolve, invoke, builtin, Sem.run_bind, Sem.run_pure, Result.andThen_ok, List.map_toArray, List.map_cons, List.map_nil, hd, hs, hr]
    exact hK _ _ h

theorem step_copy_run {ops : Array Oper} {o : Oper} {a : Act} {w : World} {K : Act → World → Prop} {Q : Exit → Act → World → Prop} {E : Prop}
    (hg : o.guard = none) (d x : Operand) (dT sT : TypeId) (hop : o.op = Op.call { callee := Callee.builtin Builtin.copy, args := #[d, x], argTypes := #[dT, sT] })
    (v u : Value) (hd : a.eval d = v) (hx : a.eval x = u) {v' : Value} {w' : World} (hr : ∀ ty, (Builtin.copy_ #[dT, sT] ty #[v, u]).run P w = .ok v' w') (hK : K (a.put o.dst v') w') :
    if Region.wanted o (yielded ops a.tmps) = true then Oper.wp P o a w K Q else E := by
  have hw : Region.wanted o (yielded ops a.tmps) = true := by simp [Region.wanted, hg]
  rw [if_pos hw]
  unfold Oper.wp
  simp [execOp, hop, resolve, invoke, builtin, hd, hx, hr, Result.andThen]
  exact hK
end
end Go.Proofs.YtagnmdhdogaijaaGreat
