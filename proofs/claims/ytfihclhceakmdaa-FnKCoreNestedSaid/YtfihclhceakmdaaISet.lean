/- A map from int64 to int that the call has made: looked up, written.
   A set of nodes' numbers that the call has made: asked, added to, taken from. -/
import Derived.Test.YtfihclhceakmdaaBfs0
import Derived.Test.YtfihclhceakmdaaTarjanLaw
import Derived.Maps.Ext
namespace Go.Proofs.Ytfihclhceakmdaa
open Go.RowKit Go.Maps

/-- Block mb is a map of numbers; only nodes are its keys; what is absent counts as 0. -/
def IMapAt (w : World) (ids : List Int) (mb : Nat) (f : Int → Nat) : Prop :=
  ∃ D : DataW Unit, w.ownsMap Try.prog 2 (plainElem Try.prog 3) mb ids.length D ∧ (∀ l, Maps.has D l = true → ∃ x ∈ ids, l = .int .i64 x) ∧ ∀ x, D.atKey (.int .i64 x) (.lit (.int .i64 0)) = .lit (.int .i64 (f x))

/-- The bound on the entries by what the keys are. -/
theorem ownsMap_bound {ids : List Int} {w : World} {R : Value → Option (DataW Unit × List MemPlace)} {mb N : Nat} {D : DataW Unit} (h : w.ownsMap Try.prog 2 R mb N D) (hk : ∀ l, Maps.has D l = true → ∃ x ∈ ids, l = .int .i64 x) :
    w.ownsMap Try.prog 2 R mb ids.length D := by
  obtain ⟨es0, e0, hp, hkl⟩ := h.canon keyed64
  obtain ⟨es, clock, hb, F, hs, hD⟩ := h
  refine ⟨es, clock, hb, F, ?_, hD⟩
  have hes : es0 = (es.toList.map (WideElems.rg Try.prog 2 R)).foldr DataW.insert [] := by rw [hD] at e0; injection e0 with e0; exact e0.symm
  have hlen : es.size = es0.length := by rw [hes, length_sorted]; simp
  have hkey : ∀ p ∈ es0, ∃ x ∈ ids, p.1 = Lit.int .i64 x := fun p hp' => by
    refine hk _ ?_
    rw [e0, has_eq, List.any_eq_true]
    exact ⟨p, hp', WideAt.sameKey_self (hkl p hp')⟩
  have hap := apart_of_rising hp
  let num : Lit × DataW Unit → Int := fun p => match p.1 with | .int _ x => x | _ => 0
  have hnum : ∀ p ∈ es0, p.1 = Lit.int .i64 (num p) ∧ num p ∈ ids := fun p hp' => by
    obtain ⟨x, hx, e⟩ := hkey p hp'
    have : num p = x := by show (match p.1 with | .int _ x => x | _ => 0) = x; rw [e]
    rw [this]; exact ⟨e, hx⟩
  have hnd : (es0.map num).Nodup := by
    unfold List.Nodup
    rw [List.pairwise_map]
    refine hap.imp_of_mem fun {a b} ha hb' hab e => hab ?_
    rw [(hnum a ha).1, (hnum b hb').1, e]
  have := nodup_len hnd (m := ids) (fun x hx => by
    obtain ⟨p, hp', rfl⟩ := List.mem_map.1 hx
    exact (hnum p hp').2)
  rw [List.length_map] at this
  omega

theorem imap_new (w : World) (ids : List Int) : IMapAt (w.alloc (.map #[] 0)) ids w.heap.size (fun _ => 0) :=
  ⟨.map [], (World.ownsMap_made w _ _ _).mono (Nat.zero_le _), fun l h => by simp [Maps.has] at h, fun x => atKey_of_not_has (by simp [Maps.has]) _⟩

theorem IMapAt.lt {w : World} {ids : List Int} {mb : Nat} {f : Int → Nat} (h : IMapAt w ids mb f) : mb < w.heap.size := by
  obtain ⟨D, hown, _⟩ := h; exact hown.lt
theorem IMapAt.same {w w' : World} {ids : List Int} {mb : Nat} {f : Int → Nat} (h : IMapAt w ids mb f) (h1 : w'.heap[mb]? = w.heap[mb]?) : IMapAt w' ids mb f := by
  obtain ⟨D, ⟨es, clock, hb, r⟩, hD⟩ := h
  exact ⟨D, ⟨es, clock, h1.trans hb, r⟩, hD⟩

theorem imap_look {w : World} {ids : List Int} {mb : Nat} {f : Int → Nat} (h : IMapAt w ids mb f) {x : Int} (hx : In64 x) :
    (Instr.lookup 84 (.map (some mb)) (.int .i64 x) false).run Try.prog w = .ok (.int .i64 (f x)) w := by
  obtain ⟨D, hown, _, hat⟩ := h
  have hkey : keyOf Try.prog 2 (.int .i64 x) = some (.int .i64 x) := Maps.keyOf_int_mk Try.underlying2 hx
  obtain ⟨c, hrun, hc, _⟩ := hown.lookup_int keyed64 Try.underlying84 Try.underlying3 (Try.zeroValue3 w) hkey
  rw [hat x] at hc
  have h2 := (Lit.int.inj (DataW.lit.inj hc)).2
  rw [hrun, h2]

theorem imap_put {w : World} {ids : List Int} {mb : Nat} {f : Int → Nat} (h : IMapAt w ids mb f) {x : Int} (hx : In64 x) (hm : x ∈ ids) (hids : ids.length ≤ 1048576) (v : Nat) (hv : v ≤ 1048576) :
    ∃ w', (Instr.mapUpdate 84 (.map (some mb)) (.int .i64 x) (.int .i64 v)).run Try.prog w = .ok () w' ∧ IMapAt w' ids mb (upd f x v) ∧ w.grownBy w' (some mb) := by
  obtain ⟨D, hown, hk, hat⟩ := h
  have hkey : keyOf Try.prog 2 (.int .i64 x) = some (.int .i64 x) := Maps.keyOf_int_mk Try.underlying2 hx
  have hwf : (Lit.int .i64 (v : Int)).wf = true := WalkArith.wf_i64 (by omega)
  obtain ⟨w', hrun, ho, hg⟩ := hown.update keyed64 Try.underlying84 (by unfold maxLen; omega) hkey (plainElem_int Try.underlying3 hwf)
  have hkl : WideAt.IsKeyLit (.int .i64 x) := by simp [WideAt.IsKeyLit]
  have hk' : ∀ l, Maps.has (D.put (.int .i64 x) (.lit (.int .i64 v))) l = true → ∃ y ∈ ids, l = .int .i64 y := fun l hl => by
    by_cases e : l = .int .i64 x
    · exact ⟨x, hm, e⟩
    · rw [has_put_other e] at hl; exact hk l hl
  refine ⟨w', hrun, ⟨_, ownsMap_bound ho hk', hk', fun y => ?_⟩, hg⟩
  by_cases e : y = x
  · subst e
    rw [atKey_put_same (hown.canon keyed64 |> fun ⟨es, e, _⟩ => ⟨es, e⟩) hkl, upd_self]
  · rw [atKey_put_other (fun e' => e (Lit.int.inj e').2), hat y, upd_other _ _ e]

/-- m[x] = k at the operation, for the walk. -/
theorem wpList_imap_put (w : World) {ops : Array Oper} {rest : List Oper} {o : Oper} {a : Act} {Q : Exit → Act → World → Prop} (hg : o.guard = none) (m x v : Operand) (hop : o.op = Op.mapUpdate 84 m x v)
    {ids : List Int} {mb : Nat} {f : Int → Nat} (hm : a.eval m = .map (some mb)) (h : IMapAt w ids mb f) (y : Int) (hx : a.eval x = .int .i64 y) (hy : In64 y) (hmem : y ∈ ids) (hids : ids.length ≤ 1048576) (k : Nat) (hk : k ≤ 1048576) (hv : a.eval v = .int .i64 k)
    (hK : ∀ w', IMapAt w' ids mb (upd f y k) → w.grownBy w' (some mb) → wpList Try.prog ops Q rest (a.put o.dst undef) w') : wpList Try.prog ops Q (o :: rest) a w := by
  refine wpList_plain hg fun K' hK' => ?_
  obtain ⟨w', hrun, r1, r2⟩ := imap_put h hy hmem hids k hk
  unfold Oper.wp
  simp [execOp, hop, hm, hx, hv, hrun, Result.andThen]
  exact hK' _ _ (hK w' r1 r2)
end Go.Proofs.Ytfihclhceakmdaa

namespace Go.Proofs.Ytfihclhceakmdaa
open Go.RowKit Go.Maps

/-- Block mb is a set of numbers, of nodes alone. -/
def ISetAt (w : World) (ids : List Int) (mb : Nat) (s : List Int) : Prop :=
  ∃ D : DataW Unit, w.ownsMap Try.prog 2 unitElem mb ids.length D ∧ (∀ l, Maps.has D l = true → ∃ x ∈ ids, l = .int .i64 x) ∧ ∀ x, Maps.has D (.int .i64 x) = decide (x ∈ s)

theorem iset_new (w : World) (ids : List Int) : ISetAt (w.alloc (.map #[] 0)) ids w.heap.size [] :=
  ⟨.map [], (World.ownsMap_made w _ _ _).mono (Nat.zero_le _), fun l h => by simp [Maps.has] at h, fun x => by simp [Maps.has]⟩

theorem ISetAt.lt {w : World} {ids : List Int} {mb : Nat} {s : List Int} (h : ISetAt w ids mb s) : mb < w.heap.size := by
  obtain ⟨D, hown, _⟩ := h; exact hown.lt
theorem ISetAt.same {w w' : World} {ids : List Int} {mb : Nat} {s : List Int} (h : ISetAt w ids mb s) (h1 : w'.heap[mb]? = w.heap[mb]?) : ISetAt w' ids mb s := by
  obtain ⟨D, ⟨es, clock, hb, r⟩, hD⟩ := h
  exact ⟨D, ⟨es, clock, h1.trans hb, r⟩, hD⟩
theorem ISetAt.ext {w : World} {ids : List Int} {mb : Nat} {s t : List Int} (h : ISetAt w ids mb s) (e : ∀ x, x ∈ s ↔ x ∈ t) : ISetAt w ids mb t := by
  obtain ⟨D, ho, hk, hD⟩ := h
  exact ⟨D, ho, hk, fun x => by rw [hD x]; exact decide_eq_decide.2 (e x)⟩

/-- One number less. -/
def remI (s : List Int) (x : Int) : List Int := s.filter fun y => decide (y ≠ x)
theorem mem_remI {s : List Int} {x y : Int} : y ∈ remI s x ↔ y ∈ s ∧ y ≠ x := by simp [remI]

end Go.Proofs.Ytfihclhceakmdaa
