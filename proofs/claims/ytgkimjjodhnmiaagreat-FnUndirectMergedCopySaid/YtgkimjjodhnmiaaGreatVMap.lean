/- A map by numbers of nodes that the call has made, whatever its elements are: told by a function. -/
import Derived.Test.YtgkimjjodhnmiaaGreatISet
import Derived.Maps.OwnSet
namespace Go.Proofs.YtgkimjjodhnmiaaGreat
open Go.RowKit Go.Maps

/-- An element as it stands. -/
def heldElem (v : Value) : Option (DataW Value × List MemPlace) := some (.held v, [])
theorem heldElem_inv {v : Value} {d : DataW Value} {ps : List MemPlace} (h : heldElem v = some (d, ps)) : d = .held v := by
  unfold heldElem at h
  injection h with h
  injection h with h1 _
  exact h1.symm

/-- The bound on the entries by what the keys are. -/
theorem ownsMap_bound' {H : Type} {ids : List Int} {w : World} {R : Value → Option (DataW H × List MemPlace)} {mb N : Nat} {D : DataW H} (h : w.ownsMap Tryz.prog 2 R mb N D) (hk : ∀ l, Maps.has D l = true → ∃ x ∈ ids, l = .int .i64 x) :
    w.ownsMap Tryz.prog 2 R mb ids.length D := by
  obtain ⟨es0, e0, hp, hkl⟩ := h.canon keyed64
  obtain ⟨es, clock, hb, F, hs, hD⟩ := h
  refine ⟨es, clock, hb, F, ?_, hD⟩
  have hes : es0 = (es.toList.map (WideElems.rg Tryz.prog 2 R)).foldr DataW.insert [] := by rw [hD] at e0; injection e0 with e0; exact e0.symm
  have hlen : es.size = es0.length := by rw [hes, length_sorted]; simp
  have hkey : ∀ p ∈ es0, ∃ x ∈ ids, p.1 = Lit.int .i64 x := fun p hp' => by
    refine hk _ ?_
    rw [e0, has_eq, List.any_eq_true]
    exact ⟨p, hp', WideAt.sameKey_self (hkl p hp')⟩
  have hap := apart_of_rising hp
  let num : Lit × DataW H → Int := fun p => match p.1 with | .int _ x => x | _ => 0
  have hnum : ∀ p ∈ es0, p.1 = Lit.int .i64 (num p) ∧ num p ∈ ids := fun p hp' => by
    obtain ⟨x, hx, e⟩ := hkey p hp'
    have : num p = x := by show (match p.1 with | .int _ x => x | _ => 0) = x; rw [e]
    rw [this]; exact ⟨e, hx⟩
  have hnd : (es0.map num).Nodup := by
    unfold List.Nodup
    rw [List.pairwise_map]
    refine hap.imp_of_mem fun {a b} ha hb' hab e => hab ?_
    rw [(hnum a ha).1, (hnum b hb').1, e]
  have := nodup_len hnd (m := ids) (fun x hx => by
    obtain ⟨p, hp', rfl⟩ := List.mem_map.1 hx
    exact (hnum p hp').2)
  rw [List.length_map] at this
  omega

/-- What a map says of a key. -/
def saysOf (D : DataW Value) (x : Int) : Option Value → Prop
  | some v => Maps.has D (.int .i64 x) = true ∧ ∀ z, D.atKey (.int .i64 x) z = .held v
  | none => Maps.has D (.int .i64 x) = false

/-- Block mb is a map by numbers of nodes alone; f tells its elements. -/
def VMap (w : World) (ids : List Int) (mb : Nat) (f : Int → Option Value) : Prop :=
  ∃ D : DataW Value, w.ownsMap Tryz.prog 2 heldElem mb ids.length D ∧ (∀ l, Maps.has D l = true → ∃ x ∈ ids, l = .int .i64 x) ∧ ∀ x, saysOf D x (f x)

/-- f, but v at x. -/
def updV (f : Int → Option Value) (x : Int) (v : Option Value) : Int → Option Value := fun y => if y = x then v else f y
theorem updV_self (f : Int → Option Value) (x : Int) (v : Option Value) : updV f x v x = v := if_pos rfl
theorem updV_other (f : Int → Option Value) {x y : Int} (v : Option Value) (h : y ≠ x) : updV f x v y = f y := if_neg h

theorem vmap_new (w : World) (ids : List Int) : VMap (w.alloc (.map #[] 0)) ids w.heap.size (fun _ => none) :=
  ⟨.map [], (World.ownsMap_made w _ _ _).mono (Nat.zero_le _), fun l h => by simp [Maps.has] at h, fun x => by show Maps.has _ _ = false; simp [Maps.has]⟩

theorem VMap.lt {w : World} {ids : List Int} {mb : Nat} {f : Int → Option Value} (h : VMap w ids mb f) : mb < w.heap.size := by
  obtain ⟨D, hown, _⟩ := h; exact hown.lt
theorem VMap.same {w w' : World} {ids : List Int} {mb : Nat} {f : Int → Option Value} (h : VMap w ids mb f) (h1 : w'.heap[mb]? = w.heap[mb]?) : VMap w' ids mb f := by
  obtain ⟨D, ⟨es, clock, hb, r⟩, hD⟩ := h
  exact ⟨D, ⟨es, clock, h1.trans hb, r⟩, hD⟩
theorem VMap.congr {w : World} {ids : List Int} {mb : Nat} {f g : Int → Option Value} (h : VMap w ids mb f) (e : ∀ x, f x = g x) : VMap w ids mb g := by
  obtain ⟨D, h1, h2, h3⟩ := h
  exact ⟨D, h1, h2, fun x => by rw [← e x]; exact h3 x⟩

section
variable {w : World} {ids : List Int} {mb : Nat} {f : Int → Option Value} {t e : TypeId} {z : Value}

set_option maxRecDepth 100000 in
theorem vmap_look (h : VMap w ids mb f) (ht : Tryz.prog.underlying t = some (.map 2 e)) (hz : (zeroValue e).run Tryz.prog w = .ok z w) {x : Int} (hx : In64 x) {v : Value} (hv : f x = some v) :
    (Instr.lookup t (.map (some mb)) (.int .i64 x) false).run Tryz.prog w = .ok v w := by
  obtain ⟨D, hown, _, hat⟩ := h
  obtain ⟨u, ps, hrun, hu⟩ := hown.lookup keyed64 ht hz (zd := .held z) (zp := []) rfl (Maps.keyOf_int_mk Tryz.underlying2 hx)
  have h1 := hat x
  rw [hv] at h1
  have h2 := heldElem_inv hu
  rw [h1.2] at h2
  injection h2 with h2
  rw [hrun, h2]

set_option maxRecDepth 100000 in
theorem vmap_look_ok (h : VMap w ids mb f) (ht : Tryz.prog.underlying t = some (.map 2 e)) (hz : (zeroValue e).run Tryz.prog w = .ok z w) {x : Int} (hx : In64 x) :
    (Instr.lookup t (.map (some mb)) (.int .i64 x) true).run Tryz.prog w = .ok (.tuple #[(f x).getD z, .bool (f x).isSome]) w := by
  obtain ⟨D, hown, _, hat⟩ := h
  obtain ⟨u, ps, hrun, hu⟩ := hown.look_ok keyed64 ht hz (zd := .held z) (zp := []) rfl (Maps.keyOf_int_mk Tryz.underlying2 hx)
  have h1 := hat x
  have h2 := heldElem_inv hu
  cases hf : f x with
  | none =>
    rw [hf] at h1
    have h1' : Maps.has D (.int .i64 x) = false := h1
    rw [atKey_of_not_has h1'] at h2
    injection h2 with h2
    rw [hrun, h1', ← h2]; rfl
  | some v =>
    rw [hf] at h1
    rw [h1.2] at h2
    injection h2 with h2
    rw [hrun, h1.1, ← h2]; rfl

theorem vmap_put (h : VMap w ids mb f) (ht : Tryz.prog.underlying t = some (.map 2 e)) {x : Int} (hx : In64 x) (hm : x ∈ ids) (hids : ids.length ≤ 1048576) (v : Value) :
    ∃ w', (Instr.mapUpdate t (.map (some mb)) (.int .i64 x) v).run Tryz.prog w = .ok () w' ∧ VMap w' ids mb (updV f x (some v)) ∧ w.grownBy w' (some mb) := by
  obtain ⟨D, hown, hk, hat⟩ := h
  obtain ⟨w', hrun, ho, hg⟩ := hown.update keyed64 ht (by unfold maxLen; omega) (Maps.keyOf_int_mk Tryz.underlying2 hx) (val := v) (d := .held v) (ps := []) rfl
  have hkl : WideAt.IsKeyLit (.int .i64 x) := by simp [WideAt.IsKeyLit]
  have hmap : IsMap D := (hown.canon keyed64 |> fun ⟨es, e, _⟩ => ⟨es, e⟩)
  have hk' : ∀ l, Maps.has (D.put (.int .i64 x) (.held v)) l = true → ∃ y ∈ ids, l = .int .i64 y := fun l hl => by
    by_cases e : l = .int .i64 x
    · exact ⟨x, hm, e⟩
    · rw [has_put_other e] at hl; exact hk l hl
  refine ⟨w', hrun, ⟨_, ownsMap_bound' ho hk', hk', fun y => ?_⟩, hg⟩
  by_cases e : y = x
  · subst e
    rw [updV_self]
    exact ⟨has_put_same hmap hkl _, fun z => atKey_put_same hmap hkl _ _⟩
  · rw [updV_other f _ e]
    have hne : (Lit.int .i64 y) ≠ .int .i64 x := fun e' => e (Lit.int.inj e').2
    have := hat y
    cases hf : f y with
    | none => rw [hf] at this; show Maps.has _ _ = false; rw [has_put_other hne]; exact this
    | some u => rw [hf] at this; exact ⟨by rw [has_put_other hne]; exact this.1, fun z => by rw [atKey_put_other hne]; exact this.2 z⟩

theorem vmap_del (h : VMap w ids mb f) (ht : Tryz.prog.underlying t = some (.map 2 e)) {x : Int} (hx : In64 x) (ty : TypeId) :
    ∃ w', (Builtin.delete_ #[t, 2] ty #[.map (some mb), .int .i64 x]).run Tryz.prog w = .ok (.tuple #[]) w' ∧ VMap w' ids mb (updV f x none) ∧ w.grownBy w' (some mb) := by
  obtain ⟨D, hown, hk, hat⟩ := h
  obtain ⟨w', hrun, ho, hg⟩ := hown.drop keyed64 ht (Maps.keyOf_int_mk Tryz.underlying2 hx) ty
  have hk' : ∀ l, Maps.has (D.del (.int .i64 x)) l = true → ∃ y ∈ ids, l = .int .i64 y := fun l hl => by
    by_cases e : l = .int .i64 x
    · subst e; rw [has_del_same] at hl; cases hl
    · rw [has_del_other e] at hl; exact hk l hl
  refine ⟨w', hrun, ⟨_, ho, hk', fun y => ?_⟩, hg.grown⟩
  by_cases e : y = x
  · subst e
    rw [updV_self]
    exact has_del_same
  · rw [updV_other f _ e]
    have hne : (Lit.int .i64 y) ≠ .int .i64 x := fun e' => e (Lit.int.inj e').2
    have := hat y
    cases hf : f y with
    | none => rw [hf] at this; show Maps.has _ _ = false; rw [has_del_other hne]; exact this
    | some u => rw [hf] at this; exact ⟨by rw [has_del_other hne]; exact this.1, fun z => by rw [atKey_del_other hne]; exact this.2 z⟩
end
end Go.Proofs.YtgkimjjodhnmiaaGreat
