/- A map from int64 to int that the call has made: looked up, written.
   A set of nodes' numbers that the call has made: asked, added to, taken from. -/
import Derived.Test.YtgkimjjodhnmiaaGreatBfs0
import Derived.Test.YtgkimjjodhnmiaaGreatTarjanLaw
import Derived.Maps.Ext
namespace Go.Proofs.YtgkimjjodhnmiaaGreat
open Go.RowKit Go.Maps

/-- Block mb is a map of numbers; only nodes are its keys; what is absent counts as 0. -/
def IMapAt (w : World) (ids : List Int) (mb : Nat) (f : Int → Nat) : Prop :=
  ∃ D : DataW Unit, w.ownsMap Tryz.prog 2 (plainElem Tryz.prog 3) mb ids.length D ∧ (∀ l, Maps.has D l = true → ∃ x ∈ ids, l = .int .i64 x) ∧ ∀ x, D.atKey (.int .i64 x) (.lit (.int .i64 0)) = .lit (.int .i64 (f x))

/-- The bound on the entries by what the keys are. -/
theorem ownsMap_bound {ids : List Int} {w : World} {R : Value → Option (DataW Unit × List MemPlace)} {mb N : Nat} {D : DataW Unit} (h : w.ownsMap Tryz.prog 2 R mb N D) (hk : ∀ l, Maps.has D l = true → ∃ x ∈ ids, l = .int .i64 x) :
    w.ownsMap Tryz.prog 2 R mb ids.length D := by
  obtain ⟨es0, e0, hp, hkl⟩ := h.canon keyed64
  obtain ⟨es, clock, hb, F, hs, hD⟩ := h
  refine ⟨es, clock, hb, F, ?_, hD⟩
  have hes : es0 = (es.toList.map (WideElems.rg Tryz.prog 2 R)).foldr DataW.insert [] := by rw [hD] at e0; injection e0 with e0; exact e0.symm
  have hlen : es.size = es0.length := by rw [hes, length_sorted]; simp
  have hkey : ∀ p ∈ es0, ∃ x ∈ ids, p.1 = Lit.int .i64 x := fun p hp' => by
    refine hk _ ?_
    rw [e0, has_eq, List.any_eq_true]
    exact ⟨p, hp', WideAt.sameKey_self (hkl p hp')⟩
  have hap := apart_of_rising hp
  let num : Lit × DataW Unit → Int := fun p => match p.1 with | .int _ x => x | _ => 0
  have hnum : ∀ p ∈ es0, p.1 = Lit.int .i64 (num p) ∧ num p ∈ ids := fun p hp' => by
    obtain ⟨x, hx, e⟩ := hkey p hp'
    have : num p = x := by show (match p.1 with | .int _ x => x | _ => 0) = x; rw [e]
    rw [this]; exact ⟨e, hx⟩
  have hnd : (es0.map num).Nodup := by
    unfold List.Nodup
    rw [List.pairwise_map]
    refine hap.imp_of_mem fun {a b} ha hb' hab e => hab ?_
    rw [(hnum a ha).1, (hnum b hb').1, e]
  have := nodup_len hnd (m := ids) (fun x hx => by
    obtain ⟨p, hp', rfl⟩ := List.mem_map.1 hx
    exact (hnum p hp').2)
  rw [List.length_map] at this
  omega

theorem imap_new (w : World) (ids : List Int) : IMapAt (w.alloc (.map #[] 0)) ids w.heap.size (fun _ => 0) :=
  ⟨.map [], (World.ownsMap_made w _ _ _).mono (Nat.zero_le _), fun l h => by simp [Maps.has] at h, fun x => atKey_of_not_has (by simp [Maps.has]) _⟩

theorem IMapAt.lt {w : World} {ids : List Int} {mb : Nat} {f : Int → Nat} (h : IMapAt w ids mb f) : mb < w.heap.size := by
  obtain ⟨D, hown, _⟩ := h; exact hown.lt
theorem IMapAt.same {w w' : World} {ids : List Int} {mb : Nat} {f : Int → Nat} (h : IMapAt w ids mb f) (h1 : w'.heap[mb]? = w.heap[mb]?) : IMapAt w' ids mb f := by
  obtain ⟨D, ⟨es, clock, hb, r⟩, hD⟩ := h
  exact ⟨D, ⟨es, clock, h1.trans hb, r⟩, hD⟩

end Go.Proofs.YtgkimjjodhnmiaaGreat

namespace Go.Proofs.YtgkimjjodhnmiaaGreat
open Go.RowKit Go.Maps

/-- Block mb is a set of numbers, of nodes alone. -/
def ISetAt (w : World) (ids : List Int) (mb : Nat) (s : List Int) : Prop :=
  ∃ D : DataW Unit, w.ownsMap Tryz.prog 2 unitElem mb ids.length D ∧ (∀ l, Maps.has D l = true → ∃ x ∈ ids, l = .int .i64 x) ∧ ∀ x, Maps.has D (.int .i64 x) = decide (x ∈ s)

theorem iset_new (w : World) (ids : List Int) : ISetAt (w.alloc (.map #[] 0)) ids w.heap.size [] :=
  ⟨.map [], (World.ownsMap_made w _ _ _).mono (Nat.zero_le _), fun l h => by simp [Maps.has] at h, fun x => by simp [Maps.has]⟩

theorem ISetAt.lt {w : World} {ids : List Int} {mb : Nat} {s : List Int} (h : ISetAt w ids mb s) : mb < w.heap.size := by
  obtain ⟨D, hown, _⟩ := h; exact hown.lt
theorem ISetAt.same {w w' : World} {ids : List Int} {mb : Nat} {s : List Int} (h : ISetAt w ids mb s) (h1 : w'.heap[mb]? = w.heap[mb]?) : ISetAt w' ids mb s := by
  obtain ⟨D, ⟨es, clock, hb, r⟩, hD⟩ := h
  exact ⟨D, ⟨es, clock, h1.trans hb, r⟩, hD⟩
theorem ISetAt.ext {w : World} {ids : List Int} {mb : Nat} {s t : List Int} (h : ISetAt w ids mb s) (e : ∀ x, x ∈ s ↔ x ∈ t) : ISetAt w ids mb t := by
  obtain ⟨D, ho, hk, hD⟩ := h
  exact ⟨D, ho, hk, fun x => by rw [hD x]; exact decide_eq_decide.2 (e x)⟩

theorem isetAdd_any (ids : List Int) (mb : Nat) (s : List Int) (x : Int) (w : World) (hx : In64 x) (hm : x ∈ ids) (hids : ids.length ≤ 1048576) (hs : ISetAt w ids mb s) :
    Calls Tryz.prog 117 #[.map (some mb), .int .i64 x] w
      fun e w' => e = .returned (.tuple #[]) ∧ ISetAt w' ids mb (x :: s) ∧ w.grownBy w' (some mb) := by
  obtain ⟨D, hown, hk, hD⟩ := hs
  have hkey : keyOf Tryz.prog 2 (.int .i64 x) = some (.int .i64 x) := Maps.keyOf_int_mk Tryz.underlying2 hx
  have hput : ∀ y, Maps.has (D.put (.int .i64 x) (.agg [])) (.int .i64 y) = decide (y ∈ x :: s) := fun y => by
    by_cases h : y = x
    · subst h
      rw [Maps.has_put_same hown.isMap (by simp [WideAt.IsKeyLit]) _]; simp
    · rw [Maps.has_put_other (by simpa using h), hD y]
      simp [h]
  have hk' : ∀ l, Maps.has (D.put (.int .i64 x) (.agg [])) l = true → ∃ y ∈ ids, l = .int .i64 y := fun l hl => by
    by_cases e : l = .int .i64 x
    · exact ⟨x, hm, e⟩
    · rw [has_put_other e] at hl; exact hk l hl
  have hput' := Lib.hid hput
  have hkh := Lib.hid hk'
  clear hput hD hk hk'
  go_enter Tryz.func117, Tryz.ntmps117
  go_wp2_with (at_mapUpdate; refine wpList_mapUpdate_own _ rfl _ _ _ 122 rfl 2 200 keyed64 Tryz.underlying122 (unitElem (H := Unit)) mb ids.length D rfl hown (by unfold maxLen; omega) _ _ _ rfl rfl hkey _ [] unitElem_mk ?_; intro w1 hown1 hgrow1)
  go_end0
  exact ⟨rfl, ⟨_, ownsMap_bound hown1 hkh.out, hkh.out, hput'.out⟩, hgrow1⟩

/-- One number less. -/
def remI (s : List Int) (x : Int) : List Int := s.filter fun y => decide (y ≠ x)
theorem mem_remI {s : List Int} {x y : Int} : y ∈ remI s x ↔ y ∈ s ∧ y ≠ x := by simp [remI]

theorem isetRemove_any (ids : List Int) (mb : Nat) (s : List Int) (x : Int) (w : World) (hx : In64 x) (hs : ISetAt w ids mb s) :
    Calls Tryz.prog 118 #[.map (some mb), .int .i64 x] w
      fun e w' => e = .returned (.tuple #[]) ∧ ISetAt w' ids mb (remI s x) ∧ w.grownBy w' (some mb) := by
  obtain ⟨D, hown, hk, hD⟩ := hs
  have hkey : keyOf Tryz.prog 2 (.int .i64 x) = some (.int .i64 x) := Maps.keyOf_int_mk Tryz.underlying2 hx
  have hdel : ∀ y, Maps.has (D.del (.int .i64 x)) (.int .i64 y) = decide (y ∈ remI s x) := fun y => by
    unfold remI
    by_cases h : y = x
    · subst h
      rw [Maps.has_del_same]; simp
    · rw [Maps.has_del_other (by simpa using h), hD y]
      simp [h]
  have hk' : ∀ l, Maps.has (D.del (.int .i64 x)) l = true → ∃ y ∈ ids, l = .int .i64 y := fun l hl => by
    by_cases e : l = .int .i64 x
    · rw [e, Maps.has_del_same] at hl; cases hl
    · rw [Maps.has_del_other e] at hl; exact hk l hl
  have hdel' := Lib.hid hdel
  have hkh := Lib.hid hk'
  clear hdel hD hk hk'
  go_enter Tryz.func118, Tryz.ntmps118
  go_wp2_with (at_delete; refine wpList_delete_own _ rfl _ _ 122 2 rfl 200 keyed64 Tryz.underlying122 (unitElem (H := Unit)) mb ids.length D rfl hown _ _ rfl hkey ?_; intro w1 hown1 hgrow1)
  go_end0
  exact ⟨rfl, ⟨_, hown1, hkh.out, hdel'.out⟩, hgrow1.grown⟩
end Go.Proofs.YtgkimjjodhnmiaaGreat
