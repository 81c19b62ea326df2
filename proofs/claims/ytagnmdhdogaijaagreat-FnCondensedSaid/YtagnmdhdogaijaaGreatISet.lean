/- A set of nodes' numbers that the call has made: asked, added to, taken from. -/
import Derived.Test.YtagnmdhdogaijaaGreatIMap
namespace Go.Proofs.YtagnmdhdogaijaaGreat
open Go.RowKit Go.Maps

/-- Block mb is a set of numbers, of nodes alone. -/
def ISetAt (w : World) (ids : List Int) (mb : Nat) (s : List Int) : Prop :=
  ∃ D : DataW Unit, w.ownsMap Tryz.prog 2 unitElem mb ids.length D ∧ (∀ l, Maps.has D l = true → ∃ x ∈ ids, l = .int .i64 x) ∧ ∀ x, Maps.has D (.int .i64 x) = decide (x ∈ s)

theorem iset_new (w : World) (ids : List Int) : ISetAt (w.alloc (.map #[] 0)) ids w.heap.size [] :=
  ⟨.map [], (World.ownsMap_made w _ _ _).mono (Nat.zero_le _), fun l h => by simp [Maps.has] at h, fun x => by simp [Maps.has]⟩

theorem ISetAt.lt {w : World} {ids : List Int} {mb : Nat} {s : List Int} (h : ISetAt w ids mb s) : mb < w.heap.size := by
  obtain ⟨D, hown, _⟩ := h; exact hown.lt
theorem ISetAt.same {w w' : World} {ids : List Int} {mb : Nat} {s : List Int} (h : ISetAt w ids mb s) (h1 : w'.heap[mb]? = w.heap[mb]?) : ISetAt w' ids mb s := by
  obtain ⟨D, ⟨es, clock, hb, r⟩, hD⟩ := h
  exact ⟨D, ⟨es, clock, h1.trans hb, r⟩, hD⟩
theorem ISetAt.ext {w : World} {ids : List Int} {mb : Nat} {s t : List Int} (h : ISetAt w ids mb s) (e : ∀ x, x ∈ s ↔ x ∈ t) : ISetAt w ids mb t := by
  obtain ⟨D, ho, hk, hD⟩ := h
  exact ⟨D, ho, hk, fun x => by rw [hD x]; exact decide_eq_decide.2 (e x)⟩

theorem isetHas_any (ids : List Int) (mb : Nat) (s : List Int) (x : Int) (w : World) (hx : In64 x) (hs : ISetAt w ids mb s) :
    Calls Tryz.prog 96 #[.map (some mb), .int .i64 x] w
      fun e w' => e = .returned (.bool (decide (x ∈ s))) ∧ ∃ o, w' = w.alloc o := by
  obtain ⟨D, hown, _, hD⟩ := hs
  exact setHas_any mb ids.length s x w hx ⟨D, hown, hD⟩

theorem isetAdd_any (ids : List Int) (mb : Nat) (s : List Int) (x : Int) (w : World) (hx : In64 x) (hm : x ∈ ids) (hids : ids.length ≤ 1048576) (hs : ISetAt w ids mb s) :
    Calls Tryz.prog 95 #[.map (some mb), .int .i64 x] w
      fun e w' => e = .returned (.tuple #[]) ∧ ISetAt w' ids mb (x :: s) ∧ w.grownBy w' (some mb) := by
  obtain ⟨D, hown, hk, hD⟩ := hs
  have hkey : keyOf Tryz.prog 2 (.int .i64 x) = some (.int .i64 x) := Maps.keyOf_int_mk Tryz.underlying2 hx
  have hput : ∀ y, Maps.has (D.put (.int .i64 x) (.agg [])) (.int .i64 y) = decide (y ∈ x :: s) := fun y => by
    by_cases h : y = x
    · subst h
      rw [Maps.has_put_same hown.isMap (by simp [WideAt.IsKeyLit]) _]; simp
    · rw [Maps.has_put_other (by simpa using h), hD y]
      simp [h]
  have hk' : ∀ l, Maps.has (D.put (.int .i64 x) (.agg [])) l = true → ∃ y ∈ ids, l = .int .i64 y := fun l hl => by
    by_cases e : l = .int .i64 x
    · exact ⟨x, hm, e⟩
    · rw [has_put_other e] at hl; exact hk l hl
  have hput' := Lib.hid hput
  have hkh := Lib.hid hk'
  clear hput hD hk hk'
  go_enter Tryz.func95, Tryz.ntmps95
  go_wp2_with (at_mapUpdate; refine wpList_mapUpdate_own _ rfl _ _ _ 120 rfl 2 175 keyed64 Tryz.underlying120 (unitElem (H := Unit)) mb ids.length D rfl hown (by unfold maxLen; omega) _ _ _ rfl rfl hkey _ [] unitElem_mk ?_; intro w1 hown1 hgrow1)
  go_end0
  exact ⟨rfl, ⟨_, ownsMap_bound hown1 hkh.out, hkh.out, hput'.out⟩, hgrow1⟩

/-- One number less. -/
def remI (s : List Int) (x : Int) : List Int := s.filter fun y => decide (y ≠ x)
theorem mem_remI {s : List Int} {x y : Int} : y ∈ remI s x ↔ y ∈ s ∧ y ≠ x := by simp [remI]

theorem isetRemove_any (ids : List Int) (mb : Nat) (s : List Int) (x : Int) (w : World) (hx : In64 x) (hs : ISetAt w ids mb s) :
    Calls Tryz.prog 97 #[.map (some mb), .int .i64 x] w
      fun e w' => e = .returned (.tuple #[]) ∧ ISetAt w' ids mb (remI s x) ∧ w.grownBy w' (some mb) := by
  obtain ⟨D, hown, hk, hD⟩ := hs
  have hkey : keyOf Tryz.prog 2 (.int .i64 x) = some (.int .i64 x) := Maps.keyOf_int_mk Tryz.underlying2 hx
  have hdel : ∀ y, Maps.has (D.del (.int .i64 x)) (.int .i64 y) = decide (y ∈ remI s x) := fun y => by
    unfold remI
    by_cases h : y = x
    · subst h
      rw [Maps.has_del_same]; simp
    · rw [Maps.has_del_other (by simpa using h), hD y]
      simp [h]
  have hk' : ∀ l, Maps.has (D.del (.int .i64 x)) l = true → ∃ y ∈ ids, l = .int .i64 y := fun l hl => by
    by_cases e : l = .int .i64 x
    · rw [e, Maps.has_del_same] at hl; cases hl
    · rw [Maps.has_del_other e] at hl; exact hk l hl
  have hdel' := Lib.hid hdel
  have hkh := Lib.hid hk'
  clear hdel hD hk hk'
  go_enter Tryz.func97, Tryz.ntmps97
  go_wp2_with (at_delete; refine wpList_delete_own _ rfl _ _ 120 2 rfl 175 keyed64 Tryz.underlying120 (unitElem (H := Unit)) mb ids.length D rfl hown _ _ rfl hkey ?_; intro w1 hown1 hgrow1)
  go_end0
  exact ⟨rfl, ⟨_, hown1, hkh.out, hdel'.out⟩, hgrow1.grown⟩
end Go.Proofs.YtagnmdhdogaijaaGreat
