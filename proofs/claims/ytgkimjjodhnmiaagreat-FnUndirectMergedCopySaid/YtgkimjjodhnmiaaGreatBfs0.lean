/- The closure of PathExistsIn; the set of numbers; the queue's Len. -/
import Derived.Test.YtgkimjjodhnmiaaGreatFrom
import Derived.Handy
import Derived.Maps.OwnSet
namespace Go.Proofs.YtgkimjjodhnmiaaGreat
open Go.RowKit

/-- Whether a number is one of Go's int64. -/
def In64 (x : Int) : Prop := (Lit.int .i64 x).wf = true

/-- A set of numbers in memory. -/
def SetAt (w : World) (mb N : Nat) (s : List Int) : Prop :=
  ∃ D : DataW Unit, w.ownsMap Tryz.prog 2 unitElem mb N D ∧ ∀ x, Maps.has D (.int .i64 x) = decide (x ∈ s)

theorem keyed64 : Maps.Keyed Tryz.prog 2 := Maps.int_keyed Tryz.underlying2

theorem setAt_new (w : World) : SetAt (w.alloc (.map #[] 0)) w.heap.size 0 [] := ⟨.map [], World.ownsMap_made w _ _ _, fun x => by simp [Maps.has]⟩

theorem setAdd_any (mb N : Nat) (s : List Int) (x : Int) (w : World) (hx : In64 x) (hN : N ≤ 1048576) (hs : SetAt w mb N s) :
    Calls Tryz.prog 117 #[.map (some mb), .int .i64 x] w
      fun e w' => e = .returned (.tuple #[]) ∧ SetAt w' mb (N + 1) (x :: s) ∧ w.grownBy w' (some mb) := by
  obtain ⟨D, hown, hD⟩ := hs
  have hkey : keyOf Tryz.prog 2 (.int .i64 x) = some (.int .i64 x) := Maps.keyOf_int_mk Tryz.underlying2 hx
  have hput : ∀ y, Maps.has (D.put (.int .i64 x) (.agg [])) (.int .i64 y) = decide (y ∈ x :: s) := fun y => by
    by_cases h : y = x
    · subst h
      rw [Maps.has_put_same hown.isMap (by simp [WideAt.IsKeyLit]) _]; simp
    · rw [Maps.has_put_other (by simpa using h), hD y]
      simp [h]
  have hput' := Lib.hid hput
  clear hput hD
  go_enter Tryz.func117, Tryz.ntmps117
  go_wp2_with (at_mapUpdate; refine wpList_mapUpdate_own _ rfl _ _ _ 122 rfl 2 200 keyed64 Tryz.underlying122 (unitElem (H := Unit)) mb N D rfl hown (by unfold maxLen; omega) _ _ _ rfl rfl hkey _ [] unitElem_mk ?_; intro w1 hown1 hgrow1)
  go_end0
  exact ⟨rfl, ⟨_, hown1, hput'.out⟩, hgrow1⟩

/-- What a walk breadth first doesn't turn of its record: Visit, Traverse, the set. -/
structure BF where
  fv : Value
  ft : Value
  m : Value

end Go.Proofs.YtgkimjjodhnmiaaGreat
