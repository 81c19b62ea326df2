/- slices.Sort at []int; impl.numbers. -/
import Derived.Test.YtgkimjjodhnmiaaGreatSort64
import Derived.Test.YtgkimjjodhnmiaaGreatIter
import Derived.Test.YtgkimjjodhnmiaaGreatFrom
import Derived.Handy
namespace Go.Proofs.YtgkimjjodhnmiaaGreat
open Go.RowKit Go.Sort Go.Lib

theorem sortInt_any (base n cap : Nat) (a : Option Addr) (zs : List Int) (w : World) (hn : n ≤ 1048576) (hown : w.ownsRow base 3 1 (.slice a n cap) n (ints zs)) :
    Calls Tryz.prog 42 #[.slice a n cap] w fun e w' => e = .returned (.tuple #[]) ∧ w'.ownsRow base 3 1 (.slice a n cap) n (ints (asc zs)) ∧ w.grownBy w' (Value.slice a n cap).ownBlock := by
  have hl : zs.length = n := by have := hown.1; simpa [ints] using this
  by_cases h0 : n = 0
  · subst h0
    have hz : zs = [] := List.eq_nil_of_length_eq_zero hl
    subst hz
    refine Calls.mono (P := Tryz.prog) (by first | exact Tryz.slices_Sort_int_none_f42 a cap w | exact Tryz.slices_Sort_int_none a cap w) ?_
    rintro e w' ⟨rfl, rfl⟩
    exact ⟨rfl, by simpa [asc] using hown, World.grownBy.refl _ _⟩
  · obtain ⟨g, rfl, _, hg, _⟩ := owns_at hown (by omega)
    subst hl
    refine Calls.mono (P := Tryz.prog) (by first | exact Tryz.slices_Sort_int_f42 g 0 cap zs w (holds_owns hown) hg (by omega) | exact Tryz.slices_Sort_int g 0 cap zs w (holds_owns hown) hg (by omega)) ?_
    rintro e w' ⟨rfl, k, os, rfl⟩
    exact ⟨rfl, owns_put (ys := asc zs) hown (asc_length zs), grown_put _⟩

theorem number_any (x : Int) (w : World) : Calls Tryz.prog 41 #[.iface 205 (.int .i64 x)] w fun e w' => e = .returned (.int .i64 x) ∧ w = w' := by
  go_enter Tryz.func41, Tryz.ntmps41
  go_wp2_with (go_at_call 178; refine (id_any _ _).mono ?_; rintro e w' ⟨rfl, rfl⟩)
  go_ret
  exact ⟨rfl, rfl⟩

end Go.Proofs.YtgkimjjodhnmiaaGreat
