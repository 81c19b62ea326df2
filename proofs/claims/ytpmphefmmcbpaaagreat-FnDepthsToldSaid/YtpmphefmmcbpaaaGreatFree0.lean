/- Whether an edge may be gone: ordered, and the closure of free. -/
import Derived.Test.YtpmphefmmcbpaaaGreatEdge0
import Derived.Test.YtpmphefmmcbpaaaGreatNumbers
namespace Go.Proofs.YtpmphefmmcbpaaaGreat
open Go.RowKit

/-- The ends in their order. -/
def ordP (dir : Bool) (u v : Int) : Int × Int := if dir = false ∧ v < u then (v, u) else (u, v)

/-- Whether an edge from x to y may be gone. -/
def freeB (dir : Bool) (barred : List (Int × Int × Int)) (x y : Int) : Bool := !barred.any fun e => decide (hits dir x y e)

theorem ordP_iff {dir : Bool} {x y u v z : Int} : ordP dir x y = ordP dir u v ↔ hits dir x y (u, v, z) := by
  cases dir
  · simp only [ordP, hits]
    constructor
    · intro h
      by_cases h1 : y < x <;> by_cases h2 : v < u <;> simp [h1, h2] at h <;> simp <;> omega
    · intro h
      by_cases h1 : y < x <;> by_cases h2 : v < u <;> simp [h1, h2] at h ⊢ <;> omega
  · simp only [ordP, hits]
    simp
    omega

theorem ordered_any (dir : Bool) (u v z : Int) (w : World) :
    Calls Tryz.prog 77 #[.bool dir, .agg #[.int .i64 u, .int .i64 v, .int .i64 z]] w
      fun e w' => e = .returned (.agg #[.int .i64 (ordP dir u v).1, .int .i64 (ordP dir u v).2, .int .i64 z]) ∧ Below w.heap.size w w' := by
  unfold ordP
  go_enter Tryz.func77, Tryz.ntmps77
  cases dir
  · by_cases h : v < u
    · rw [if_pos ⟨rfl, h⟩]
      go_wp2
      (try simp only [Exit.inBlock, Exit.then])
      refine bodyPost_ret (v := .agg #[.int .i64 v, .int .i64 u, .int .i64 z]) ?_ rfl ?_
      · simp [results, show Tryz.func77.results = #[.cell 4 61] from rfl, go_sem]
      exact ⟨rfl, (alloc_below w _).alloc (by simp) _⟩
    · rw [if_neg fun e => h e.2]
      go_wp2
      (try simp only [Exit.inBlock, Exit.then])
      refine bodyPost_ret (v := .agg #[.int .i64 u, .int .i64 v, .int .i64 z]) ?_ rfl ?_
      · simp [results, show Tryz.func77.results = #[.cell 4 61] from rfl, go_sem]
      exact ⟨rfl, (alloc_below w _).alloc (by simp) _⟩
  · rw [if_neg fun e => by cases e.1]
    go_wp2
    (try simp only [Exit.inBlock, Exit.then])
    refine bodyPost_ret (v := .agg #[.int .i64 u, .int .i64 v, .int .i64 z]) ?_ rfl ?_
    · simp [results, show Tryz.func77.results = #[.cell 4 61] from rfl, go_sem]
    exact ⟨rfl, (alloc_below w _).alloc (by simp) _⟩

theorem efrom_any (x y : Int) (wt : Nat) (w : World) :
    Calls Tryz.prog 217 #[.agg #[.iface 84 (.int .i64 x), .iface 84 (.int .i64 y), .float .f64 wt]] w
      fun e w' => e = .returned (.iface 84 (.int .i64 x)) ∧ Below w.heap.size w w' := by
  go_enter Tryz.func217, Tryz.ntmps217
  go_wp2
  go_ret
  exact ⟨rfl, alloc_below w _⟩

theorem eto_any (x y : Int) (wt : Nat) (w : World) :
    Calls Tryz.prog 219 #[.agg #[.iface 84 (.int .i64 x), .iface 84 (.int .i64 y), .float .f64 wt]] w
      fun e w' => e = .returned (.iface 84 (.int .i64 y)) ∧ Below w.heap.size w w' := by
  go_enter Tryz.func219, Tryz.ntmps219
  go_wp2
  go_ret
  exact ⟨rfl, alloc_below w _⟩
end Go.Proofs.YtpmphefmmcbpaaaGreat
