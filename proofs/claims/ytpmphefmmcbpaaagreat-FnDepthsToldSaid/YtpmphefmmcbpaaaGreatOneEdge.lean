/- laws.oneEdge; slices.Equal at visits. -/
import Derived.Test.YtpmphefmmcbpaaaGreatBfirst
import Derived.Test.YtpmphefmmcbpaaaGreatEqRows
import Derived.BigRegion
namespace Go.Proofs.YtpmphefmmcbpaaaGreat
open Go.RowKit

theorem cells_new (w : World) (cs : Array Value) (ty : TypeId) : Cells (w.alloc (.cells cs ty)) (some ⟨w.heap.size, 0, none⟩) cs.toList :=
  Cells.mk (by simp) fun j v hj => by
    unfold World.cell?
    rw [heap_alloc_new]
    simpa using hj

/-- A graph of one edge, from 1 to 2. -/
def oneG (dir : Bool) (x : Int) : Gr := ⟨dir, [1, 2], [(1, 2, x)]⟩

/-- What oneEdge gives. -/
def OneEdgePost (w : World) (dir : Bool) (x : Int) (e : Ending) (w' : World) : Prop :=
  ∃ (an ae : Option Addr), e = .returned (.agg #[.bool dir, .slice an 2 2, .slice ae 1 1]) ∧ GrAt w' (oneG dir x) an 2 ae ∧ Below w.heap.size w w'

set_option maxRecDepth 100000 in
set_option maxHeartbeats 1000000 in
theorem oneEdge_any (dir : Bool) (x : Int) (w : World) : Calls Tryz.prog 39 #[.bool dir, .int .i64 x] w (OneEdgePost w dir x) := by
  go_enter Tryz.func39, Tryz.ntmps39
  go_wp2_with fail
  refine bodyPost_ret (v := .agg #[.bool dir, .slice (some ⟨w.heap.size + 1, 0, none⟩) 2 2, .slice (some ⟨w.heap.size + 1 + 1, 0, none⟩) 1 1]) (by simp [results, show Tryz.func39.results = #[.cell 4 25] from rfl, go_sem]) rfl ?_
  refine ⟨some ⟨w.heap.size + 1, 0, none⟩, some ⟨w.heap.size + 1 + 1, 0, none⟩, rfl, ⟨?_, ?_, by simp⟩, ((alloc_below w _).alloc (by simp) _).alloc (by simp; omega) _⟩
  · have h := (cells_new (w.alloc (.cells #[.bool dir, .slice (some ⟨w.heap.size + 1, 0, none⟩) 2 2, .slice (some ⟨w.heap.size + 1 + 1, 0, none⟩) 1 1] 25)) #[.int .i64 1, .int .i64 2] 3).alloc (.cells #[.int .i64 1, .int .i64 2, .int .i64 x] 61)
    rw [show (w.alloc (.cells #[.bool dir, .slice (some ⟨w.heap.size + 1, 0, none⟩) 2 2, .slice (some ⟨w.heap.size + 1 + 1, 0, none⟩) 1 1] 25)).heap.size = w.heap.size + 1 by simp] at h
    exact h
  · have h := cells_new ((w.alloc (.cells #[.bool dir, .slice (some ⟨w.heap.size + 1, 0, none⟩) 2 2, .slice (some ⟨w.heap.size + 1 + 1, 0, none⟩) 1 1] 25)).alloc (.cells #[.int .i64 1, .int .i64 2] 3)) #[.int .i64 1, .int .i64 2, .int .i64 x] 61
    rw [show ((w.alloc (.cells #[.bool dir, .slice (some ⟨w.heap.size + 1, 0, none⟩) 2 2, .slice (some ⟨w.heap.size + 1 + 1, 0, none⟩) 1 1] 25)).alloc (.cells #[.int .i64 1, .int .i64 2] 3)).heap.size = w.heap.size + 1 + 1 by simp] at h
    exact h

theorem vis_same (x y : Int) (w : World) : (binOp .neq 37 (.agg #[.int .i64 x, .int .i64 y]) (.agg #[.int .i64 x, .int .i64 y])).run Tryz.prog w = .ok (.bool false) w := by
  simp [go_sem]

set_option maxHeartbeats 1000000 in
/-- Visits that are the same are found to be the same. -/
theorem visEq_true (a1 a2 : Option Addr) (c1 c2 n : Nat) (L : List (Int × Int)) (w : World) (hn : n = L.length) (hn2 : n ≤ 1000) (h1 : Cells w a1 (visCells L)) (h2 : Cells w a2 (visCells L)) :
    Calls Tryz.prog 40 #[.slice a1 n c1, .slice a2 n c2] w fun e w' => e = .returned (.bool true) ∧ ∃ q, w' = w.drewN q := by
  have h1h := Lib.hid h1
  have h2h := Lib.hid h2
  have hnh := Lib.hid hn
  clear h1 h2 hn
  go_enter Tryz.func40, Tryz.ntmps40
  go_wp2_with fail
  go_loopw [5, 13] (fun _ iv wr => ∃ (k q : Nat), k ≤ n ∧ iv = .int .i64 k ∧ wr = w.drewN q) (fun _ iv _ => n - (intOf iv).toNat)
  case atStart => exact ⟨0, 0, Nat.zero_le _, rfl, rfl⟩
  case round =>
    obtain ⟨k, q, hk, rfl, rfl⟩ := hrel
    by_cases hlt : k < n
    · have hko : k < L.length := by have := hnh.out; omega
      obtain ⟨b1, o1, rfl, _, r1⟩ := h1h.out.at (by rw [visCells_length]; omega)
      obtain ⟨b2, o2, rfl, _, r2⟩ := h2h.out.at (by rw [visCells_length]; omega)
      obtain ⟨s1, s2⟩ := visCells_get L k hko
      have x0 : (w.drewN q).cell? ⟨b1, o1 + k * 2, none⟩ = some (.int .i64 L[k].1) := r1 _ _ s1
      have x1 : (w.drewN q).cell? ⟨b1, o1 + k * 2 + 1, none⟩ = some (.int .i64 L[k].2) := by rw [Nat.add_assoc]; exact r1 _ _ s2
      have y0 : (w.drewN q).cell? ⟨b2, o2 + k * 2, none⟩ = some (.int .i64 L[k].1) := r2 _ _ s1
      have y1 : (w.drewN q).cell? ⟨b2, o2 + k * 2 + 1, none⟩ = some (.int .i64 L[k].2) := by rw [Nat.add_assoc]; exact r2 _ _ s2
      obtain ⟨p, hp⟩ : ∃ p, p = L[k].1 := ⟨_, rfl⟩
      obtain ⟨z, hz⟩ : ∃ z, z = L[k].2 := ⟨_, rfl⟩
      rw [← hp] at x0 y0
      rw [← hz] at x1 y1
      have heq := vis_same p z
      clear hp hz s1 s2 r1 r2
      obtain ⟨W, hW⟩ : ∃ W, W = w.drewN q := ⟨_, rfl⟩
      rw [← hW] at x0 x1 y0 y1 ⊢
      have hWh : Hid (∀ m, ∃ q', W.drewN m = w.drewN q') := fun m => ⟨_, by rw [hW]; exact World.drewN_drewN _ _ _⟩
      clear hW
      go_wp2_with fail
      go_region
      all_goals
        go_wp2_with fail
        go_roundw
        case rel =>
          obtain ⟨q', hq'⟩ := hWh.out 1
          exact ⟨k + 1, q', by omega, by go_num, hq'⟩
        case measure => simp [intOf]; omega
    · go_wp2_with fail
      go_ret
      exact ⟨rfl, q, rfl⟩
end Go.Proofs.YtpmphefmmcbpaaaGreat
