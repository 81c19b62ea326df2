/- What DepthFirst.Walk of impl.DepthFirst stands on: the graph, the barred edges, the end; and its first set. -/
import Derived.Test.YtpmphefmmcbpaaaGreatDw0
import Derived.Test.YtpmphefmmcbpaaaGreatSucc
import Derived.Test.YtpmphefmmcbpaaaGreatEdge0
namespace Go.Proofs.YtpmphefmmcbpaaaGreat
open Go.RowKit

/-- What a walk reads and doesn't write, whatever happens to the blocks of F. -/
def DEnv (w : World) (F : List Nat) (gb : Nat) (ids : List Int) (outs ins : List (List Arc)) (dp bp : Nat) (dir : Bool) (barred : List (Int × Int × Int)) (ub : Nat) (v : Int) : Prop :=
  ∀ W : World, w.heap.size ≤ W.heap.size → (∀ j, j < w.heap.size → j ∉ F → W.heap[j]? = w.heap[j]?) → PlainAt W gb ids outs ins ∧ FreeAt W dp bp dir barred ∧ W.cell? ⟨ub, 0, none⟩ = some (.int .i64 v)

theorem DEnv.at {w W : World} {F F' : List Nat} {gb : Nat} {ids : List Int} {outs ins : List (List Arc)} {dp bp : Nat} {dir : Bool} {barred : List (Int × Int × Int)} {ub : Nat} {v : Int} (h : DEnv w F gb ids outs ins dp bp dir barred ub v) (m : Moves F w F' W) :
    PlainAt W gb ids outs ins ∧ FreeAt W dp bp dir barred ∧ W.cell? ⟨ub, 0, none⟩ = some (.int .i64 v) := h W m.size fun j h1 h2 => m.block j h1 h2

/-- Where the edges lead that may be gone. -/
def succF (ids : List Int) (outs : List (List Arc)) (dir : Bool) (barred : List (Int × Int × Int)) (x : Int) : List Int := (succOf ids outs x).filter fun y => freeB dir barred x y

theorem arcAt_succ {w : World} {gb : Nat} {ids : List Int} {outs ins : List (List Arc)} (hp : PlainAt w gb ids outs ins) {y : Int} (hy : y ∈ ids) {k : Nat} (hk : k < (succOf ids outs y).length) : ∃ t wt, ArcAt ids outs y (succOf ids outs y)[k] t wt := by
  obtain ⟨hpl, hpe⟩ := posOf_mem hp.up hy
  obtain ⟨gt, _, hlen, hrow⟩ := hp.out
  have hl : outs[posOf ids y]? = some (outs.getD (posOf ids y) []) := by simp [hlen, hpl]
  have hro := hp.okOut _ (List.mem_of_getElem? hl)
  have hk' : k < (outs.getD (posOf ids y) []).length := by unfold succOf endsOf at hk; rwa [List.length_map] at hk
  have hlt : (outs.getD (posOf ids y) [])[k].1 < ids.length := hro.2 _ (List.getElem_mem hk')
  have e : (succOf ids outs y)[k] = ids[(outs.getD (posOf ids y) [])[k].1] := by
    have h1 : (succOf ids outs y)[k]? = some (ids.getD (outs.getD (posOf ids y) [])[k].1 0) := by
      unfold succOf endsOf
      rw [List.getElem?_map, List.getElem?_eq_getElem hk']
      rfl
    have h2 := List.getElem?_eq_getElem hk
    rw [h2] at h1
    injection h1 with h1
    rw [h1, List.getD_eq_getElem?_getD, List.getElem?_eq_getElem hlt]
    rfl
  refine ⟨(outs.getD (posOf ids y) [])[k].1, (outs.getD (posOf ids y) [])[k].2, hy, ?_, ?_, k, hk', rfl⟩
  · rw [e]; exact List.getElem_mem _
  · rw [e]; exact posOf_at hp.up hlt

/-- The set is made. -/
theorem dmade {w : World} {ids : List Int} {A tb pb : Nat} {fv ft : Value} (h1 : DBlk w tb fv ft (.slice none 0 0) (.map none)) (h2 : VBlk w pb 22 (.slice none 0 0)) (l1 : A ≤ tb) (l2 : A ≤ pb) (hne : tb ≠ pb) :
    ∃ mb B, DfsAt ((w.alloc (.map #[] 0)).setCell ⟨tb, 3, none⟩ (.map (some w.heap.size))) ids A B tb mb pb fv ft 22 3 (Value.int .i64) [] [] [] (.slice none 0 0) (.slice none 0 0) ∧
      Moves [tb, pb] w (dfoot tb mb pb (.slice none 0 0) (.slice none 0 0)) ((w.alloc (.map #[] 0)).setCell ⟨tb, 3, none⟩ (.map (some w.heap.size))) := by
  have z1 := h1.lt
  have z2 := h2.lt
  have hz : (w.alloc (.map #[] 0)).heap.size = w.heap.size + 1 := by simp
  have b1 : DBlk (w.alloc (.map #[] 0)) tb fv ft (.slice none 0 0) (.map none) := (Below.heap_alloc _ _ _ z1).trans h1
  have hh : ∀ j, j ≠ tb → ((w.alloc (.map #[] 0)).setCell ⟨tb, 3, none⟩ (.map (some w.heap.size))).heap[j]? = (w.alloc (.map #[] 0)).heap[j]? := fun j hj => Below.heap_setCell _ _ _ _ hj
  refine ⟨w.heap.size, w.heap.size + 1, ⟨b1.set3 _, World.ownsRow_nil _ _ _ _, (iset_new w ids).same (hh _ (by omega)), ?_, World.ownsRow_nil _ _ _ _, ⟨by omega, by omega, by omega, by simp [World.setCell]⟩, ⟨l1, by omega, l2⟩, ⟨by omega, hne, by omega⟩, fun j hj => by simp [Value.ownBlock] at hj⟩, ?_⟩
  · exact (hh pb (fun e => hne e.symm)).trans ((Below.heap_alloc _ _ _ z2).trans h2)
  · refine ((Moves.of_alloc [tb, pb] w _).trans (Moves.of_setCell _ _ (by simp))).sub fun k hk => ?_
    rcases mem_dfoot.1 hk with e | e | e | e | e
    · exact .inl (by simp [e])
    · exact .inr (.inr (by omega))
    · exact .inl (by simp [e])
    · simp [Value.ownBlock] at e
    · simp [Value.ownBlock] at e
theorem edge_methodUnd (n : Nat) (a : Addr) (w : World) : (method (n + 1) 99 (.agg #[.pointer (some a)]) "Edge").run Tryz.prog w = .ok (183, .agg #[.pointer (some a)]) w := by kernel_rfl
theorem edge_methodDir (n : Nat) (a : Addr) (w : World) : (method (n + 1) 158 (.agg #[.pointer (some a)]) "Edge").run Tryz.prog w = .ok (201, .agg #[.pointer (some a)]) w := by kernel_rfl
end Go.Proofs.YtpmphefmmcbpaaaGreat
