/- impl.free; what a walk reads stays where it is. -/
import Derived.Test.YtpmphefmmcbpaaaGreatDw1
import Derived.Test.YtpmphefmmcbpaaaGreatAgree
namespace Go.Proofs.YtpmphefmmcbpaaaGreat
open Go.RowKit

theorem freeFn_any (dir : Bool) (ab : Option Addr) (n cb : Nat) (w : World) :
    Calls Tryz.prog 44 #[.bool dir, .slice ab n cb] w
      fun e w' => e = .returned (freeFn w.heap.size (w.heap.size + 1)) ∧ w' = (w.alloc (.cells #[.bool dir] 4)).alloc (.cells #[.slice ab n cb] 23) := by
  unfold freeFn
  go_enter Tryz.func44, Tryz.ntmps44
  go_wp2_with fail
  go_ret
  exact ⟨rfl, rfl⟩

theorem cell_of_heap {w W : World} {p : Addr} (h : W.heap[p.block]? = w.heap[p.block]?) : W.cell? p = w.cell? p := World.cell?_of_block h

theorem denv_of {w0 w : World} {lo hi gb : Nat} {ids : List Int} {outs ins : List (List Arc)} {F : List Nat} {dp bp ub cb : Nat} {dir : Bool} {barred : List (Int × Int × Int)} {ab : Option Addr} {v : Int} (hb : Below w0.heap.size w0 w) (hF : FarIn lo hi w gb ids outs ins)
    (hc : Cells w0 ab (edgeCells barred)) (hd : w.cell? ⟨dp, 0, none⟩ = some (.bool dir)) (hbb : w.cell? ⟨bp, 0, none⟩ = some (.slice ab barred.length cb)) (hu : w.cell? ⟨ub, 0, none⟩ = some (.int .i64 v))
    (hFn : ∀ k ∈ F, w0.heap.size ≤ k ∧ (k < lo ∨ hi ≤ k) ∧ k ≠ dp ∧ k ≠ bp ∧ k ≠ ub) : DEnv w F gb ids outs ins dp bp dir barred ub v := by
  intro W hs hk
  refine ⟨hF.2 W (Nat.le_trans hF.1 hs) (fun j h1 h2 => hk j (Nat.lt_of_lt_of_le h2 hF.1) (fun hj => by have := hFn j hj; omega)), ⟨?_, ab, cb, ?_, ?_⟩, ?_⟩
  · rw [cell_of_heap (hk dp (cell_lt hd) (fun hj => (hFn _ hj).2.2.1 rfl))]; exact hd
  · rw [cell_of_heap (hk bp (cell_lt hbb) (fun hj => (hFn _ hj).2.2.2.1 rfl))]; exact hbb
  · rcases hc with h | ⟨b, off, ha, hlt, hr⟩
    · exact .inl h
    · have h1 : b < w.heap.size := Nat.lt_of_lt_of_le hlt hb.size
      refine .inr ⟨b, off, ha, Nat.lt_of_lt_of_le h1 hs, fun j u hj => ?_⟩
      rw [cell_of_heap (p := ⟨b, off + j, none⟩) (hk b h1 (fun hj => by have := (hFn _ hj).1; omega)), cell_of_heap (p := ⟨b, off + j, none⟩) (hb.block b hlt)]
      exact hr j u hj
  · rw [cell_of_heap (hk ub (cell_lt hu) (fun hj => (hFn _ hj).2.2.2.2 rfl))]; exact hu

theorem succF_reach {w : World} {gb : Nat} {ids : List Int} {outs ins : List (List Arc)} (hp : PlainAt w gb ids outs ins) {dir : Bool} {barred : List (Int × Int × Int)} {u : Int} (hu : u ∈ ids) : ∀ x, Reach (succF ids outs dir barred) u x → x ∈ ids := fun x r => by
  induction r with
  | refl => exact hu
  | step _ hy _ => exact succ_mem hp _ _ ((List.mem_filter.1 hy).1)
end Go.Proofs.YtpmphefmmcbpaaaGreat
