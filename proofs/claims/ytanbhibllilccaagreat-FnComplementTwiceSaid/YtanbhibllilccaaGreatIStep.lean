/- One row of numbers more. -/
import Derived.Test.YtanbhibllilccaaGreatIRows
namespace Go.Proofs.YtanbhibllilccaaGreat
open Go.RowKit

/-- One row more: what stands behind numbers, Sort and the append. -/
theorem irow_step {wr w5 w6 : World} {D k n : Nat} {b ax : Option Addr} {cb cx : Nat} {vs2 : List Value} {l : List (List Int)} {c : List Int} {o : Obj} (hn : n = c.length) (hown : wr.ownsRow D 22 1 (.slice b k cb) k vs2) (hrows : IRows wr D vs2 l)
    (hdis : ∀ j ∈ blks vs2, (Value.slice b k cb).ownBlock ≠ some j) (hb5 : Below wr.heap.size wr w5) (own6 : w6.ownsRow wr.heap.size 3 1 (.slice ax n cx) n (ints c)) (hg6 : w5.grownBy w6 (Value.slice ax n cx).ownBlock) (hD : D ≤ wr.heap.size) :
    w6.ownsRow D 22 1 (.slice b k cb) k vs2 ∧ D ≤ w6.heap.size ∧ Hid (∀ w7 b2 c2, (w6.alloc o).grownBy w7 (Value.slice b k cb).ownBlock → w7.ownsRow D 22 1 (.slice b2 (k + 1) c2) (k + 1) (vs2 ++ [.slice ax n cx]) → (b2 = b ∨ b2 = some ⟨(w6.alloc o).heap.size, 0, none⟩) →
      IRows w7 D (vs2 ++ [.slice ax n cx]) (l ++ [c]) ∧ (∀ j ∈ blks (vs2 ++ [.slice ax n cx]), (Value.slice b2 (k + 1) c2).ownBlock ≠ some j) ∧ Below D wr w7) := by
  subst hn
  have hz5 := hb5.size
  have hz6 := hg6.size
  have hold : ∀ j, j < wr.heap.size → w6.heap[j]? = wr.heap[j]? := fun j hj => by
    rw [hg6.block j (by omega) (fun e => by have := (own6.lt j e.symm).1; omega), hb5.block j hj]
  have hown6 : w6.ownsRow D 22 1 (.slice b k cb) k vs2 := owns_same hown fun j hj => hold j (hown.lt j hj).2
  refine ⟨hown6, by omega, fun w7 b2 c2 hg7 ho7 hat => ?_⟩
  have hsz : (w6.alloc o).heap.size = w6.heap.size + 1 := by simp
  have h7 : ∀ j, j < w6.heap.size → (Value.slice b k cb).ownBlock ≠ some j → w7.heap[j]? = w6.heap[j]? := fun j hj hne => by
    rw [hg7.block j (by omega) (fun e => hne e.symm), Below.heap_alloc _ _ _ hj]
  have hr7 : IRows w7 D vs2 l := hrows.same fun j hj => by
    have := hrows.lt j hj
    rw [h7 j (by omega) (hdis j hj), hold j this.2]
  have hx7 : w7.ownsRow D 3 1 (.slice ax c.length cx) c.length (ints c) := by
    have h1 : w7.ownsRow wr.heap.size 3 1 (.slice ax c.length cx) c.length (ints c) := owns_same own6 fun j hj => h7 j (own6.lt j hj).2 (fun e => by
      have h1 := (own6.lt j hj).1
      have h2 := (hown.lt j e).2
      omega)
    exact owns_base h1 hD
  have hnew : ∀ j, (Value.slice b2 (k + 1) c2).ownBlock = some j → (Value.slice b k cb).ownBlock = some j ∨ w6.heap.size ≤ j := by
    intro j hj
    rcases hat with rfl | rfl
    · left; cases b2 <;> exact hj
    · right
      simp only [Value.ownBlock] at hj
      injection hj with hj
      omega
  refine ⟨hr7.more hx7, fun j hj e => ?_, ⟨(hg7.os.trans rfl).trans (hg6.os.trans hb5.os), (hg7.tape.trans rfl).trans (hg6.tape.trans hb5.tape), (hg7.output.trans rfl).trans (hg6.output.trans hb5.output), by have := hg7.size; omega, fun j hj => ?_⟩⟩
  · have hbl : blks (vs2 ++ [.slice ax c.length cx]) = blks vs2 ++ (Value.slice ax c.length cx).ownBlock.toList := by
      unfold blks; rw [List.filterMap_append]; congr 1
    rw [hbl] at hj
    rcases List.mem_append.1 hj with hj | hj
    · have h1 := hrows.lt j hj
      rcases hnew j e with e' | e'
      · exact hdis j hj e'
      · omega
    · rw [Option.mem_toList] at hj
      have h1 := own6.lt j hj
      rcases hnew j e with e' | e'
      · have := (hown.lt j e').2; omega
      · omega
  · rw [h7 j (by omega) (fun e => by have := (hown.lt j e).1; omega), hold j (by omega)]

theorem one_irow (a : Option Addr) (n c : Nat) : ∀ u ∈ [Value.slice a n c], u.oneCell' = true := fun u hu => by rw [List.mem_singleton.1 hu]; rfl
end Go.Proofs.YtanbhibllilccaaGreat
