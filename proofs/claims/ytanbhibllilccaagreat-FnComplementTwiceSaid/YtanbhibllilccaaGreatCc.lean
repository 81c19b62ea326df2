/- topo.ConnectedComponents. -/
import Derived.Test.YtanbhibllilccaaGreatCcAll
import Derived.BigRegion
namespace Go.Proofs.YtanbhibllilccaaGreat
open Go.RowKit

/-- What ConnectedComponents gives. -/
def CcRes (w : World) (ids : List Int) (outs : List (List Arc)) (e : Ending) (w' : World) : Prop :=
  ∃ (la : Option Addr) (lc : Nat) (vs : List Value) (L : List (List Int)), e = .returned (.slice la L.length lc) ∧ w'.ownsRow w.heap.size 89 1 (.slice la L.length lc) L.length vs ∧ CRows w' w.heap.size vs L ∧
    DAll (succOf ids outs) ids ids.length L ∧ Below w.heap.size w w'

set_option maxRecDepth 100000 in
set_option maxHeartbeats 4000000 in
theorem cc_any (gb lo hi : Nat) (ids : List Int) (outs ins : List (List Arc)) (w : World) (hids : ids.length ≤ 1000) (h64 : ∀ x ∈ ids, In64 x) (hsym : ∀ x ∈ ids, ∀ y ∈ succOf ids outs x, y ∈ ids ∧ x ∈ succOf ids outs y) (hF : FarIn lo hi w gb ids outs ins) :
    Calls Tryz.prog 25 #[.iface 62 (.agg #[.pointer (some ⟨gb, 0, none⟩)])] w (CcRes w ids outs) := by
  obtain ⟨w1, hw1⟩ : ∃ w1, w1 = w.alloc (.cells #[.nilFunc, .nilFunc, .slice none 0 0, .map none] 102) := ⟨_, rfl⟩
  obtain ⟨w2, hw2⟩ : ∃ w2, w2 = w1.alloc (.cells #[.slice none 0 0] 89) := ⟨_, rfl⟩
  obtain ⟨w3, hw3⟩ : ∃ w3, w3 = w2.alloc (.cells #[.slice none 0 0] 66) := ⟨_, rfl⟩
  have z1 : w1.heap.size = w.heap.size + 1 := by rw [hw1]; simp
  have z2 : w2.heap.size = w.heap.size + 1 + 1 := by rw [hw2]; simp [z1]
  have z3 : w3.heap.size = w.heap.size + 1 + 1 + 1 := by rw [hw3]; simp [z2]
  have b1 : Below w.heap.size w w1 := by rw [hw1]; exact alloc_below _ _
  have b2 : Below w1.heap.size w1 w2 := by rw [hw2]; exact alloc_below _ _
  have b3 : Below w2.heap.size w2 w3 := by rw [hw3]; exact alloc_below _ _
  have b13 : Below w1.heap.size w1 w3 := b2.trans (b3.mono (by omega))
  have bw3 : Below w.heap.size w w3 := b1.trans (b13.mono (by omega))
  have hB : DBlk w3 w.heap.size .nilFunc .nilFunc (.slice none 0 0) (.map none) := by
    refine (b13.block _ (by omega)).trans ?_
    have := heap_alloc_new w (.cells #[.nilFunc, .nilFunc, .slice none 0 0, .map none] 102)
    rw [← hw1] at this
    exact this
  have hP : VBlk w3 (w.heap.size + 1) 89 (.slice none 0 0) := by
    refine (b3.block _ (by omega)).trans ?_
    have := heap_alloc_new w1 (.cells #[.slice none 0 0] 89)
    rw [← hw2, z1] at this
    exact this
  have hL : VBlk w3 (w.heap.size + 1 + 1) 66 (.slice none 0 0) := by
    have := heap_alloc_new w2 (.cells #[.slice none 0 0] 66)
    rw [← hw3, z2] at this
    exact this
  have hhi := hF.1
  have hwa := cwalkAll_any gb lo hi ids outs ins w.heap.size w.heap.size (w.heap.size + 1) (w.heap.size + 1 + 1) w3 hids h64 hsym hB hP hL (hF.below bw3) ⟨by omega, by omega, by omega⟩ ⟨by omega, by omega, by omega⟩ ⟨.inr (by omega), .inr (by omega), .inr (by omega)⟩
  have hw123 : Hid (w3 = ((w.alloc (.cells #[.nilFunc, .nilFunc, .slice none 0 0, .map none] 102)).alloc (.cells #[.slice none 0 0] 89)).alloc (.cells #[.slice none 0 0] 66)) := by unfold Hid; rw [hw3, hw2, hw1]
  unfold noteC at hwa
  have hwah := Lib.hid hwa
  have bw3h := Lib.hid bw3
  clear hw1 hw2 hw3 z1 z2 z3 b1 b2 b3 b13 bw3 hB hP hL hhi hwa hF h64 hsym
  go_enter Tryz.func25, Tryz.ntmps25
  go_wp2_with fail
  rw [← hw123.out]
  refine (unhide hwah).mono ?_
  rintro e w6 ⟨rfl, la, lc, vs, L, hL6, hall, hb6⟩
  have l0 := hL6.blk.c0
  have hfin : Hid (CcRes w ids outs (.returned (.slice la L.length lc)) w6) := ⟨la, lc, vs, L, rfl, hL6.row, hL6.rows, hall, bw3h.out.trans hb6⟩
  obtain ⟨n, hn2⟩ : ∃ n, n = L.length := ⟨_, rfl⟩
  rw [← hn2] at l0 hfin
  clear hL6 hall hb6 hwah hn2
  go_wp2_with fail
  go_ret
  exact hfin.out
end Go.Proofs.YtanbhibllilccaaGreat
