/- Nodes of a plain graph: all, OrderedNodes.Len and NodeSlice at a new iterator, graph.NodesOf. -/
import Derived.Test.YtgkimjjodhnmiaaGreatFrom
import Derived.Handy
import Derived.Stop.Asserts
namespace Go.Proofs.YtgkimjjodhnmiaaGreat
open Go.RowKit

set_option maxHeartbeats 1000000 in
theorem all_any (pb : Nat) (ids : List Int) (ai : Option Addr) (ci : Nat) (w : World) (hids : ids.length ≤ 1048576)
    (h0 : w.cell? ⟨pb, 0, none⟩ = some (.slice ai ids.length ci)) (hc0 : Cells w ai (ints ids)) :
    Calls Tryz.prog 141 #[.pointer (some ⟨pb, 0, none⟩)] w
      fun e w' => ∃ ib, e = .returned (.iface 208 (.pointer (some ⟨ib, 0, none⟩))) ∧ IterAt w' w.heap.size w'.heap.size ib 0 ids ∧ Below w.heap.size w w' := by
  have hmk := fun W => run_make_cap (P := Tryz.prog) 196 90 .nilIface 16 Tryz.underlying196 info_node rfl ids.length (by omega) (by omega) W
  have h01 : ∀ o, (w.alloc o).cell? ⟨pb, 0, none⟩ = some (.slice ai ids.length ci) := fun o => cell_alloc h0 o
  go_enter Tryz.func141, Tryz.ntmps141
  go_wp2
  have hb1 : Below w.heap.size w (w.alloc (.cells (madeCells #[.nilIface] ids.length) 90)) := alloc_below w _
  have own1 : (w.alloc (.cells (madeCells #[.nilIface] ids.length) 90)).ownsRow w.heap.size 90 1 (.slice (some ⟨w.heap.size, 0, none⟩) 0 ids.length) 0 [] :=
    World.ownsRow_made w _ _ (Nat.le_refl _) (by unfold maxLen; omega) (by rw [size_madeCells, Nat.mul_one])
  obtain ⟨w1, hw1⟩ : ∃ w1, w1 = w.alloc (.cells (madeCells #[.nilIface] ids.length) 90) := ⟨_, rfl⟩
  rw [← hw1] at hb1 own1 ⊢
  clear hw1 hmk h01
  have hc0' := Lib.hid hc0
  clear h0 hc0
  go_loopw [3, 17] (fun s i wr => ∃ (k : Nat) (g c : Nat), k ≤ ids.length ∧ i = .int .i64 k ∧ s = .slice (some ⟨g, 0, none⟩) k c ∧ wr.ownsRow w.heap.size 90 1 (.slice (some ⟨g, 0, none⟩) k c) k (nodes (ids.take k)) ∧
    Below w.heap.size w wr) (fun _ i _ => ids.length - (intOf i).toNat)
  case atStart => exact ⟨0, w.heap.size, ids.length, Nat.zero_le _, rfl, rfl, own1, hb1⟩
  case round =>
    clear own1 hb1
    obtain ⟨k, g, c, hk, rfl, rfl, hown, hb⟩ := hrel
    by_cases hlt : k < ids.length
    · obtain ⟨b3, off3, rfl, hbl3, hr3⟩ := ((unhide hc0').below hb).at (by rw [ints_length]; omega)
      have e3 := hr3 _ _ (ints_get ids k hlt)
      have ho := Lib.hid (fun o => hown.alloc o)
      have hfin := Lib.hid (fun o g2 c2 w2 (h2 : w2.ownsRow w.heap.size 90 1 (.slice (some ⟨g2, 0, none⟩) (k + 1) c2) (k + 1) (nodes (ids.take k) ++ [.iface 205 (.int .i64 ids[k])])) (hg : (wr.alloc o).grownBy w2 (some g)) =>
        show w2.ownsRow w.heap.size 90 1 (.slice (some ⟨g2, 0, none⟩) (k + 1) c2) (k + 1) (nodes (ids.take (k + 1))) ∧ Below w.heap.size w w2 from by
          have hsz := hb.size
          have hgB := (hown.lt g rfl).1
          refine ⟨?_, (hb.alloc (by omega) o).grown hg (by simp; omega) (fun j e => by injection e with e; omega)⟩
          have e : nodes (ids.take (k + 1)) = nodes (ids.take k) ++ [.iface 205 (.int .i64 ids[k])] := by
            rw [List.take_succ_eq_append_getElem hlt]
            unfold nodes
            rw [List.map_append]; rfl
          rw [e]; exact h2)
      have hBs := hb.size
      clear hown hb hr3
      go_wp2_with (at_builtin; refine append_law 196 90 .nilIface 1 16 Tryz.underlying196 info_node rfl (by omega) (by omega) rfl _ _ rfl w.heap.size (some ⟨g, 0, none⟩) k c (nodes (ids.take k)) rfl (unhide ho _) ⟨wr.heap.size, 0, none⟩ 1 1 [.iface 205 (.int .i64 ids[k])] rfl rfl (new_one wr _ _) (one_node _) (by omega) (by simp; omega) ?_; intro b2 c2 w2 hown2 hg2 hat2; obtain ⟨g2, rfl, _⟩ := owns_at hown2 (by omega); have hf := Lib.hid (unhide hfin _ _ _ _ hown2 hg2); clear hown2 hg2 hat2)
      go_roundw
      case rel => exact ⟨k + 1, g2, c2, by omega, by go_num, rfl, hf.out.1, hf.out.2⟩
      case measure => simp [intOf]; omega
    · rw [take_all hk hlt] at hown
      have hkl : k = ids.length := by omega
      subst hkl
      have hBs := hb.size
      have hfin : Hid (IterAt (wr.alloc (.cells #[.int .i64 (-1), .slice (some ⟨g, 0, none⟩) ids.length c] 211)) w.heap.size (wr.alloc (.cells #[.int .i64 (-1), .slice (some ⟨g, 0, none⟩) ids.length c] 211)).heap.size wr.heap.size 0 ids ∧ Below w.heap.size w (wr.alloc (.cells #[.int .i64 (-1), .slice (some ⟨g, 0, none⟩) ids.length c] 211))) := by
        have hgl := (hown.lt g rfl).2
        refine ⟨⟨by omega, by simp, some ⟨g, 0, none⟩, c, fun j hj => ?_, ?_, ?_, ?_⟩, hb.alloc (by omega) _⟩
        · simp only [Value.ownBlock] at hj; injection hj with hj; simp; omega
        · exact heap_alloc_new wr _
        · exact hown.alloc _
        · simp only [Value.ownBlock]; intro e; injection e with e; omega
      clear hown hb
      go_wp2_with (go_at_call 144; refine (newOrdered_any _ _ _ _).mono ?_; rintro e w' ⟨rfl, rfl⟩)
      go_ret
      exact ⟨_, rfl, hfin.out.1, hfin.out.2⟩

theorem row_drewN {w w' : World} {q : Nat} {row : Option Nat} (h : (w.drewN q).grownBy w' row) : w.grownBy w' row := ⟨h.os, h.tape, h.output, h.size, h.block⟩

set_option maxRecDepth 100000 in
theorem nodesDir_any (pb : Nat) (ids : List Int) (outs ins : List (List Arc)) (w : World) (hids : ids.length ≤ 1000) (hp : PlainAt w pb ids outs ins) :
    Calls Tryz.prog 133 #[.agg #[.pointer (some ⟨pb, 0, none⟩)]] w
      fun e w' => ∃ ib, e = .returned (.iface 208 (.pointer (some ⟨ib, 0, none⟩))) ∧ IterAt w' w.heap.size w'.heap.size ib 0 ids ∧ Below w.heap.size w w' := by
  have hp1 := hp.below (alloc_below w (.cells #[.pointer (some ⟨pb, 0, none⟩)] 52))
  obtain ⟨ai, ci, h0, hc0⟩ := hp1.row
  have hall := Lib.hid (all_any pb ids ai ci _ (by omega) h0 hc0)
  clear hp hp1 h0 hc0
  go_enter Tryz.func133, Tryz.ntmps133
  go_wp2_with fail
  refine (unhide hall).mono ?_
  rintro e w2 ⟨ib, rfl, hit, hb⟩
  have hfin : Hid (IterAt w2 w.heap.size w2.heap.size ib 0 ids ∧ Below w.heap.size w w2) := ⟨hit.mono (by simp), (alloc_below w _).trans (hb.mono (by simp))⟩
  clear hit hb hall
  go_wp2_with fail
  go_ret
  exact ⟨ib, rfl, hfin.out⟩

set_option maxRecDepth 100000 in
theorem nodesUnd_any (pb : Nat) (ids : List Int) (outs ins : List (List Arc)) (w : World) (hids : ids.length ≤ 1000) (hp : PlainAt w pb ids outs ins) :
    Calls Tryz.prog 158 #[.agg #[.pointer (some ⟨pb, 0, none⟩)]] w
      fun e w' => ∃ ib, e = .returned (.iface 208 (.pointer (some ⟨ib, 0, none⟩))) ∧ IterAt w' w.heap.size w'.heap.size ib 0 ids ∧ Below w.heap.size w w' := by
  have hp1 := hp.below (alloc_below w (.cells #[.pointer (some ⟨pb, 0, none⟩)] 73))
  obtain ⟨ai, ci, h0, hc0⟩ := hp1.row
  have hall := Lib.hid (all_any pb ids ai ci _ (by omega) h0 hc0)
  clear hp hp1 h0 hc0
  go_enter Tryz.func158, Tryz.ntmps158
  go_wp2_with fail
  refine (unhide hall).mono ?_
  rintro e w2 ⟨ib, rfl, hit, hb⟩
  have hfin : Hid (IterAt w2 w.heap.size w2.heap.size ib 0 ids ∧ Below w.heap.size w w2) := ⟨hit.mono (by simp), (alloc_below w _).trans (hb.mono (by simp))⟩
  clear hit hb hall
  go_wp2_with fail
  go_ret
  exact ⟨ib, rfl, hfin.out⟩

end Go.Proofs.YtgkimjjodhnmiaaGreat
