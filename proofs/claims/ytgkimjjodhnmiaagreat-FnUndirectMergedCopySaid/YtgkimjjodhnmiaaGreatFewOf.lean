/- laws.fewOf. -/
import Derived.Test.YtgkimjjodhnmiaaGreatLaws1
namespace Go.Proofs.YtgkimjjodhnmiaaGreat
open Go.RowKit

theorem fewOf_any (g : Gr) (an : Option Addr) (cn : Nat) (ae : Option Addr) (ce : Nat) (d : Bool) (w : World) (N : Nat) (hN : N ≤ 1000) (hg : GrAt w g an cn ae) :
    Calls Tryz.prog 5 #[.agg #[.bool g.dir, .slice an g.nodes.length cn, .slice ae g.edges.length ce], .bool d, .int .i64 N] w fun e w' => e = .returned (.bool (g.dir == d && fewB g N)) ∧ Below w.heap.size w w' := by
  have hf := Lib.hid (few_any g an cn ae ce (w.alloc (.cells #[.bool g.dir, .slice an g.nodes.length cn, .slice ae g.edges.length ce] 25)) N hN (hg.below (alloc_below w _)))
  clear hg
  obtain ⟨q, hq⟩ : ∃ q, q = fewB g N := ⟨_, rfl⟩
  rw [← hq] at hf
  obtain ⟨gd, hgd⟩ : ∃ gd, gd = g.dir := ⟨_, rfl⟩
  rw [← hgd] at hf ⊢
  rw [← hq]
  clear hq hgd
  by_cases hd : gd = d
  · subst hd
    have hdd : (gd == gd) = true := by simp
    go_enter Tryz.func5, Tryz.ntmps5
    go_wp2_with fail
    refine (unhide hf).mono ?_
    rintro e w1 ⟨rfl, hb⟩
    have hbh : Hid (Below w.heap.size w w1) := (alloc_below w _).trans (hb.mono (by simp))
    clear hb hf
    go_wp2_with fail
    go_ret
    exact ⟨ret_bool (by simp), hbh.out⟩
  · have hdd : (gd == d) = false := by simpa using hd
    clear hd
    go_enter Tryz.func5, Tryz.ntmps5
    go_wp2_with fail
    go_ret
    exact ⟨ret_bool (by rw [hdd]; rfl), alloc_below w _⟩

end Go.Proofs.YtgkimjjodhnmiaaGreat
