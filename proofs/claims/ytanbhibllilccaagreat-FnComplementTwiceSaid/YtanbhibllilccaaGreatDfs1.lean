/- NodeStack: Push, Len, Pop. -/
import Derived.Test.YtanbhibllilccaaGreatDfs0
import Derived.BigRegion
namespace Go.Proofs.YtanbhibllilccaaGreat
open Go.RowKit

section
variable {ids : List Int} {A B tb mb pb : Nat} {fv ft : Value} {tp te : TypeId} {rep : Int → Value} {O S P : List Int} {pa : Value}

set_option maxHeartbeats 1000000 in
theorem spush_any (a : Option Addr) (n c : Nat) (x : Int) (w : World) (hn : n = S.length) (hS : n ≤ 2097000) (h : DfsAt w ids A B tb mb pb fv ft tp te rep O S P (.slice a n c) pa) :
    Calls Tryz.prog 91 #[.pointer (some ⟨tb, 2, none⟩), .iface 253 (.int .i64 x)] w
      fun e w' => e = .returned (.tuple #[]) ∧ ∃ b1 c1, DfsAt w' ids A B tb mb pb fv ft tp te rep O (x :: S) P (.slice b1 (n + 1) c1) pa ∧ Moves (dfoot tb mb pb (.slice a n c) pa) w (dfoot tb mb pb (.slice b1 (n + 1) c1) pa) w' := by
  have c2 := h.blk.c2
  have ho : Hid (∀ o, (w.alloc o).ownsRow B 104 1 (.slice a n c) n (nodes S.reverse)) := fun o => by have := h.stk.alloc o; rw [← hn] at this; exact this
  have hBz := h.lts.2.2.2
  have hh := Lib.hid h
  have hnh := Lib.hid hn
  clear h hn
  go_enter Tryz.func91, Tryz.ntmps91
  go_wp2_with (at_builtin; refine append_law 98 104 .nilIface 1 16 Tryz.underlying98 info_node rfl (by omega) (by omega) rfl _ _ rfl B a n c (nodes S.reverse) rfl (unhide ho _) ⟨w.heap.size, 0, none⟩ 1 1 [.iface 253 (.int .i64 x)] rfl rfl (new_one w _ _) (one_node _) (by omega) (by simp; omega) ?_; intro b2 c2' w2 hown2 hg2 hat2; obtain ⟨q1, q2⟩ := hh.out.push x hnh.out hg2 hown2 hat2; have q3 := q1.c2; have q4 := q1.free 2; clear hown2 hg2 hat2 ho hh)
  go_end0
  exact ⟨rfl, _, _, q2.out.1, q2.out.2⟩

theorem slen_any (n c : Nat) (a : Option Addr) (w : World) (hc : w.cell? ⟨tb, 2, none⟩ = some (.slice a n c)) :
    Calls Tryz.prog 92 #[.pointer (some ⟨tb, 2, none⟩)] w fun e w' => e = .returned (.int .i64 n) ∧ w' = w := by
  go_enter Tryz.func92, Tryz.ntmps92
  go_wp2
  go_ret
  exact ⟨rfl, rfl⟩

set_option maxHeartbeats 1000000 in
theorem spop_any (a : Option Addr) (n c : Nat) (y : Int) (w : World) (hn : n = S.length) (hS : n ≤ 2097000) (h : DfsAt w ids A B tb mb pb fv ft tp te rep O (y :: S) P (.slice a (n + 1) c) pa) :
    Calls Tryz.prog 93 #[.pointer (some ⟨tb, 2, none⟩)] w
      fun e w' => e = .returned (.iface 253 (.int .i64 y)) ∧ ∃ b1 c1, DfsAt w' ids A B tb mb pb fv ft tp te rep O S P (.slice b1 n c1) pa ∧ Moves (dfoot tb mb pb (.slice a (n + 1) c) pa) w (dfoot tb mb pb (.slice b1 n c1) pa) w' := by
  have c2 := h.blk.c2
  have f2 := h.blk.free 2
  have hos := h.stk
  rw [show (y :: S).length = n + 1 by simp [hn]] at hos
  obtain ⟨g, rfl, _, _, hcap⟩ := owns_at hos (by omega)
  have hP : Hid (∀ W, Below w.heap.size w W → W.cell? ⟨g, n, none⟩ = some (.iface 253 (.int .i64 y)) ∧ DfsAt (W.setCell ⟨tb, 2, none⟩ (.slice (some ⟨g, 0, none⟩) n c)) ids A B tb mb pb fv ft tp te rep O S P (.slice (some ⟨g, 0, none⟩) n c) pa ∧
      Moves (dfoot tb mb pb (.slice (some ⟨g, 0, none⟩) (n + 1) c) pa) w (dfoot tb mb pb (.slice (some ⟨g, 0, none⟩) n c) pa) (W.setCell ⟨tb, 2, none⟩ (.slice (some ⟨g, 0, none⟩) n c))) := fun W hW => by
    obtain ⟨p1, _, p3, p4⟩ := (h.below hW).pop rfl (by simp [hn])
    have e1 : n + 1 - 1 = n := by omega
    rw [e1] at p1 p3 p4
    exact ⟨p1, p3, (Moves.of_below _ hW).trans p4⟩
  obtain ⟨p1, _, _⟩ := hP.out w (Below.refl _ _)
  have i1 : ((n + 1 : Nat) : Int) - 1 = (n : Int) := by omega
  have e2 : (n : Int) < ((n + 1 : Nat) : Int) := by omega
  have e3 : (n : Int) ≤ (c : Int) := by omega
  clear h hos hn
  go_enter Tryz.func93, Tryz.ntmps93
  go_wp2_with fail
  go_quiet (fail)
  obtain ⟨_, q1, q2⟩ := hP.out (w.drewN nq) (drewN_below w nq)
  have q1h := Lib.hid q1
  have q2h := Lib.hid q2
  clear q1 q2 hP
  go_wp2_with fail
  go_ret
  exact ⟨rfl, _, _, q1h.out, q2h.out⟩
end
end Go.Proofs.YtanbhibllilccaaGreat
