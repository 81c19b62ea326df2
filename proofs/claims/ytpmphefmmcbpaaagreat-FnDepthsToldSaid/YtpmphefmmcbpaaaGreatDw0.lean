/- impl.DepthFirst: its closures. -/
import Derived.Test.YtpmphefmmcbpaaaGreatDfs1
import Derived.Test.YtpmphefmmcbpaaaGreatNumbers
import Derived.Test.YtpmphefmmcbpaaaGreatFree1
import Derived.Deep.RegionLaw
import Derived.Deep.AppendLies
namespace Go.Proofs.YtpmphefmmcbpaaaGreat
open Go.RowKit

/-- The function that notes a visit of impl.DepthFirst. -/
def visitFn (pb : Nat) : Value := .func (.func 53) #[] #[.pointer (some ⟨pb, 0, none⟩)]

section
variable {ids : List Int} {A B tb mb pb : Nat} {fv ft : Value} {O S P : List Int} {sa : Value}

set_option maxRecDepth 100000 in
set_option maxHeartbeats 2000000 in
theorem visit_any (a : Option Addr) (n c : Nat) (x : Int) (w : World) (hn : n = P.length) (hP : n ≤ 2097000) (h : DfsAt w ids A B tb mb pb fv ft 22 3 (Value.int .i64) O S P sa (.slice a n c)) :
    Calls Tryz.prog 53 #[.iface 84 (.int .i64 x), .pointer (some ⟨pb, 0, none⟩)] w
      fun e w' => e = .returned (.tuple #[]) ∧ ∃ b1 c1, DfsAt w' ids A B tb mb pb fv ft 22 3 (Value.int .i64) O S (P ++ [x]) sa (.slice b1 (n + 1) c1) ∧ Moves (dfoot tb mb pb sa (.slice a n c)) w (dfoot tb mb pb sa (.slice b1 (n + 1) c1)) w' := by
  have hd : DfsAt w.drew ids A B tb mb pb fv ft 22 3 (Value.int .i64) O S P sa (.slice a n c) := h.below (drew_below w)
  have c0 := h.pblk.c0
  have c01 : ∀ o, (w.alloc o).cell? ⟨pb, 0, none⟩ = some (.slice a n c) := fun o => cell_alloc c0 o
  have ho : Hid (∀ o, (w.drew.alloc o).ownsRow B 3 1 (.slice a n c) n (P.map (Value.int .i64))) := fun o => by have := hd.prow.alloc o; rw [← hn] at this; exact this
  have hBz := h.lts.2.2.2
  have hlt : Hid (∀ j, (Value.slice a n c).ownBlock = some j → j < w.heap.size) := fun j hj => (h.prow.lt j hj).2
  have hh := Lib.hid hd
  have hnh := Lib.hid hn
  have hnew : Hid (∀ (j : Nat) u, [Value.int .i64 x][j]? = some u → (w.drew.alloc (.cells #[.int .i64 x] 3)).cell? ((⟨w.heap.size, 0, none⟩ : Addr).add j) = some u) := new_one w.drew _ _
  obtain ⟨i0, hi0, hz0, hz1, hz2⟩ := info_parts info_int
  have hmw : Hid (Moves (dfoot tb mb pb sa (.slice a n c)) w (dfoot tb mb pb sa (.slice a n c)) w.drew) := Moves.of_drew _ w
  clear h hn hd
  go_enter Tryz.func53, Tryz.ntmps53
  go_wp2_with fail
  go_region_law (first
    | (go_simp; go_at_call 43; ((with_reducible refine (number_any _ _).mono ?_)); rintro e w6 ⟨rfl, rfl⟩)
    | (refine step_append_lies _ rfl (.tmp 3) (.tmp 6) 22 rfl B 3 i0 (.int .i64 0) 1 8 Tryz.underlying22 hi0 hz0 hz1 hz2 rfl (by omega) (.slice a n c) n (P.map (Value.int .i64)) rfl (ho.out _) ⟨w.heap.size, 0, none⟩ 1 1 [.int .i64 x] rfl rfl hnew.out (one_int _) (by omega) (by unfold maxLen; omega) (by omega) (by show _ ≤ (w.drew.alloc _).heap.size; simp; omega) (w.heap.size + 1) (by simp) ?_; intro g2 c3 w6 hown6 hg6 hat6 _; obtain ⟨s1, s2⟩ := hh.out.note x hnh.out hg6 hown6 (fun j hj => by have hj' : some g2 = some j := hj; injection hj' with hj'; subst hj'; rcases hat6 with h | h; exact .inl h; exact .inr (by rw [h]; simp)); have s3 := s1.c0; have s4 := s1.free 0; clear hown6 hg6 hat6 s1))
  all_goals
    go_wp2_with fail
    go_end0
    exact ⟨rfl, _, _, s2.out.1, hmw.out.trans s2.out.2⟩

end

theorem func_visit (pb : Nat) (w : World) : (binOp .neq 73 (visitFn pb) .nilFunc).run Tryz.prog w = .ok (.bool true) w := by unfold visitFn; kernel_rfl

/-- The function that says where a walk ends. -/
def endFn (ub : Nat) : Value := .func (.func 55) #[] #[.pointer (some ⟨ub, 0, none⟩)]

theorem func_end (ub : Nat) (w : World) : (binOp .neq 94 (endFn ub) .nilFunc).run Tryz.prog w = .ok (.bool true) w := by unfold endFn; kernel_rfl

/-- The function that says whether an edge may be gone. -/
def freeFn (dp bp : Nat) : Value := .func (.func 76) #[] #[.pointer (some ⟨dp, 0, none⟩), .pointer (some ⟨bp, 0, none⟩)]

theorem func_free (dp bp : Nat) (w : World) : (binOp .neq 74 (freeFn dp bp) .nilFunc).run Tryz.prog w = .ok (.bool true) w := by unfold freeFn; kernel_rfl

theorem end_any (ub : Nat) (x v : Int) (w : World) (h : w.cell? ⟨ub, 0, none⟩ = some (.int .i64 v)) :
    Calls Tryz.prog 55 #[.iface 84 (.int .i64 x), .pointer (some ⟨ub, 0, none⟩)] w
      fun e w' => e = .returned (.bool (x == v)) ∧ Below w.heap.size w w' := by
  have hb0 := Lib.hid (drew_below w)
  go_enter Tryz.func55, Tryz.ntmps55
  go_wp2_with fail
  go_region_law (go_simp; go_at_call 43; ((with_reducible refine (number_any _ _).mono ?_)); rintro e w6 ⟨rfl, rfl⟩)
  all_goals
    go_wp2_with fail
    go_ret
    exact ⟨rfl, hb0.out⟩
end Go.Proofs.YtpmphefmmcbpaaaGreat
