/- impl.WalkAll: what is done at each visit, and the function that ends a walk. -/
import Derived.Test.YtgbihghaoapgiaaGreatDfs1
import Derived.Test.YtgbihghaoapgiaaGreatNumbers
import Derived.Deep.RegionLaw
import Derived.Deep.AppendLies
namespace Go.Proofs.YtgbihghaoapgiaaGreat
open Go.RowKit

/-- The function that notes a visit. -/
def noteFn (pb : Nat) : Value := .func (.func 59) #[] #[.pointer (some ⟨pb, 0, none⟩)]

section
variable {ids : List Int} {A B tb mb pb : Nat} {fv ft : Value} {O S P : List Int} {sa : Value}

set_option maxRecDepth 100000 in
set_option maxHeartbeats 2000000 in
theorem note_any (a : Option Addr) (n c : Nat) (x : Int) (w : World) (hn : n = P.length) (hP : n ≤ 2097000) (h : DfsAt w ids A B tb mb pb fv ft 22 3 (Value.int .i64) O S P sa (.slice a n c)) :
    Calls Tryz.prog 59 #[.iface 84 (.int .i64 x), .pointer (some ⟨pb, 0, none⟩)] w
      fun e w' => e = .returned (.tuple #[]) ∧ ∃ b1 c1, DfsAt w' ids A B tb mb pb fv ft 22 3 (Value.int .i64) O S (P ++ [x]) sa (.slice b1 (n + 1) c1) ∧ Moves (dfoot tb mb pb sa (.slice a n c)) w (dfoot tb mb pb sa (.slice b1 (n + 1) c1)) w' := by
  have hd : DfsAt w.drew ids A B tb mb pb fv ft 22 3 (Value.int .i64) O S P sa (.slice a n c) := h.below (drew_below w)
  have c0 := h.pblk.c0
  have c01 : ∀ o, (w.alloc o).cell? ⟨pb, 0, none⟩ = some (.slice a n c) := fun o => cell_alloc c0 o
  have ho : Hid (∀ o, (w.drew.alloc o).ownsRow B 3 1 (.slice a n c) n (P.map (Value.int .i64))) := fun o => by have := hd.prow.alloc o; rw [← hn] at this; exact this
  have hBz := h.lts.2.2.2
  have hlt : Hid (∀ j, (Value.slice a n c).ownBlock = some j → j < w.heap.size) := fun j hj => (h.prow.lt j hj).2
  have hh := Lib.hid hd
  have hnh := Lib.hid hn
  have hnew : Hid (∀ (j : Nat) u, [Value.int .i64 x][j]? = some u → (w.drew.alloc (.cells #[.int .i64 x] 3)).cell? ((⟨w.heap.size, 0, none⟩ : Addr).add j) = some u) := new_one w.drew _ _
  obtain ⟨i0, hi0, hz0, hz1, hz2⟩ := info_parts info_int
  have hmw : Hid (Moves (dfoot tb mb pb sa (.slice a n c)) w (dfoot tb mb pb sa (.slice a n c)) w.drew) := Moves.of_drew _ w
  clear h hn hd
  go_enter Tryz.func59, Tryz.ntmps59
  go_wp2_with fail
  go_region_law (first
    | (go_simp; go_at_call 43; ((with_reducible refine (number_any _ _).mono ?_)); rintro e w6 ⟨rfl, rfl⟩)
    | (refine step_append_lies _ rfl (.tmp 3) (.tmp 6) 22 rfl B 3 i0 (.int .i64 0) 1 8 Tryz.underlying22 hi0 hz0 hz1 hz2 rfl (by omega) (.slice a n c) n (P.map (Value.int .i64)) rfl (ho.out _) ⟨w.heap.size, 0, none⟩ 1 1 [.int .i64 x] rfl rfl hnew.out (one_int _) (by omega) (by unfold maxLen; omega) (by omega) (by show _ ≤ (w.drew.alloc _).heap.size; simp; omega) (w.heap.size + 1) (by simp) ?_; intro g2 c3 w6 hown6 hg6 hat6 _; obtain ⟨s1, s2⟩ := hh.out.note x hnh.out hg6 hown6 (fun j hj => by have hj' : some g2 = some j := hj; injection hj' with hj'; subst hj'; rcases hat6 with h | h; exact .inl h; exact .inr (by rw [h]; simp)); have s3 := s1.c0; have s4 := s1.free 0; clear hown6 hg6 hat6 s1))
  all_goals
    go_wp2_with fail
    go_end0
    exact ⟨rfl, _, _, s2.out.1, hmw.out.trans s2.out.2⟩

theorem func_note (pb : Nat) (w : World) : (binOp .neq 73 (noteFn pb) .nilFunc).run Tryz.prog w = .ok (.bool true) w := by unfold noteFn; kernel_rfl

set_option maxHeartbeats 1000000 in
theorem duntil_any (a : Option Addr) (n c : Nat) (db : Nat) (x : Int) (w : World) (hn : n = P.length) (hP : n ≤ 2097000) (hdb : w.cell? ⟨db, 0, none⟩ = some (noteFn pb)) (h : DfsAt w ids A B tb mb pb fv ft 22 3 (Value.int .i64) O S P sa (.slice a n c)) :
    Calls Tryz.prog 102 #[.iface 84 (.int .i64 x), .pointer (some ⟨db, 0, none⟩)] w
      fun e w' => e = .returned (.bool false) ∧ ∃ b1 c1, DfsAt w' ids A B tb mb pb fv ft 22 3 (Value.int .i64) O S (P ++ [x]) sa (.slice b1 (n + 1) c1) ∧ Moves (dfoot tb mb pb sa (.slice a n c)) w (dfoot tb mb pb sa (.slice b1 (n + 1) c1)) w' := by
  have hnt := Lib.hid (note_any a n c x w hn hP h)
  have hfn := func_note pb
  unfold noteFn at hdb hfn
  clear h hn
  go_enter Tryz.func102, Tryz.ntmps102
  go_wp2_with fail
  refine (unhide hnt).mono ?_
  rintro e w2 ⟨rfl, b1, c1, h1, h2⟩
  have h1h := Lib.hid h1
  have h2h := Lib.hid h2
  clear h1 h2 hnt
  go_wp2_with fail
  go_ret
  exact ⟨rfl, _, _, h1h.out, h2h.out⟩
end
end Go.Proofs.YtgbihghaoapgiaaGreat
