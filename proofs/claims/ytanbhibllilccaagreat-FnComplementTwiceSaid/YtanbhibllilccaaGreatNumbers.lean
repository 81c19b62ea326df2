/- slices.Sort at []int; impl.numbers. -/
import Derived.Test.YtanbhibllilccaaGreatSort64
import Derived.Test.YtanbhibllilccaaGreatIter
import Derived.Test.YtanbhibllilccaaGreatFrom
import Derived.Handy
namespace Go.Proofs.YtanbhibllilccaaGreat
open Go.RowKit Go.Sort Go.Lib

theorem sortInt_any (base n cap : Nat) (a : Option Addr) (zs : List Int) (w : World) (hn : n ≤ 1048576) (hown : w.ownsRow base 3 1 (.slice a n cap) n (ints zs)) :
    Calls Tryz.prog 40 #[.slice a n cap] w fun e w' => e = .returned (.tuple #[]) ∧ w'.ownsRow base 3 1 (.slice a n cap) n (ints (asc zs)) ∧ w.grownBy w' (Value.slice a n cap).ownBlock := by
  have hl : zs.length = n := by have := hown.1; simpa [ints] using this
  by_cases h0 : n = 0
  · subst h0
    have hz : zs = [] := List.eq_nil_of_length_eq_zero hl
    subst hz
    refine Calls.mono (P := Tryz.prog) (by first | exact Tryz.slices_Sort_int_none_f40 a cap w | exact Tryz.slices_Sort_int_none a cap w) ?_
    rintro e w' ⟨rfl, rfl⟩
    exact ⟨rfl, by simpa [asc] using hown, World.grownBy.refl _ _⟩
  · obtain ⟨g, rfl, _, hg, _⟩ := owns_at hown (by omega)
    subst hl
    refine Calls.mono (P := Tryz.prog) (by first | exact Tryz.slices_Sort_int_f40 g 0 cap zs w (holds_owns hown) hg (by omega) | exact Tryz.slices_Sort_int g 0 cap zs w (holds_owns hown) hg (by omega)) ?_
    rintro e w' ⟨rfl, k, os, rfl⟩
    exact ⟨rfl, owns_put (ys := asc zs) hown (asc_length zs), grown_put _⟩

theorem number_any (x : Int) (w : World) : Calls Tryz.prog 55 #[.iface 253 (.int .i64 x)] w fun e w' => e = .returned (.int .i64 x) ∧ w = w' := by
  go_enter Tryz.func55, Tryz.ntmps55
  go_wp2_with (go_at_call 225; refine (id_any _ _).mono ?_; rintro e w' ⟨rfl, rfl⟩)
  go_ret
  exact ⟨rfl, rfl⟩

set_option maxHeartbeats 1000000 in
theorem numbers_any (a : Option Addr) (n c : Nat) (zs : List Int) (w : World) (hl : n = zs.length) (hn : n ≤ 1000000) (hc : Cells w a (nodes zs)) :
    Calls Tryz.prog 39 #[.slice a n c] w fun e w' => ∃ a1 c1, e = .returned (.slice a1 zs.length c1) ∧ w'.ownsRow w.heap.size 3 1 (.slice a1 zs.length c1) zs.length (ints zs) ∧ Below w.heap.size w w' := by
  subst hl
  have hch := Lib.hid hc
  clear hc
  go_enter Tryz.func39, Tryz.ntmps39
  go_wp2
  go_loopw [3, 5, 8] (fun s _ i wr => ∃ (k : Nat) (b : Option Addr) (cb : Nat), k ≤ zs.length ∧ i = .int .i64 k ∧ s = .slice b k cb ∧ wr.ownsRow w.heap.size 3 1 (.slice b k cb) k (ints (zs.take k)) ∧ Below w.heap.size w wr) (fun _ _ i _ => zs.length - (intOf i).toNat)
  case atStart => exact ⟨0, none, 0, Nat.zero_le _, rfl, rfl, World.ownsRow_nil _ _ _ _, Below.refl _ _⟩
  case round =>
    obtain ⟨k, b, cb, hk, rfl, rfl, hown, hb⟩ := hrel
    by_cases hlt : k < zs.length
    · obtain ⟨nb, no, rfl, _, hr⟩ := (hch.out.below hb).at (by rw [nodes_length]; omega)
      have hnd := hr _ _ (nodes_get zs k hlt)
      obtain ⟨x, hx⟩ : ∃ x, x = zs[k] := ⟨_, rfl⟩
      rw [← hx] at hnd
      unfold nodev at hnd
      have htk : Hid (ints (zs.take (k + 1)) = ints (zs.take k) ++ [.int .i64 x]) := by
        unfold Hid; rw [List.take_succ_eq_append_getElem hlt, ← hx]; unfold ints; rw [List.map_append]; rfl
      have hBs := hb.size
      have ho := Lib.hid (fun o => hown.alloc o)
      have hfin := Lib.hid (fun o b2 c2 w2 (h2 : w2.ownsRow w.heap.size 3 1 (.slice b2 (k + 1) c2) (k + 1) (ints (zs.take k) ++ [.int .i64 x])) (hg : (wr.alloc o).grownBy w2 (Value.slice b k cb).ownBlock) =>
        show w2.ownsRow w.heap.size 3 1 (.slice b2 (k + 1) c2) (k + 1) (ints (zs.take (k + 1))) ∧ Below w.heap.size w w2 from
          ⟨by rw [htk.out]; exact h2, (hb.alloc hBs o).grown hg (by simp; omega) (fun j e => (hown.lt j e).1)⟩)
      clear hx hr hown hb htk
      go_wp2_with (first
        | (go_at_call 55; refine (number_any _ _).mono ?_; rintro e w' ⟨rfl, rfl⟩)
        | (at_builtin; refine append_law 22 3 (.int .i64 0) 1 8 Tryz.underlying22 info_int rfl (by omega) (by omega) rfl _ _ rfl w.heap.size b k cb (ints (zs.take k)) rfl (unhide ho _) ⟨wr.heap.size, 0, none⟩ 1 1 [.int .i64 x] rfl rfl (new_one wr _ _) (one_int _) (by omega) (by simp; omega) ?_; intro b2 c2 w2 hown2 hg2 hat2; have hf := Lib.hid (unhide hfin _ _ _ _ hown2 hg2); clear hown2 hg2 hat2))
      go_roundw
      case rel => exact ⟨k + 1, b2, c2, by omega, by go_num, rfl, hf.out.1, hf.out.2⟩
      case measure => simp [intOf]; omega
    · have hkn : k = zs.length := by omega
      subst hkn
      rw [List.take_length] at hown
      have hf : Hid (wr.ownsRow w.heap.size 3 1 (.slice b zs.length cb) zs.length (ints zs) ∧ Below w.heap.size w wr) := ⟨hown, hb⟩
      clear hown hb
      go_wp2_with fail
      go_ret
      exact ⟨b, cb, rfl, hf.out.1, hf.out.2⟩
end Go.Proofs.YtanbhibllilccaaGreat
