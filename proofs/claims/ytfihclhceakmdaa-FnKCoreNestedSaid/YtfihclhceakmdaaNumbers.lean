/- slices.Sort at []int; impl.numbers. -/
import Derived.Test.YtfihclhceakmdaaSort64
import Derived.Test.YtfihclhceakmdaaIter
import Derived.Test.YtfihclhceakmdaaFrom
import Derived.Handy
namespace Go.Proofs.Ytfihclhceakmdaa
open Go.RowKit Go.Sort Go.Lib

theorem number_any (x : Int) (w : World) : Calls Try.prog 24 #[.iface 147 (.int .i64 x)] w fun e w' => e = .returned (.int .i64 x) ∧ w = w' := by
  go_enter Try.func24, Try.ntmps24
  go_wp2_with (go_at_call 94; refine (id_any _ _).mono ?_; rintro e w' ⟨rfl, rfl⟩)
  go_ret
  exact ⟨rfl, rfl⟩

set_option maxHeartbeats 1000000 in
theorem numbers_any (a : Option Addr) (n c : Nat) (zs : List Int) (w : World) (hl : n = zs.length) (hn : n ≤ 1000000) (hc : Cells w a (nodes zs)) :
    Calls Try.prog 14 #[.slice a n c] w fun e w' => ∃ a1 c1, e = .returned (.slice a1 zs.length c1) ∧ w'.ownsRow w.heap.size 3 1 (.slice a1 zs.length c1) zs.length (ints zs) ∧ Below w.heap.size w w' := by
  subst hl
  have hch := Lib.hid hc
  clear hc
  go_enter Try.func14, Try.ntmps14
  go_wp2
  go_loopw [3, 5, 8] (fun s _ i wr => ∃ (k : Nat) (b : Option Addr) (cb : Nat), k ≤ zs.length ∧ i = .int .i64 k ∧ s = .slice b k cb ∧ wr.ownsRow w.heap.size 3 1 (.slice b k cb) k (ints (zs.take k)) ∧ Below w.heap.size w wr) (fun _ _ i _ => zs.length - (intOf i).toNat)
  case atStart => exact ⟨0, none, 0, Nat.zero_le _, rfl, rfl, World.ownsRow_nil _ _ _ _, Below.refl _ _⟩
  case round =>
    obtain ⟨k, b, cb, hk, rfl, rfl, hown, hb⟩ := hrel
    by_cases hlt : k < zs.length
    · obtain ⟨nb, no, rfl, _, hr⟩ := (hch.out.below hb).at (by rw [nodes_length]; omega)
      have hnd := hr _ _ (nodes_get zs k hlt)
      obtain ⟨x, hx⟩ : ∃ x, x = zs[k] := ⟨_, rfl⟩
      rw [← hx] at hnd
      unfold nodev at hnd
      have htk : Hid (ints (zs.take (k + 1)) = ints (zs.take k) ++ [.int .i64 x]) := by
        unfold Hid; rw [List.take_succ_eq_append_getElem hlt, ← hx]; unfold ints; rw [List.map_append]; rfl
      have hBs := hb.size
      have ho := Lib.hid (fun o => hown.alloc o)
      have hfin := Lib.hid (fun o b2 c2 w2 (h2 : w2.ownsRow w.heap.size 3 1 (.slice b2 (k + 1) c2) (k + 1) (ints (zs.take k) ++ [.int .i64 x])) (hg : (wr.alloc o).grownBy w2 (Value.slice b k cb).ownBlock) =>
        show w2.ownsRow w.heap.size 3 1 (.slice b2 (k + 1) c2) (k + 1) (ints (zs.take (k + 1))) ∧ Below w.heap.size w w2 from
          ⟨by rw [htk.out]; exact h2, (hb.alloc hBs o).grown hg (by simp; omega) (fun j e => (hown.lt j e).1)⟩)
      clear hx hr hown hb htk
      go_wp2_with (first
        | (go_at_call 24; refine (number_any _ _).mono ?_; rintro e w' ⟨rfl, rfl⟩)
        | (at_builtin; refine append_law 22 3 (.int .i64 0) 1 8 Try.underlying22 info_int rfl (by omega) (by omega) rfl _ _ rfl w.heap.size b k cb (ints (zs.take k)) rfl (unhide ho _) ⟨wr.heap.size, 0, none⟩ 1 1 [.int .i64 x] rfl rfl (new_one wr _ _) (one_int _) (by omega) (by simp; omega) ?_; intro b2 c2 w2 hown2 hg2 hat2; have hf := Lib.hid (unhide hfin _ _ _ _ hown2 hg2); clear hown2 hg2 hat2))
      go_roundw
      case rel => exact ⟨k + 1, b2, c2, by omega, by go_num, rfl, hf.out.1, hf.out.2⟩
      case measure => simp [intOf]; omega
    · have hkn : k = zs.length := by omega
      subst hkn
      rw [List.take_length] at hown
      have hf : Hid (wr.ownsRow w.heap.size 3 1 (.slice b zs.length cb) zs.length (ints zs) ∧ Below w.heap.size w wr) := ⟨hown, hb⟩
      clear hown hb
      go_wp2_with fail
      go_ret
      exact ⟨b, cb, rfl, hf.out.1, hf.out.2⟩
end Go.Proofs.Ytfihclhceakmdaa
