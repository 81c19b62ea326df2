/- The queue of nodes: Dequeue. -/
import Derived.Test.YtpmphefmmcbpaaaGreatQueue
namespace Go.Proofs.YtpmphefmmcbpaaaGreat
open Go.RowKit

set_option maxHeartbeats 1000000 in
theorem dequeue_any (B tb N : Nat) (m : BF) (x : Int) (q : List Int) (w : World) (hN : N ≤ 1048576) (hq : QAt w B tb N m (x :: q)) :
    Calls Tryz.prog 82 #[.pointer (some ⟨tb, 2, none⟩)] w
      fun e w' => e = .returned (.iface 84 (.int .i64 x)) ∧ QAt w' B tb N m q ∧ Touch tb w w' := by
  obtain ⟨h, n, c, a, xs, p, own, hd, hh, _, hn, htb, hB⟩ := hq
  have hxl : xs.length = n := by have := own.1; omega
  have hql : n - h = q.length + 1 := by
    have := congrArg List.length hd
    rw [List.length_drop, nodes_length, List.length_cons, hxl] at this; exact this
  obtain ⟨g, rfl, hgB, hgw, hcap⟩ := owns_at own (by omega)
  have hx : xs[h]? = some (.iface 84 (.int .i64 x)) := by
    have : (xs.drop h)[0]? = some (nodev x) := by rw [hd]; rfl
    rw [List.getElem?_drop] at this
    exact this
  have hd' : xs.drop (h + 1) = nodes q := by
    rw [← List.drop_drop, hd]; rfl
  have hlen := Lib.hid (qlen_any tb h n (some ⟨g, 0, none⟩) c m w hh (by omega) p)
  have hne : ((n - h : Nat) : Int) = ((q.length : Nat) : Int) + 1 := by omega
  have hn0 : (((q.length : Nat) : Int) + 1 == 0) = false := by rw [beq_eq_false_iff_ne]; omega
  have hnz : ¬ ((q.length : Int) + 1 = 0) := by omega
  rw [hne] at hlen
  have ph := Lib.hid p
  have oh := Lib.hid own
  clear p own hne
  go_enter Tryz.func82, Tryz.ntmps82
  go_wp2_with fail
  refine (unhide hlen).mono ?_
  rintro e w1 ⟨rfl, q1, hw1⟩
  have p1 : TBlock w1 tb h (.slice (some ⟨g, 0, none⟩) n c) m := by rw [hw1]; exact ph.out
  have o1 : w1.ownsRow B 71 1 (.slice (some ⟨g, 0, none⟩) n c) n xs := by rw [hw1]; exact oh.out
  have hk1 : Touch tb w w1 := by rw [hw1]; exact touch_drewN tb w q1
  clear hw1 hlen ph oh
  have g1 : w1.cell? ⟨g, h, none⟩ = some (.iface 84 (.int .i64 x)) := owns_cell o1 hx
  have g2 : w1.frozen? ⟨g, h, none⟩ = false := owns_free o1 h
  have c2 := p1.c2
  have c3 := p1.c3
  have hs := o1.stored h .nilIface
  have p2 : TBlock (w1.setCell ⟨g, h, none⟩ .nilIface) tb h (.slice (some ⟨g, 0, none⟩) n c) m := p1.kept hs.2 (fun e => by injection e with e; omega)
  have k2 : Touch tb w1 (w1.setCell ⟨g, h, none⟩ .nilIface) := touch_grown p1 hs.2 (.inr rfl) (fun e => by injection e with e; omega)
  have d2 := p2.c2
  have e2 := p2.free 2
  have p3 : TBlock ((w1.setCell ⟨g, h, none⟩ .nilIface).setCell ⟨tb, 2, none⟩ (.int .i64 ((h : Int) + 1))) tb ((h : Int) + 1) (.slice (some ⟨g, 0, none⟩) n c) m := p2.set2 _
  have hlen := Lib.hid (qlen_any tb (h + 1) n (some ⟨g, 0, none⟩) c m ((w1.setCell ⟨g, h, none⟩ .nilIface).setCell ⟨tb, 2, none⟩ (.int .i64 ((h : Int) + 1))).drew (by omega) (by omega) p3)
  have o3 : ((w1.setCell ⟨g, h, none⟩ .nilIface).setCell ⟨tb, 2, none⟩ (.int .i64 ((h : Int) + 1))).ownsRow B 71 1 (.slice (some ⟨g, 0, none⟩) n c) n (xs.set h .nilIface) := set_old hs.1 htb
  have k3 := (hk1.trans k2).trans (touch_set p2 p3 (fun k hk => .inl hk))
  have hqh : ((n - (h + 1) : Nat) : Int) = ((q.length : Nat) : Int) := by omega
  rw [hqh] at hlen
  have hhn : (h : Int) < n := by omega
  have p3h := Lib.hid p3
  have o3h := Lib.hid o3
  have k3h := Lib.hid k3
  clear hs p1 o1 p2 k2 p3 o3 k3 hx hd hqh hk1
  go_wp2_with fail
  go_region
  all_goals go_wp2_with fail
  all_goals (refine (unhide hlen).mono ?_)
  all_goals rintro e w4 ⟨rfl, q4, hw4⟩
  all_goals
    have p4 : TBlock w4 tb ((h + 1 : Nat) : Int) (.slice (some ⟨g, 0, none⟩) n c) m := by rw [hw4]; exact p3h.out
    have o4 : w4.ownsRow B 71 1 (.slice (some ⟨g, 0, none⟩) n c) n (xs.set h .nilIface) := by rw [hw4]; exact o3h.out
    have k4 : Touch tb w w4 := by rw [hw4]; exact (k3h.out.trans (touch_drewN tb _ 1)).trans (touch_drewN tb _ q4)
    have hB4 : B ≤ w4.heap.size := Nat.le_trans hB k4.size
    have e3 : (xs.set h Value.nilIface).drop (h + 1) = nodes q := by rw [List.drop_set_of_lt (by omega)]; exact hd'
    clear hw4 p3h o3h k3h hlen
    cases q with
    | nil =>
      have f42 := p4.free 2
      have c43 := p4.c3
      have c42 := p4.c2
      have p5 := p4.set2 0
      have c53 := p5.c3
      have f53 := p5.free 3
      have o5 := owns_cut (i := 0) (set_old (g := tb) (i := 3) (x := .slice (some ⟨g, 0, none⟩) 0 c) (set_old (g := tb) (i := 2) (x := .int .i64 0) o4 htb) htb) (Nat.zero_le _)
      have hfin : Hid (QAt ((w4.setCell ⟨tb, 2, none⟩ (.int .i64 0)).setCell ⟨tb, 3, none⟩ (.slice (some ⟨g, 0, none⟩) 0 c)) B tb N m [] ∧ Touch tb w ((w4.setCell ⟨tb, 2, none⟩ (.int .i64 0)).setCell ⟨tb, 3, none⟩ (.slice (some ⟨g, 0, none⟩) 0 c))) :=
        ⟨⟨0, 0, c, some ⟨g, 0, none⟩, [], p5.set3 _, by simpa using o5, rfl, Nat.le_refl _, .inl rfl, Nat.zero_le _, htb, by rw [size_setCell, size_setCell]; exact hB4⟩, (k4.trans (touch_set p4 p5 (fun k hk => .inl hk))).trans (touch_set p5 (p5.set3 _) (fun k hk => .inl hk))⟩
      clear p4 o4 k4 p5 o5 e3
      go_wp2_with fail
      go_ret
      exact ⟨rfl, hfin.out.1, hfin.out.2⟩
    | cons y q =>
      have hfin : Hid (QAt w4 B tb N m (y :: q) ∧ Touch tb w w4) :=
        ⟨⟨h + 1, n, c, some ⟨g, 0, none⟩, _, p4, o4, e3, by omega, .inr (by simp at hql; omega), hn, htb, hB4⟩, k4⟩
      have hnq : ¬ ((((y :: q).length : Nat) : Int) = 0) := by simp; omega
      clear p4 o4 k4 e3
      go_wp2_with fail
      go_ret
      exact ⟨rfl, hfin.out.1, hfin.out.2⟩
end Go.Proofs.YtpmphefmmcbpaaaGreat
