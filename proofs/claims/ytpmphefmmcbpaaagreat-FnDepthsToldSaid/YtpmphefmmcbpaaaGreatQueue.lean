/- The queue of nodes: Enqueue, Dequeue. -/
import Derived.Test.YtpmphefmmcbpaaaGreatBfs0
import Derived.Test.YtpmphefmmcbpaaaGreatInsert
import Derived.Test.YtpmphefmmcbpaaaGreatBase
import Derived.BigRegion
namespace Go.Proofs.YtpmphefmmcbpaaaGreat
open Go.RowKit

/-- The queue holds q; no more than N places have been used. -/
def QAt (w : World) (B tb N : Nat) (m : BF) (q : List Int) : Prop :=
  ∃ (h n c : Nat) (a : Option Addr) (xs : List Value), TBlock w tb h (.slice a n c) m ∧ w.ownsRow B 71 1 (.slice a n c) n xs ∧ xs.drop h = nodes q ∧ h ≤ n ∧ (h = 0 ∨ h < n) ∧ n ≤ N ∧ tb < B ∧ B ≤ w.heap.size

/-- The block of the queue's row. -/
def qblk (w : World) (tb : Nat) : Option Nat := (w.cell? ⟨tb, 3, none⟩).bind Value.ownBlock

/-- What a call of the queue leaves alone: all old blocks but the queue's own two; its row lies where it lay, or in a new block. -/
structure Touch (tb : Nat) (w w' : World) : Prop where
  os : w'.os = w.os
  tape : w'.tape = w.tape
  output : w'.output = w.output
  size : w.heap.size ≤ w'.heap.size
  block : ∀ k, k < w.heap.size → k ≠ tb → some k ≠ qblk w tb → w'.heap[k]? = w.heap[k]?
  row : ∀ k, qblk w' tb = some k → qblk w tb = some k ∨ w.heap.size ≤ k

theorem Touch.trans {tb : Nat} {a b c : World} (p : Touch tb a b) (q : Touch tb b c) : Touch tb a c where
  os := q.os.trans p.os
  tape := q.tape.trans p.tape
  output := q.output.trans p.output
  size := Nat.le_trans p.size q.size
  block := fun k hk h1 h2 => (q.block k (Nat.lt_of_lt_of_le hk p.size) h1 (fun e => by
    rcases p.row k e.symm with h | h
    · exact h2 h.symm
    · omega)).trans (p.block k hk h1 h2)
  row := fun k hk => by
    rcases q.row k hk with h | h
    · exact p.row k h
    · exact .inr (Nat.le_trans p.size h)

theorem TBlock.qblk {w : World} {tb : Nat} {h : Int} {s : Value} {m : BF} (p : TBlock w tb h s m) : qblk w tb = s.ownBlock := by
  unfold Proofs.YtpmphefmmcbpaaaGreat.qblk; rw [p.c3]; rfl

theorem touch_drewN (tb : Nat) (w : World) (q : Nat) : Touch tb w (w.drewN q) := ⟨rfl, rfl, rfl, Nat.le_refl _, fun _ _ _ _ => rfl, fun _ h => .inl h⟩
theorem touch_set {w : World} {tb : Nat} {h : Int} {s : Value} {m : BF} {o : Nat} {v : Value} (p : TBlock w tb h s m) {h' : Int} {s' : Value} {m' : BF} (p' : TBlock (w.setCell ⟨tb, o, none⟩ v) tb h' s' m') (hs : ∀ k, s'.ownBlock = some k → s.ownBlock = some k ∨ w.heap.size ≤ k) : Touch tb w (w.setCell ⟨tb, o, none⟩ v) :=
  ⟨rfl, rfl, rfl, by rw [size_setCell]; exact Nat.le_refl _, fun k _ h1 _ => Below.heap_setCell _ _ _ _ h1, fun k hk => by rw [p'.qblk] at hk; rw [p.qblk]; exact hs k hk⟩
theorem touch_grown {w w' : World} {tb : Nat} {h : Int} {s : Value} {m : BF} {row : Option Nat} (p : TBlock w tb h s m) (hg : w.grownBy w' row) (hr : row = none ∨ row = s.ownBlock) (htb : some tb ≠ row) : Touch tb w w' :=
  ⟨hg.os, hg.tape, hg.output, hg.size, fun k hk _ h2 => hg.block k hk (fun e => by
    rcases hr with hr | hr
    · rw [hr] at e; cases e
    · exact h2 (by rw [p.qblk, ← hr]; exact e)), fun k hk => by rw [(p.kept hg htb).qblk] at hk; rw [p.qblk]; exact .inl hk⟩

theorem queue_push {v : World} {B tb N h n c : Nat} {a : Option Addr} {xs : List Value} {s3 : Value} {m : BF} {q : List Int} (x : Int) (p : TBlock v tb h s3 m) (own : v.ownsRow B 71 1 (.slice a n c) n xs) (hs3 : s3.ownBlock = (Value.slice a n c).ownBlock)
    (hd : xs.drop h = nodes q) (hh : h ≤ n) (hn : n ≤ N) (htb : tb < B) (hB : B ≤ v.heap.size) (o : Obj) (w1 : World) (b1 : Option Addr) (c1 : Nat) (hg : (v.alloc o).grownBy w1 (Value.slice a n c).ownBlock)
    (ho : w1.ownsRow B 71 1 (.slice b1 (n + 1) c1) (n + 1) (xs ++ [.iface 84 (.int .i64 x)])) (hat : b1 = a ∨ b1 = some ⟨(v.alloc o).heap.size, 0, none⟩) :
    w1.cell? ⟨tb, 3, none⟩ = some s3 ∧ w1.frozen? ⟨tb, 3, none⟩ = false ∧ Hid (QAt (w1.setCell ⟨tb, 3, none⟩ (.slice b1 (n + 1) c1)) B tb (N + 1) m (q ++ [x]) ∧ Touch tb v (w1.setCell ⟨tb, 3, none⟩ (.slice b1 (n + 1) c1))) := by
  have hlt := own.lt
  have po : TBlock (v.alloc o) tb h s3 m := p.kept (row := none) (World.grownBy_alloc v o none) (by simp)
  have hne : some tb ≠ (Value.slice a n c).ownBlock := fun e => by have := (hlt _ e.symm).1; omega
  have p1 := po.kept hg hne
  have hxl : xs.length = n := by have := own.1; omega
  have hsz : (v.alloc o).heap.size = v.heap.size + 1 := by simp
  have t1 := (touch_grown p (World.grownBy_alloc v o none) (.inl rfl) (by simp)).trans (touch_grown po hg (.inr hs3.symm) hne)
  refine ⟨p1.c3, p1.free 3, ⟨h, n + 1, c1, b1, _, p1.set3 _, set_old ho htb, ?_, by omega, by omega, by omega, htb, ?_⟩, ?_⟩
  · rw [List.drop_append_of_le_length (by omega), hd]
    simp [nodes, nodev]
  · rw [size_setCell]; have := hg.size; omega
  · have t2 := (p1.set3 (.slice b1 (n + 1) c1))
    refine ⟨t1.os, t1.tape, t1.output, by rw [size_setCell]; exact t1.size, fun k hk h1 h2 => (Below.heap_setCell _ _ _ _ h1).trans (t1.block k hk h1 h2), fun k hk => ?_⟩
    rw [t2.qblk] at hk
    rw [p.qblk, hs3]
    rcases hat with rfl | rfl
    · left
      cases b1 <;> exact hk
    · right
      simp only [Value.ownBlock] at hk
      injection hk with hk
      omega

set_option maxRecDepth 100000 in
set_option maxHeartbeats 1000000 in
theorem enqueue_any (B tb N : Nat) (m : BF) (q : List Int) (x : Int) (w : World) (hN : N ≤ 1048576) (hq : QAt w B tb N m q) :
    Calls Tryz.prog 78 #[.pointer (some ⟨tb, 2, none⟩), .iface 84 (.int .i64 x)] w
      fun e w' => e = .returned (.tuple #[]) ∧ QAt w' B tb (N + 1) m (q ++ [x]) ∧ Touch tb w w' := by
  obtain ⟨h, n, c, a, xs, p, own, hd, hh, hh2, hn, htb, hB⟩ := hq
  have c2 := p.c2
  have c3 := p.c3
  by_cases hcase : n = c ∧ 0 < h
  · obtain ⟨rfl, h0⟩ := hcase
    have hxl : xs.length = n := by have := own.1; omega
    obtain ⟨g, rfl, hgB, hgw, _⟩ := owns_at own (by omega)
    have hql : (nodes q).length = n - h := by rw [← hd, List.length_drop, hxl]
    have hd0 : decide ((0 : Int) < (h : Int)) = true := decide_eq_true (by omega)
    have ph := Lib.hid p
    have oh := Lib.hid own
    clear p own
    go_enter Tryz.func78, Tryz.ntmps78
    go_wp2
    go_quiet (fail)
    obtain ⟨w0, hw0⟩ : ∃ w0, w0 = w.drewN nq := ⟨_, rfl⟩
    have p0 : Hid (TBlock w0 tb h (.slice (some ⟨g, 0, none⟩) n n) m) := by unfold Hid; rw [hw0]; exact ph.out
    have o0 : Hid (w0.ownsRow B 71 1 (.slice (some ⟨g, 0, none⟩) n n) n xs) := by unfold Hid; rw [hw0]; exact oh.out
    have hk0 : Hid (Touch tb w w0) := by unfold Hid; rw [hw0]; exact touch_drewN tb w nq
    rw [← hw0]
    clear hw0 ph oh c2 c3
    have hlen := Lib.hid (qlen_any tb h n (some ⟨g, 0, none⟩) n m w0 (by omega) (by omega) p0.out)
    go_wp2_with fail
    refine (unhide hlen).mono ?_
    rintro e w1 ⟨rfl, q1, hw1⟩
    have p1 : TBlock w1 tb h (.slice (some ⟨g, 0, none⟩) n n) m := by rw [hw1]; exact p0.out
    have o1 : w1.drew.ownsRow B 71 1 (.slice (some ⟨g, 0, none⟩) n n) n xs := by rw [hw1]; exact o0.out
    have hk1 : Hid (Touch tb w w1) := by unfold Hid; rw [hw1]; exact hk0.out.trans (touch_drewN tb w0 q1)
    have hB1 : B ≤ w1.heap.size := Nat.le_trans hB hk1.out.size
    clear hw1 hlen p0 o0 hk0
    obtain ⟨cur, hcur, hfit, hW2, hG2⟩ := owns_copy (cs := nodes q) o1 0 (by rw [hql, hxl]; omega)
    have hsrc : ∀ j v, (nodes q)[j]? = some v → w1.drew.cell? ((⟨g, h, none⟩ : Addr).add j) = some v := fun j v hj => by
      rw [Addr.add_mid]
      rw [← hd, List.getElem?_drop] at hj
      exact owns_cell o1 hj
    have hcp : ∀ ty, (Builtin.copy_ #[76, 76] ty #[.slice (some ⟨g, 0, none⟩) n n, .slice (some ⟨g, h, none⟩) (n - h) (n - h)]).run Tryz.prog w1.drew = _ := fun ty =>
      run_copy_sized w1.drew _ _ ty 71 g 0 n n ⟨g, h, none⟩ (n - h) (n - h) cur _ (nodes q) 1 Tryz.underlying76 (by kernel_rfl) hcur (by rw [show Nat.min (n - h) n = n - h from Nat.min_eq_left (by omega), hql]; omega) hsrc hfit (fun v hv => by
        obtain ⟨z, _, rfl⟩ := List.mem_map.1 hv; rfl)
    generalize w1.drew.setRow g (cur.toList.take 0 ++ nodes q ++ cur.toList.drop (0 + (nodes q).length)).toArray = W2 at hW2 hG2 hcp
    have p2 : TBlock W2 tb h (.slice (some ⟨g, 0, none⟩) n n) m := TBlock.kept (w := w1.drew) p1 hG2 (fun e => by injection e with e; omega)
    have hk2 : Touch tb w W2 := hk1.out.trans ((touch_drewN tb w1 1).trans (touch_grown (w := w1.drew) p1 hG2 (.inr rfl) (fun e => by injection e with e; omega)))
    have hB2 : B ≤ W2.heap.size := Nat.le_trans hB hk2.size
    have c22 := p2.c2
    have f22 := p2.free 2
    have c12 := p1.c2
    have c13 := p1.c3
    have p3 : TBlock (W2.setCell ⟨tb, 2, none⟩ (.int .i64 0)) tb (0 : Nat) (.slice (some ⟨g, 0, none⟩) n n) m := p2.set2 0
    have o3 : (W2.setCell ⟨tb, 2, none⟩ (.int .i64 0)).ownsRow B 71 1 (.slice (some ⟨g, 0, none⟩) (n - h) n) (n - h) (nodes q) := by
      have h1 := owns_cut (i := n - h) (set_old (g := tb) (i := 2) (x := .int .i64 0) hW2 htb) (by omega)
      have e : (splice xs 0 (nodes q)).take ((n - h) * 1) = nodes q := by
        unfold splice
        rw [List.take_zero, List.nil_append, Nat.mul_one]
        exact List.take_left' hql
      rw [e] at h1
      exact h1
    have hk3 : Touch tb w (W2.setCell ⟨tb, 2, none⟩ (.int .i64 0)) := hk2.trans (touch_set p2 (p2.set2 0) (fun k hk => .inl hk))
    have hB3 : B ≤ (W2.setCell ⟨tb, 2, none⟩ (.int .i64 0)).heap.size := Nat.le_trans hB hk3.size
    have d33 := p3.c3
    have hpush := Lib.hid (fun o w1 b1 c1 hg ho hat => queue_push (N := N) x p3 o3 rfl (List.drop_zero) (Nat.zero_le _) (by omega) htb hB3 o w1 b1 c1 hg ho hat)
    have howno := Lib.hid (fun o => o3.alloc o)
    have hkq := Lib.hid hk3
    have hc0 := Lib.hid hcp
    have hhn : (h : Int) ≤ n := by omega
    have hhn2 : ((n - h : Nat) : Int) ≤ n := by omega
    have hcap : n - h = n - h := rfl
    clear hcp hW2 hG2 hcur hfit hsrc o1 p1 hk1 p2 hk2 p3 o3 hk3 hd hxl
    have hnh : ¬ n = h := by omega
    go_upto_region 2 with fail
    go_cut [] from 25 (fun wx => wx = W2)
    case first =>
      go_region_law (refine step_copy_run rfl (.tmp 28) (.tmp 37) 76 76 rfl (.slice (some ⟨g, 0, none⟩) n n) (.slice (some ⟨g, h, none⟩) (n - h) (n - h)) (by simp [Act.eval, Act.put]) (by simp [Act.eval, Act.put]; try omega) (unhide hc0) ?_)
      all_goals go_wp2_with fail
      all_goals go_meet
      all_goals rfl
    case rest =>
    subst hcut
    clear hc0 c12 c13
    have hnew : Hid (∀ (j : Nat) u, [Value.iface 84 (.int .i64 x)][j]? = some u → (((wc.setCell ⟨tb, 2, none⟩ (.int .i64 0)).alloc (.cells #[.iface 84 (.int .i64 x)] 71)).cell? ((⟨wc.heap.size, 0, none⟩ : Addr).add j)) = some u) := by
      have := new_one (wc.setCell ⟨tb, 2, none⟩ (.int .i64 0)) (.iface 84 (.int .i64 x)) 71
      rwa [size_setCell] at this
    go_wp2_with (at_builtin; refine append_law 76 71 .nilIface 1 16 Tryz.underlying76 info_node rfl (by omega) (by omega) rfl _ _ rfl B (some ⟨g, 0, none⟩) (n - h) n (nodes q) rfl (unhide howno _) ⟨wc.heap.size, 0, none⟩ 1 1 [.iface 84 (.int .i64 x)] rfl rfl (unhide hnew) (one_node _) (by omega) (by simp; omega) ?_; intro b1 cap1 w1 hown1 hg1 hat1; have hs1 := unhide hpush _ _ _ _ hg1 hown1 hat1; have k0 := hs1.1; have k1 := hs1.2.1; have k2 := Lib.hid hs1.2.2; clear hs1 hown1 hg1 hat1)
    go_end0
    exact ⟨rfl, k2.out.out.1, hkq.out.trans k2.out.out.2⟩
  · have hgd : ((n : Int) == (c : Int)) = false ∨ (n = c ∧ h = 0) := by
      by_cases e : n = c
      · exact .inr ⟨e, by omega⟩
      · exact .inl (by rw [beq_eq_false_iff_ne]; omega)
    clear hcase
    have hfin : ∀ q0, Hid (∀ o (w1 : World) b1 c1, ((w.drewN q0).alloc o).grownBy w1 (Value.slice a n c).ownBlock → w1.ownsRow B 71 1 (.slice b1 (n + 1) c1) (n + 1) (xs ++ [.iface 84 (.int .i64 x)]) → (b1 = a ∨ b1 = some ⟨((w.drewN q0).alloc o).heap.size, 0, none⟩) →
      w1.cell? ⟨tb, 3, none⟩ = some (.slice a n c) ∧ w1.frozen? ⟨tb, 3, none⟩ = false ∧ Hid (QAt (w1.setCell ⟨tb, 3, none⟩ (.slice b1 (n + 1) c1)) B tb (N + 1) m (q ++ [x]) ∧ Touch tb (w.drewN q0) (w1.setCell ⟨tb, 3, none⟩ (.slice b1 (n + 1) c1)))) :=
      fun q0 o w1 b1 c1 hg ho hat => queue_push (v := w.drewN q0) x p own rfl hd hh hn htb hB o w1 b1 c1 hg ho hat
    have hfin' := Lib.hid hfin
    have howq := Lib.hid (fun q0 o => show ((w.drewN q0).alloc o).ownsRow B 71 1 (.slice a n c) n xs from World.ownsRow.alloc (w := w.drewN q0) own o)
    clear hfin own hd p
    rcases hgd with hgd | ⟨rfl, rfl⟩
    · go_enter Tryz.func78, Tryz.ntmps78
      go_wp2
      go_quiet (fail)
      obtain ⟨w0, hw0⟩ : ∃ w0, w0 = w.drewN nq := ⟨_, rfl⟩
      have d3 : w0.cell? ⟨tb, 3, none⟩ = some (.slice a n c) := by rw [hw0]; exact c3
      have hB0 : B ≤ w0.heap.size := by rw [hw0]; exact hB
      have hpush := Lib.hid (hfin'.out nq)
      have howno := Lib.hid (howq.out nq)
      rw [← hw0] at hpush howno ⊢
      have hkq : Hid (Touch tb w w0) := by unfold Hid; rw [hw0]; exact touch_drewN tb w nq
      clear hw0 hfin' howq c2 c3 hgd
      go_wp2_with (at_builtin; refine append_law 76 71 .nilIface 1 16 Tryz.underlying76 info_node rfl (by omega) (by omega) rfl _ _ rfl B a n c xs rfl (unhide howno _) ⟨w0.heap.size, 0, none⟩ 1 1 [.iface 84 (.int .i64 x)] rfl rfl (new_one w0 _ _) (one_node _) (by omega) (by simp; omega) ?_; intro b1 cap1 w1 hown1 hg1 hat1; have hs1 := unhide hpush _ _ _ _ hg1 hown1 hat1; have k0 := hs1.1; have k1 := hs1.2.1; have k2 := Lib.hid hs1.2.2; clear hs1 hown1 hg1 hat1)
      go_end0
      exact ⟨rfl, k2.out.out.1, hkq.out.trans k2.out.out.2⟩
    · have h0 : decide ((0 : Int) < 0) = false := rfl
      go_enter Tryz.func78, Tryz.ntmps78
      go_wp2
      go_quiet (fail)
      obtain ⟨w0, hw0⟩ : ∃ w0, w0 = w.drewN nq := ⟨_, rfl⟩
      have d3 : w0.cell? ⟨tb, 3, none⟩ = some (.slice a n n) := by rw [hw0]; exact c3
      have hB0 : B ≤ w0.heap.size := by rw [hw0]; exact hB
      have hpush := Lib.hid (hfin'.out nq)
      have howno := Lib.hid (howq.out nq)
      rw [← hw0] at hpush howno ⊢
      have hkq : Hid (Touch tb w w0) := by unfold Hid; rw [hw0]; exact touch_drewN tb w nq
      clear hw0 hfin' howq c2 c3
      go_wp2_with (at_builtin; refine append_law 76 71 .nilIface 1 16 Tryz.underlying76 info_node rfl (by omega) (by omega) rfl _ _ rfl B a n n xs rfl (unhide howno _) ⟨w0.heap.size, 0, none⟩ 1 1 [.iface 84 (.int .i64 x)] rfl rfl (new_one w0 _ _) (one_node _) (by omega) (by simp; omega) ?_; intro b1 cap1 w1 hown1 hg1 hat1; have hs1 := unhide hpush _ _ _ _ hg1 hown1 hat1; have k0 := hs1.1; have k1 := hs1.2.1; have k2 := Lib.hid hs1.2.2; clear hs1 hown1 hg1 hat1)
      go_end0
      exact ⟨rfl, k2.out.out.1, hkq.out.trans k2.out.out.2⟩
end Go.Proofs.YtpmphefmmcbpaaaGreat
