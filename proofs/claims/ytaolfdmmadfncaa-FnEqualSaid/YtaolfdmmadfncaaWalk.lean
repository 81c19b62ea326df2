/- BreadthFirst.Walk as PathExistsIn calls it. -/
import Derived.Test.YtaolfdmmadfncaaBfs1
import Derived.Deep.LoopGhost
import Derived.WalkSpells
namespace Go.Proofs.Ytaolfdmmadfncaa
open Go.RowKit

theorem func_nil76 (w : World) : (binOp .neq 76 .nilFunc .nilFunc).run Try.prog w = .ok (.bool false) w := by kernel_rfl
theorem func_nil77 (w : World) : (binOp .neq 77 .nilFunc .nilFunc).run Try.prog w = .ok (.bool false) w := by kernel_rfl
theorem func_nil85 (f : Fn) (a b : Array Value) (w : World) : (binOp .neq 85 (.func f a b) .nilFunc).run Try.prog w = .ok (.bool true) w := by kernel_rfl

/-- What a walk breadth first for v finds. -/
def WalkPost (w0 : World) (succ : Int → List Int) (u v : Int) (e : Ending) (w' : World) : Prop :=
  ((e = .returned (.iface 54 (.int .i64 v)) ∧ Reach succ u v) ∨ (e = .returned .nilIface ∧ ¬ Reach succ u v)) ∧ Below w0.heap.size w0 w'

set_option maxRecDepth 100000 in
set_option maxHeartbeats 4000000 in
theorem walkDir_any (pb ub : Nat) (ids : List Int) (outs ins : List (List Arc)) (u v : Int) (w0 : World) (hids : ids.length ≤ 1000) (hp : PlainAt w0 pb ids outs ins) (hu : u ∈ ids) (h64 : ∀ x ∈ ids, In64 x)
    (hub : w0.cell? ⟨ub, 0, none⟩ = some (.iface 54 (.int .i64 v))) :
    Calls Try.prog 27
      #[.pointer (some ⟨w0.heap.size, 0, none⟩), .iface 59 (.agg #[.pointer (some ⟨pb, 0, none⟩)]), .iface 54 (.int .i64 u), .func (.func 28) #[] #[.pointer (some ⟨ub, 0, none⟩)]]
      (w0.alloc (.cells #[.nilFunc, .nilFunc, .int .i64 0, .slice none 0 0, .map none] 83)) (WalkPost w0 (succOf ids outs) u v) := by
  have hmm := @run_makeMap Try.prog
  have hme := fun w => run_eql_map_nil (P := Try.prog) w 81 2 119 none Try.underlying81
  have hf1 := func_nil76
  have hf2 := func_nil77
  have hf3 := func_nil85
  go_enter Try.func27, Try.ntmps27
  go_wp2_with fail
  obtain ⟨tb, htb⟩ : ∃ tb, tb = w0.heap.size := ⟨_, rfl⟩
  obtain ⟨w1, hw1⟩ : ∃ w1, w1 = (w0.alloc (.cells #[.nilFunc, .nilFunc, .int .i64 0, .slice none 0 0, .map (some (w0.heap.size + 1))] 83)).alloc (.map #[] 0) := ⟨_, rfl⟩
  have hq1 : QAt w1 (tb + 2) tb 0 (.map (some (tb + 1))) [] := by
    subst htb; subst hw1
    refine ⟨0, 0, 0, none, [], ?_, World.ownsRow_nil _ _ _ _, rfl, Nat.le_refl _, .inl rfl, Nat.le_refl _, by omega, by simp⟩
    unfold TBlock
    rw [Below.heap_alloc _ _ _ (by simp), heap_alloc_new]; rfl
  have hs1 : SetAt w1 (tb + 1) 0 [] := by
    subst htb; subst hw1
    have := setAt_new (w0.alloc (.cells #[.nilFunc, .nilFunc, .int .i64 0, .slice none 0 0, .map (some (w0.heap.size + 1))] 83))
    rwa [show (w0.alloc (.cells #[.nilFunc, .nilFunc, .int .i64 0, .slice none 0 0, .map (some (w0.heap.size + 1))] 83)).heap.size = w0.heap.size + 1 by simp] at this
  have hb1 : Below tb w0 w1 := by
    subst htb; subst hw1
    exact (alloc_below w0 _).trans ((alloc_below _ _).mono (by simp))
  rw [← hw1, ← htb]
  have htb' := Lib.hid htb
  clear hw1 hmm hme htb
  have henq := Lib.hid (enqueue_any (tb + 2) tb 0 _ [] u w1 (by omega) hq1)
  refine (unhide henq).mono ?_
  rintro e w2 ⟨rfl, hq2, ht2⟩
  have hs2 := hs1.touch hq1 ht2 (by omega) (by omega)
  have hb2 := touch_below hb1 hq1 ht2 (Nat.le_refl _)
  clear hq1 hs1 ht2 hb1 henq
  obtain ⟨_, _, _, _, _, p2, _⟩ := id hq2
  have c0 := p2.c0
  have c4 := p2.c4
  clear p2
  have hq2' := Lib.hid hq2
  have hs2' := Lib.hid hs2
  have hb2' := Lib.hid hb2
  clear hq2 hs2 hb2
  go_wp2_with fail
  go_quiet (fail)
  go_wp2_with fail
  have h64u := h64 u hu
  go_cut [] from 52 (fun wx => QAt wx (tb + 2) tb 1 (.map (some (tb + 1))) [u] ∧ SetAt wx (tb + 1) 1 [u] ∧ Below tb w0 wx)
  case first =>
    go_region_with (first
      | (go_at_call 101; refine (id_any _ _).mono ?_; rintro e w' ⟨rfl, rfl⟩)
      | (go_at_call 39; refine (setAdd_any (tb + 1) 0 [] u _ h64u (Nat.zero_le _) ?_).mono ?_; exact unhide hs2'; rintro e w3 ⟨rfl, hs3, hg3⟩))
    all_goals go_wp2_with fail
    all_goals go_meet
    all_goals
      have hq3 := QAt.grown (w := (w2.drewN nq).drew) (unhide hq2') hg3 (by omega) (fun e => by have := ((unhide hq2').qge _ e).1; omega)
      exact ⟨hq3.1, hs3, Below.grown (w := (w2.drewN nq).drew) (below_draws (unhide hb2') nq).drew hg3 (Nat.le_trans (by rw [htb'.out]; exact Nat.le_refl _) (unhide hb2').size) (fun k e => by injection e with e; omega)⟩
  case rest =>
  obtain ⟨hqc, hsc, hbc⟩ := hcut
  clear hq2' hs2' hb2' c0 c4
  go_wp2_with fail
  go_loopg [9, 10, 11] (1 + 2 * (ids.length - 1)) (fun gk s9 s10 s11 wr => ∃ (d c n : Int) (s q : List Int), s9 = .int .i64 d ∧ s10 = .int .i64 c ∧ s11 = .int .i64 n ∧ gk = q.length + 2 * (ids.length - s.length) ∧
    BInv (succOf ids outs) ids u v s q ∧ QAt wr (tb + 2) tb s.length (.map (some (tb + 1))) q ∧ SetAt wr (tb + 1) s.length s ∧ Below tb w0 wr)
  case atStart => exact ⟨0, 0, 1, [u], [u], rfl, rfl, rfl, rfl, BInv.new hu, hqc, hsc, hbc⟩
  case round =>
    obtain ⟨d, c, n, s, q, rfl, rfl, rfl, hgk, hI, hq, hs, hb⟩ := hrel
    clear hqc hsc hbc
    have hIh := Lib.hid hI
    have hqh := Lib.hid hq
    have hsh := Lib.hid hs
    have hbh := Lib.hid hb
    have hgkh := Lib.hid hgk
    have hsl := hI.le
    have hlen := Lib.hid (qlenAt_any (tb + 2) tb s.length _ q wr (by omega) hq)
    clear hI hq hs hb hgk
    cases q with
    | nil =>
      go_wp2_with fail
      refine (unhide hlen).mono ?_
      rintro e w3 ⟨rfl, k3, rfl⟩
      go_wp2_with fail
      have hno := (unhide hIh).none
      go_ret
      exact ⟨.inr ⟨rfl, hno⟩, by rw [← htb'.out]; exact below_draws hbh.out k3⟩
    | cons t q =>
      have hq3 : ∀ k, QAt (wr.drewN k) (tb + 2) tb s.length (.map (some (tb + 1))) (t :: q) := fun k => hqh.out
      have hdeq := Lib.hid (fun k => dequeue_any (tb + 2) tb s.length _ t q (wr.drewN k) (by omega) (hq3 k))
      have hpos : (0 : Int) < (((t :: q).length : Nat) : Int) := by simp
      have hts := (unhide hIh).wait t List.mem_cons_self
      have htid := (unhide hIh).sub t hts
      have htr := (unhide hIh).reach t hts
      have hqb : ∀ k, Below tb w0 (wr.drewN k) := fun k => below_draws hbh.out k
      have hqbh := Lib.hid hqb
      have hq3h := Lib.hid hq3
      have hts' := Lib.hid hts
      have htid' := Lib.hid htid
      have htr' := Lib.hid htr
      clear hq3 hts htid htr hqb
      go_wp2_with fail
      refine (unhide hlen).mono ?_
      rintro e w3 ⟨rfl, k3, rfl⟩
      go_wp2_with fail
      refine (unhide hdeq k3).mono ?_
      rintro e w4 ⟨rfl, hq4, ht4⟩
      have hb4 := touch_below (hqbh.out k3) (hq3h.out k3) ht4 (Nat.le_refl _)
      have hs4 := SetAt.touch (w := wr.drewN k3) hsh.out (hq3h.out k3) ht4 (by omega) (by omega)
      clear ht4 hdeq hlen
      have hub4 : w4.cell? ⟨ub, 0, none⟩ = some (.iface 54 (.int .i64 v)) := by
        have hb4' := hb4
        rw [htb'.out] at hb4'
        exact cell_below hb4' hub
      have hunt := Lib.hid (until_any t d v ub w4 hub4)
      have hq4h := Lib.hid hq4
      have hs4h := Lib.hid hs4
      have hb4h := Lib.hid hb4
      clear hq4 hs4 hb4 hub4
      go_wp2_with fail
      refine (unhide hunt).mono ?_
      rintro e w5 ⟨rfl, rfl⟩
      by_cases htv : t = v
      · subst htv
        go_wp2_with fail
        go_ret
        exact ⟨.inl ⟨rfl, htr'.out⟩, by rw [← htb'.out]; exact below_draws hb4h.out 1⟩
      · have htv' : (t == v) = false := by rw [beq_eq_false_iff_ne]; exact htv
        have hI0 := (unhide hIh).take htv
        have hI0h := Lib.hid hI0
        have hgk : gk = q.length + 1 + 2 * (ids.length - s.length) := hgkh.out
        have hpw := hp.below (w' := w4.drewN 1) (by rw [← htb'.out]; exact below_draws hb4h.out 1)
        have hfrom := Lib.hid (fromDir_any pb ids outs ins t (w4.drewN 1) (by omega) hpw htid'.out)
        have hnl := succ_len hpw t
        have hnm := succ_mem hpw t
        have hnmh := Lib.hid hnm
        have hgkh' := Lib.hid hgk
        clear hI0 hgkh hgk hpw hnm hunt htv
        go_wp2_with (first
          | (go_at_call 101; refine (id_any _ _).mono ?_; rintro e w' ⟨rfl, rfl⟩)
          | (go_at_call 103; refine (unhide hfrom).mono ?_; rintro e w6 ⟨ib, rfl, hit, hb6⟩))
        obtain ⟨B2, hB2⟩ : ∃ B2, B2 = (w4.drewN 1).heap.size := ⟨_, rfl⟩
        obtain ⟨E, hE⟩ : ∃ E, E = w6.heap.size := ⟨_, rfl⟩
        obtain ⟨ns, hns⟩ : ∃ ns, ns = endsOf ids (outs.getD (posOf ids t) []) := ⟨_, rfl⟩
        have hqs := hq4h.out.Bsz
        have hB2' : tb + 2 ≤ B2 := by rw [hB2]; exact hqs
        obtain ⟨hq6, hqq⟩ := QAt.below (w := w4.drewN 1) hq4h.out hb6
        have hs6 := SetAt.below (w := w4.drewN 1) hs4h.out hb6
        have hf6 : Far w6 tb B2 E := fun k e => .inl (by rw [hqq] at e; have := (QAt.qge (w := w4.drewN 1) hq4h.out k e).2; rw [hB2]; exact this)
        have hb6' : Below tb w0 w6 := (below_draws hb4h.out 1).trans (hb6.mono (by rw [← hB2]; omega))
        have hE6 : E ≤ w6.heap.size := by rw [hE]; exact Nat.le_refl _
        rw [← hB2, ← hE, ← hns] at hit
        have hsucc : succOf ids outs t = ns := hns.symm
        rw [hsucc] at hnl
        have hnmh2 : Hid (∀ y ∈ ns, y ∈ ids) := by unfold Hid; rw [← hsucc]; exact hnmh.out
        have hsuch := Lib.hid hsucc
        have hM : Hid (q.length + 2 * (ids.length - s.length) + 1 = gk) := by have := hgkh'.out; unfold Hid; omega
        clear hB2 hE hns hqs hqq hb6 hsucc hfrom
        obtain ⟨M, hM'⟩ : ∃ M, M = q.length + 2 * (ids.length - s.length) := ⟨_, rfl⟩
        have hM0 : q.length + 2 * (ids.length - s.length) ≤ M := by omega
        rw [← hM'] at hM
        clear hM' hgkh'
        go_loopg [10] (ns.length) (fun gi s10 wi => ∃ (k : Nat) (c : Int) (s q : List Int), k ≤ ns.length ∧ s10 = .int .i64 c ∧ gi = ns.length - k ∧ q.length + 2 * (ids.length - s.length) ≤ M ∧ IInv (succOf ids outs) ids u v t k s q ∧
          QAt wi (tb + 2) tb s.length (.map (some (tb + 1))) q ∧ SetAt wi (tb + 1) s.length s ∧ IterAt wi B2 E ib k ns ∧ Far wi tb B2 E ∧ Below tb w0 wi ∧ E ≤ wi.heap.size)
        case atStart => exact ⟨0, c, s, q, Nat.zero_le _, rfl, rfl, hM0, hI0h.out, hq6, hs6, hit, hf6, hb6', hE6⟩
        case round =>
          clear hq6 hs6 hit hf6 hb6' hE6 hM0 hq4h hs4h hb4h hI0h hqbh hq3h hIh hqh hsh hbh hts' htr'
          obtain ⟨k, c, s, q, hk, rfl, hgi, hM0, hI, hq, hs, hit, hf, hb, hEs⟩ := hrel
          have hsl := hI.le
          have hib1 := hit.1
          have hib2 := hit.2.1
          have hnext := Lib.hid (next_any B2 E ib k ns wr hk (by omega) hit)
          have hgih := Lib.hid hgi
          have hMh := Lib.hid hM0
          have hIh := Lib.hid hI
          have hqh := Lib.hid hq
          have hsh := Lib.hid hs
          have hfh := Lib.hid hf
          have hbh := Lib.hid hb
          clear hgi hM0 hI hq hs hit hf hb
          by_cases hlt : k < ns.length
          · have hd : decide (k < ns.length) = true := decide_eq_true hlt
            have hltn := hlt
            clear hlt
            go_wp2_with fail
            refine (unhide hnext).mono ?_
            rintro e w7 ⟨rfl, hg7, hit7⟩
            obtain ⟨hq7, hqq⟩ := (unhide hqh).grown hg7 (by omega) (fun e => by rcases hfh.out _ e with h | h <;> omega)
            have hs7 := hsh.out.same (hg7.block (tb + 1) hsh.out.lt (fun e => by injection e with e; omega))
            have hf7 : Far w7 tb B2 E := fun j e => hfh.out j (by rw [← hqq]; exact e)
            have hb7 : Below tb w0 w7 := hbh.out.grown hg7 (by omega) (fun j e => by injection e with e; omega)
            have hE7 : E ≤ w7.heap.size := Nat.le_trans hEs hg7.size
            have hit7' := hit7 hltn
            obtain ⟨x, hxe⟩ : ∃ x, x = ns[k] := ⟨_, rfl⟩
            have hx : x ∈ ids := by rw [hxe]; exact hnmh2.out _ (List.getElem_mem hltn)
            have hnode := Lib.hid (node_any B2 E ib k ns w7 hltn (by omega) hit7')
            rw [← hxe] at hnode
            have hxeh := Lib.hid hxe
            have h64x := h64 x hx
            have hq7h := Lib.hid hq7
            have hs7h := Lib.hid hs7
            have hf7h := Lib.hid hf7
            have hb7h := Lib.hid hb7
            have hit7h := Lib.hid hit7'
            have hxh := Lib.hid hx
            clear hnext hg7 hit7 hq7 hqq hs7 hf7 hb7 hit7' hxe hx hqh hsh hfh hbh hEs
            go_wp2_with fail
            refine (unhide hnode).mono ?_
            rintro e w8 ⟨rfl, k8, hw8⟩
            have hq8 : QAt w8 (tb + 2) tb s.length (.map (some (tb + 1))) q := by rw [hw8]; exact hq7h.out
            have hs8 : SetAt w8 (tb + 1) s.length s := by rw [hw8]; exact hs7h.out
            have hf8 : Far w8 tb B2 E := by rw [hw8]; exact hf7h.out
            have hb8 : Below tb w0 w8 := by rw [hw8]; exact below_draws hb7h.out k8
            have hit8 : IterAt w8 B2 E ib (k + 1) ns := by rw [hw8]; exact hit7h.out
            have hE8 : E ≤ w8.heap.size := by rw [hw8]; exact hE7
            obtain ⟨c0, c1, c4⟩ := hq8.cells
            have hhas := Lib.hid (fun j => setHas_any (tb + 1) s.length s x (w8.drewN j) h64x (show SetAt (w8.drewN j) _ _ _ from hs8))
            have hq8h := Lib.hid hq8
            have hs8h := Lib.hid hs8
            have hf8h := Lib.hid hf8
            have hb8h := Lib.hid hb8
            have hit8h := Lib.hid hit8
            clear hw8 hq8 hs8 hf8 hb8 hit8 hnode hq7h hs7h hf7h hb7h hit7h hE7
            go_wp2_with (first
              | (go_at_call 101; refine (id_any _ _).mono ?_; rintro e w' ⟨rfl, rfl⟩))
            go_quiet (fail)
            go_wp2_with fail
            refine (unhide hhas nq).mono ?_
            rintro e w9 ⟨rfl, o9, hw9⟩
            have hbw9 : Below (w8.drewN nq).heap.size (w8.drewN nq) w9 := by rw [hw9]; exact alloc_below _ _
            obtain ⟨hq9, hqq9⟩ := QAt.below (w := w8.drewN nq) hq8h.out hbw9
            have hs9 := SetAt.below (w := w8.drewN nq) hs8h.out hbw9
            have hf9 : Far w9 tb B2 E := fun j e => hf8h.out j (by rw [hqq9] at e; exact e)
            have hb9 : Below tb w0 w9 := (below_draws hb8h.out nq).trans (hbw9.mono (show _ ≤ w8.heap.size by omega))
            have hit9 : IterAt w9 B2 E ib (k + 1) ns := IterAt.same (w := w8.drewN nq) hit8h.out (fun j _ h => hbw9.block j (show j < w8.heap.size by omega))
            have hE9 : E ≤ w9.heap.size := Nat.le_trans hE8 hbw9.size
            obtain ⟨g0, g1, g4⟩ := hq9.cells
            have hxs' : ∃ hkl : k < (succOf ids outs t).length, (succOf ids outs t)[k] = x := ⟨by rw [hsuch.out]; exact hltn, by rw [hxeh.out]; simp only [hsuch.out]⟩
            have hq9h := Lib.hid hq9
            have hs9h := Lib.hid hs9
            have hf9h := Lib.hid hf9
            have hb9h := Lib.hid hb9
            have hit9h := Lib.hid hit9
            have hxsh := Lib.hid hxs'
            clear hw9 hbw9 hq9 hqq9 hs9 hf9 hb9 hit9 hq8h hs8h hf8h hb8h hit8h hE8 c0 c1 c4 hhas hxs'
            by_cases hxs : x ∈ s
            · have hdx : decide (x ∈ s) = true := decide_eq_true hxs
              have hfin : Hid (IInv (succOf ids outs) ids u v t (k + 1) s q) := by
                obtain ⟨hkl, hxe⟩ := hxsh.out
                exact (unhide hIh).old hkl (by rw [hxe]; exact hxs)
              clear hxs
              go_wp2_with fail
              go_roundg (ns.length - (k + 1))
              case measure => have := hgih.out; omega
              case rel => exact ⟨k + 1, c, s, q, by omega, rfl, rfl, hMh.out, hfin.out, hq9h.out, hs9h.out, hit9h.out, hf9h.out, hb9h.out, hE9⟩
            · have hdx : decide (x ∈ s) = false := decide_eq_false hxs
              have hfin : Hid (IInv (succOf ids outs) ids u v t (k + 1) (x :: s) (q ++ [x])) := by
                obtain ⟨hkl, hxe⟩ := hxsh.out
                have := (unhide hIh).new hkl (by rw [hxe]; exact hxs) (by rw [hxe]; exact hxh.out)
                rw [hxe] at this; exact this
              have hsl2 : s.length + 1 ≤ ids.length := hfin.out.le
              have hadd := Lib.hid (setAdd_any (tb + 1) s.length s x w9 h64x (by omega) hs9h.out)
              clear hxs
              go_wp2_with fail
              refine (unhide hadd).mono ?_
              rintro e w10 ⟨rfl, hs10, hg10⟩
              obtain ⟨hq10, hqq10⟩ := hq9h.out.grown hg10 (by omega) (fun e => by have := (hq9h.out.qge _ e).1; omega)
              have hf10 : Far w10 tb B2 E := fun j e => hf9h.out j (by rw [hqq10] at e; exact e)
              have htw : tb + 2 ≤ w9.heap.size := by omega
              have hb10 : Below tb w0 w10 := hb9h.out.grown hg10 (by omega) (fun j e => by injection e with e; omega)
              have hit10 : IterAt w10 B2 E ib (k + 1) ns := hit9h.out.same (fun j h1 h2 => hg10.block j (by omega) (fun e => by injection e with e; omega))
              have hE10 : E ≤ w10.heap.size := Nat.le_trans hE9 hg10.size
              have henq := Lib.hid (enqueue_any (tb + 2) tb s.length _ q x w10 (by omega) hq10)
              have hq10h := Lib.hid hq10
              have hs10h := Lib.hid hs10
              have hf10h := Lib.hid hf10
              have hb10h := Lib.hid hb10
              have hit10h := Lib.hid hit10
              clear hg10 hq10 hqq10 hs10 hf10 hb10 hit10 hadd hq9h hs9h hf9h hb9h hit9h hE9 g0 g1 g4
              go_wp2_with fail
              refine (unhide henq).mono ?_
              rintro e w11 ⟨rfl, hq11, ht11⟩
              have hs11 := hs10h.out.touch hq10h.out ht11 (by omega) (by omega)
              have hf11 := hf10h.out.touch ht11 hE10
              have hb11 := touch_below hb10h.out hq10h.out ht11 (Nat.le_refl _)
              have hit11 := hit10h.out.touch hf10h.out ht11 (by omega) hE10
              have hE11 : E ≤ w11.heap.size := Nat.le_trans hE10 ht11.size
              have hM11 : (q ++ [x]).length + 2 * (ids.length - (x :: s).length) ≤ M := by
                have := hMh.out
                rw [List.length_append, List.length_cons, List.length_cons, List.length_nil]; omega
              have hh := Lib.hid (And.intro hq11 (And.intro hs11 (And.intro hit11 (And.intro hf11 (And.intro hb11 (And.intro hE11 hM11))))))
              clear hq11 ht11 hs11 hf11 hb11 hit11 hE11 hM11 henq
              go_wp2_with fail
              go_roundg (ns.length - (k + 1))
              case measure => have := hgih.out; omega
              case rel => exact ⟨k + 1, _, x :: s, q ++ [x], by omega, rfl, rfl, hh.out.2.2.2.2.2.2, hfin.out, hh.out.1, hh.out.2.1, hh.out.2.2.1, hh.out.2.2.2.1, hh.out.2.2.2.2.1, hh.out.2.2.2.2.2.1⟩
          · have hd : decide (k < ns.length) = false := decide_eq_false hlt
            have hkn : ns.length ≤ k := by omega
            have hfin : Hid (BInv (succOf ids outs) ids u v s q) := (unhide hIh).all (by rw [hsuch.out]; exact hkn)
            clear hlt
            go_wp2_with fail
            refine (unhide hnext).mono ?_
            rintro e w7 ⟨rfl, hg7, _⟩
            obtain ⟨hq7, hqq⟩ := (unhide hqh).grown hg7 (by omega) (fun e => by rcases hfh.out _ e with h | h <;> omega)
            have hs7 := hsh.out.same (hg7.block (tb + 1) hsh.out.lt (fun e => by injection e with e; omega))
            have hb7 : Below tb w0 w7 := hbh.out.grown hg7 (by omega) (fun j e => by injection e with e; omega)
            have hh := Lib.hid (And.intro hq7 (And.intro hs7 hb7))
            clear hg7 hq7 hqq hs7 hb7 hnext hqh hsh hfh hbh
            have hlt2 : q.length + 2 * (ids.length - s.length) < M + 1 := by have := hMh.out; omega
            go_wp2_with fail
            all_goals go_roundg (q.length + 2 * (ids.length - s.length))
            all_goals first
              | (case measure => have := hM.out; have := hlt2; omega)
              | skip
            all_goals exact ⟨_, _, _, s, q, rfl, rfl, rfl, rfl, hfin.out, hh.out.1, hh.out.2.1, hh.out.2.2⟩
end Go.Proofs.Ytaolfdmmadfncaa
