/- impl.seen over any graph of which it is known what Nodes, From and the weights answer. -/
import Derived.Test.YtgkimjjodhnmiaaGreatSeenA
import Derived.Test.YtgkimjjodhnmiaaGreatEdge0
import Derived.Laws.FloatArith
namespace Go.Proofs.YtgkimjjodhnmiaaGreat
open Go.RowKit Go.Maps

/-- What is iterated over: the numbers l, ascending. -/
def ItOf (w : World) (l : List Int) (e : Ending) (w1 : World) : Prop :=
  ∃ v, e = .returned v ∧ Below w.heap.size w w1 ∧ Calls Tryz.prog 31 #[v] w1 fun e w2 => ∃ (a : Option Addr) (c : Nat), e = .returned (.slice a l.length c) ∧ w2.ownsRow w1.heap.size 3 1 (.slice a l.length c) l.length (ints l) ∧ Below w.heap.size w1 w2

set_option maxRecDepth 100000 in
set_option maxHeartbeats 4000000 in
theorem seenXU_any {ids : List Int} (hids : ids.length ≤ 1000) {S : Int → List Int} {U : Int → Int → Int} {w : World} {T : TypeId} {gv rN rF wr0 : Value} {fN fF fW : Nat}
    (eN : ∀ args W, (callFunc fN args).run Tryz.prog W = .ok (.enter fN args) W) (eF : ∀ args W, (callFunc fF args).run Tryz.prog W = .ok (.enter fF args) W) (eW : ∀ args W, (callFunc fW args).run Tryz.prog W = .ok (.enter fW args) W)
    (mN : ∀ n W, (method (n + 2) T gv "Nodes").run Tryz.prog W = .ok (fN, rN) W) (mF : ∀ n W, (method (n + 2) T gv "From").run Tryz.prog W = .ok (fF, rF) W)
    (hneq : ∀ W, (binOp BinOp.neq 48 (.func (.func fW) #[wr0] #[]) .nilFunc).run Tryz.prog W = .ok (.bool true) W)
    (hN : ∀ W, Below w.heap.size w W → Calls Tryz.prog fN #[rN] W (ItOf W ids))
    (hF : ∀ W, Below w.heap.size w W → ∀ u ∈ ids, Calls Tryz.prog fF #[rF, .int .i64 u] W (ItOf W (S u)))
    (hW : ∀ W, Below w.heap.size w W → ∀ u ∈ ids, ∀ v ∈ S u, Calls Tryz.prog fW #[wr0, .int .i64 u, .int .i64 v] W fun e w' => ∃ b, e = .returned (.tuple #[.float .f64 (fl (U u v)), .bool b]) ∧ Below W.heap.size W w')
    (hSlen : ∀ x, (S x).length ≤ 1000) (hUb : ∀ x y, (U x y).natAbs < FlB) :
    Calls Tryz.prog 16 #[.iface T gv, .bool false, .func (.func fW) #[wr0] #[]] w (SeenWPost w false ids (seenW false U ids S)) := by
  obtain ⟨w1, hw1⟩ : ∃ w1, w1 = w.alloc (.cells #[.bool false, .slice none 0 0, .slice none 0 0] 25) := ⟨_, rfl⟩
  have hb1 : Below w.heap.size w w1 := by rw [hw1]; exact alloc_below _ _
  have hz1 : w1.heap.size = w.heap.size + 1 := by rw [hw1]; simp
  have kz : w1.heap[w.heap.size]? = some (.cells #[.bool false, .slice none 0 0, .slice none 0 0] 25 (0, 0)) := by rw [hw1]; exact heap_alloc_new _ _
  have hn := Lib.hid (hN _ hb1)
  rw [hw1] at hn
  have hw1h := Lib.hid hw1
  have hb1h := Lib.hid hb1
  have hz1h := Lib.hid hz1
  have kzh := Lib.hid kz
  have hFh := Lib.hid hF
  have hWh := Lib.hid hW
  have hSl : Hid (∀ u, (S u).length ≤ 1000) := hSlen
  have hcv : ∀ (W : World) (x y : Int), (convert 44 3 (.float .f64 (fl (U x y)))).run Tryz.prog W = .ok (.int .i64 (U x y)) W := fun W x y => run_convert_float_int W _ _ .f64 .i64 _ _ (by rw [Tryz.underlying44]; rfl) Tryz.underlying3 (fl_back (hUb x y))
  clear hw1 hb1 hz1 kz hN hF hW hUb hSlen
  go_enter Tryz.func16, Tryz.ntmps16
  go_wp2_with fail
  refine (unhide hn).mono ?_
  intro e w2 hIt
  rw [← hw1h.out] at hIt
  obtain ⟨vI, rfl, hb2, hited⟩ := hIt
  have hited := Lib.hid hited
  have hb2h := Lib.hid hb2
  clear hn hb2 mN eN
  go_wp2_with fail
  refine (unhide hited).mono ?_
  rintro e w3 ⟨an, cn, rfl, own3, hb3⟩
  obtain ⟨ob, hob⟩ : ∃ ob, ob = w3.heap.size := ⟨_, rfl⟩
  obtain ⟨w4, hw4⟩ : ∃ w4, w4 = w3.alloc (.cells #[.bool false, .slice an ids.length cn, .slice none 0 0] 25) := ⟨_, rfl⟩
  obtain ⟨vn, hvn⟩ : ∃ vn, vn = Value.slice an ids.length cn := ⟨_, rfl⟩
  have hs := seenW_start (d := false) hw1h.out hb2h.out hb3 own3 hob hw4 hvn kzh.out hz1h.out
  have hE0 := Lib.hid hs.1
  have hK : Hid (∀ wr, w4.grownBy wr (some ob) → Below w.heap.size w wr ∧ Cells wr an (ints ids) ∧ wr.heap[w.heap.size]? = some (.cells #[.bool false, .slice none 0 0, .slice none 0 0] 25 (0, 0))) := fun wr h => hs.2 wr h
  have hanb : Hid (∀ g k, an = some ⟨g, k, none⟩ → w.heap.size < g) := fun g k e => by
    have h1 := (own_slot' (by rw [e] at own3; exact own3)).1
    have h2 := hb2h.out.size
    have h3 := hz1h.out
    omega
  have hnone : Hid (an = none → cn = 0) := by
    intro e
    subst e
    obtain ⟨_, h3 | ⟨g, cap, cur, hv, _⟩⟩ := own3
    · injection h3.1
    · injection hv with hv
      cases hv
  have c1 : w4.cell? ⟨ob, 1, none⟩ = some vn := hs.1.at1
  have hbw : Hid (w.heap.size < ob) := by
    have h1 := hb2h.out.size
    have h2 := hb3.size
    have h3 := hz1h.out
    unfold Hid
    omega
  rw [hob] at c1
  rw [hw4] at c1
  have hw4h := Lib.hid hw4
  have hobh := Lib.hid hob
  have hvnh := Lib.hid hvn
  clear hs own3 hb3 hited hb2h hw4 hob hvn hw1h hb1h hz1h kzh
  rw [hvnh.out] at c1
  go_wp2_with fail
  rw [← hw4h.out, ← hobh.out]
  clear c1 hw4h hobh
  go_loopw [23] (fun iv wr => ∃ (k m : Nat) (b : Option Addr) (c2 : Nat), k ≤ ids.length ∧ iv = .int .i64 k ∧ m = (seenW false U (ids.take k) S).length ∧ EG w4 wr ob false vn (seenW false U (ids.take k) S) (.slice b m c2)) (fun iv _ => ids.length - (intOf iv).toNat)
  case atStart => exact ⟨0, 0, none, 0, Nat.zero_le _, rfl, rfl, hE0.out⟩
  case round =>
    clear hE0
    obtain ⟨k, m, b, c2, hk, rfl, hm, hE⟩ := hrel
    obtain ⟨hbw', hcn, hkz⟩ := hK.out wr hE.fr
    have hmh := Lib.hid hm
    have hEh := Lib.hid hE
    by_cases hlt : k < ids.length
    · obtain ⟨wk, hwk⟩ : ∃ wk, wk = wr := ⟨_, rfl⟩
      subst hwk
      obtain ⟨nb, no, rfl, _, hr⟩ := hcn.at (by rw [ints_length]; omega)
      have x0 := ints_cell hr hlt
      obtain ⟨u, hu⟩ : ∃ u, u = ids[k] := ⟨_, rfl⟩
      rw [← hu] at x0
      have hum : u ∈ ids := by rw [hu]; exact List.getElem_mem hlt
      have hcf := Lib.hid (hFh.out _ hbw' u hum)
      have htk : Hid (seenW false U (ids.take (k + 1)) S = seenW false U (ids.take k) S ++ rowW false U u (S u)) := by unfold Hid; rw [seenW_succ _ _ _ _ hlt, ← hu]
      have hml : m ≤ k * 1000 := by
        rw [hm]
        refine Nat.le_trans (seenW_len _ _ _ _ 1000 hSl.out) ?_
        rw [List.length_take]
        exact Nat.mul_le_mul_right _ (Nat.min_le_left _ _)
      obtain ⟨E0, hE0⟩ : ∃ E0, E0 = seenW false U (ids.take k) S := ⟨_, rfl⟩
      rw [← hE0] at hm hE htk
      have hmh := Lib.hid hm
      have hEh := Lib.hid hE
      clear hm hE hE0 hu hr hcn hkz hbw'
      go_wp2_with fail
      refine (unhide hcf).mono ?_
      intro e w5 hIt5
      obtain ⟨vJ, rfl, hb5, hith⟩ := hIt5
      have hith := Lib.hid hith
      have hb5h := Lib.hid hb5
      clear hb5 hcf x0
      go_wp2_with fail
      refine (unhide hith).mono ?_
      rintro e w6 ⟨al, cl, rfl, own6, hb6⟩
      have hb56 := hb5h.out.trans hb6
      have hZ : EZ w4 w6 w6 wk.heap.size w6.heap.size ob false vn E0 (.slice b m c2) := ⟨hEh.out.keep hb56, fun _ _ _ => rfl, fun j hj => .inl (hEh.out.e.lt j hj).2, Nat.le_refl _, hEh.out.fr.size⟩
      obtain ⟨l, hl⟩ : ∃ l, l = S u := ⟨_, rfl⟩
      have hlF : Hid (∀ v ∈ l, v ∈ S u) := fun v hv => by rwa [hl] at hv
      have hll : l.length ≤ 1000 := by rw [hl]; exact hSl.out u
      rw [← hl] at own6 htk ⊢
      have hL : Hid (∀ W : World, (∀ j, wk.heap.size ≤ j → j < w6.heap.size → W.heap[j]? = w6.heap[j]?) → Cells W al (ints l)) := fun W hW => by
        have hr := owns_same (w' := W) own6 fun j hj => hW j (by have := (own6.lt j hj).1; have := hb5h.out.size; omega) (own6.lt j hj).2
        obtain ⟨a', c', e', _, hc, _⟩ := owns_cells hr
        injection e' with e1 _ _
        subst e1
        exact hc
      have hZh := Lib.hid hZ
      clear hl hb6 hb56 hb5h hith own6 hZ hEh
      go_wp2_with fail
      go_loopw [32] (fun iv wr => ∃ (j m : Nat) (b : Option Addr) (c2 : Nat), j ≤ l.length ∧ iv = .int .i64 j ∧ m = (E0 ++ rowW false U u (l.take j)).length ∧ EZ w4 w6 wr wk.heap.size w6.heap.size ob false vn (E0 ++ rowW false U u (l.take j)) (.slice b m c2)) (fun iv _ => l.length - (intOf iv).toNat)
      case atStart => exact ⟨0, m, b, c2, Nat.zero_le _, rfl, by rw [hmh.out]; simp [rowW], by have := hZh.out; simpa [rowW] using this⟩
      case round =>
        obtain ⟨j, m', b', c', hj, rfl, hm', hZ⟩ := hrel
        clear hZh
        have hm'h := Lib.hid hm'
        have hml' : m' ≤ k * 1000 + 1000 := by
          rw [hm', List.length_append, ← hmh.out]
          have := rowW_len false U u (l.take j)
          rw [List.length_take] at this
          omega
        have hZh := Lib.hid hZ
        clear hm'
        by_cases hjl : j < l.length
        · obtain ⟨lb, lo, rfl, _, hlr⟩ := (hL.out wr hZ.zone).at (by rw [ints_length]; omega)
          have x1 := ints_cell hlr hjl
          obtain ⟨v, hv⟩ : ∃ v, v = l[j] := ⟨_, rfl⟩
          rw [← hv] at x1
          have htj := rowW_succ false U u l hjl
          rw [← hv] at htj
          have htjh := Lib.hid htj
          have hvl : v ∈ l := by rw [hv]; exact List.getElem_mem hjl
          clear hv hlr htj
          by_cases hpos : v < u
          · have hdec : decide (v < u) = true := decide_eq_true hpos
            have hdec2 : Hid ((false || decide (u ≤ v)) = false) := by unfold Hid; rw [Bool.false_or]; exact decide_eq_false (by omega)
            clear hZ
            go_wp2_with fail
            go_roundw
            case rel => exact ⟨j + 1, m', b', c', by omega, by go_num, by rw [htjh.out, if_neg (by rw [hdec2.out]; simp), List.append_nil]; exact hm'h.out, by rw [htjh.out, if_neg (by rw [hdec2.out]; simp), List.append_nil]; exact hZh.out⟩
            case measure => simp [intOf]; omega
          · have hdec : decide (v < u) = false := decide_eq_false hpos
            have hdec2 : Hid ((false || decide (u ≤ v)) = true) := by unfold Hid; rw [Bool.false_or]; exact decide_eq_true (by omega)
            have hpr := (hK.out wr hZ.eg.fr).1
            have hww := Lib.hid (hWh.out _ (hpr.trans ((alloc_below wr (.cells #[.int .i64 u, .int .i64 v, .int .i64 0] 33)).mono hpr.size)) u hum v (hlF.out v hvl))
            have e2 := hZ.eg.at2
            have hzw := lt_of_block hZ.eg.blk
            clear hpr
            go_wp2_with fail
            refine (unhide hww).mono ?_
            rintro e w8 ⟨wb, rfl, hb8⟩
            have q0 : (wr.alloc (.cells #[.int .i64 u, .int .i64 v, .int .i64 0] 33)).cell? ⟨wr.heap.size, 0, none⟩ = some (.int .i64 u) := by simp
            have q1 : (wr.alloc (.cells #[.int .i64 u, .int .i64 v, .int .i64 0] 33)).cell? ⟨wr.heap.size, 1, none⟩ = some (.int .i64 v) := by simp
            have q2 : (wr.alloc (.cells #[.int .i64 u, .int .i64 v, .int .i64 0] 33)).cell? ⟨wr.heap.size, 2, none⟩ = some (.int .i64 0) := by simp
            have g2 : (wr.alloc (.cells #[.int .i64 u, .int .i64 v, .int .i64 0] 33)).frozen? ⟨wr.heap.size, 2, none⟩ = false := by simp
            have p0 := cell_below hb8 q0
            have p1 := cell_below hb8 q1
            have p2 := cell_below hb8 q2
            have pf := free_below hb8 q2 g2
            have e8 := (hZ.keep (below_boxed hb8)).eg.at2
            have hZ7 := hZ.keep ((below_boxed hb8).setCell (p := ⟨wr.heap.size, 2, none⟩) (Nat.le_refl _) (.int .i64 (U u v)))
            have ho := Lib.hid (fun o => hZ7.eg.e.alloc o)
            have hZ7h := Lib.hid hZ7
            have hz4 : w4.heap.size ≤ wr.heap.size := hZ.eg.fr.size
            have hz8 : wr.heap.size < w8.heap.size := by have := hb8.size; simp at this; omega
            obtain ⟨es, hes⟩ : ∃ es, es = E0 ++ rowW false U u (l.take j) := ⟨_, rfl⟩
            rw [← hes] at hZ7h ho hm'h
            rw [← hm'h.out] at ho
            have hesh := Lib.hid hes
            have hkl : k * 1000 + 1000 ≤ 1000000 := by omega
            clear hZ hZ7 hes hZh hb8 q0 q1 q2 g2 e2 hww
            go_wp2_with (at_builtin; refine append_law 23 33 (.agg #[.int .i64 0, .int .i64 0, .int .i64 0]) 3 24 Tryz.underlying23 info_edge rfl (by omega) (by omega) rfl _ _ rfl w4.heap.size b' m' c' (edgeCells es) rfl (unhide ho _) ⟨w8.heap.size, 0, none⟩ 1 1 [.int .i64 u, .int .i64 v, .int .i64 (U u v)] rfl rfl (new_three_at _ _ _ _ _ (by simp)) (one_edge _ _ _) (by omega) (by simp; omega) ?_; intro b2 c2 w7 hown2 hg2 hat2; obtain ⟨s1, s2, s3⟩ := hZ7h.out.add (x := (u, v, U u v)) hm'h.out hg2 hown2 hat2; clear hown2 hg2 hat2 ho hZ7h)
            go_roundw
            case rel => exact ⟨j + 1, m' + 1, b2, c2, by omega, by go_num, by rw [htjh.out, if_pos hdec2.out, ← List.append_assoc, ← hesh.out, List.length_append, ← hm'h.out]; rfl, by rw [htjh.out, if_pos hdec2.out, ← List.append_assoc, ← hesh.out]; exact s3.out⟩
            case measure => simp [intOf]; omega
        · have hjn : j = l.length := by omega
          subst hjn
          clear hZ
          go_wp2_with fail
          go_roundw
          case rel => exact ⟨k + 1, m', b', c', by omega, by go_num, by rw [htk.out, hm'h.out, List.take_length], by have := hZh.out.eg; rw [List.take_length, ← htk.out] at this; exact this⟩
          case measure => simp [intOf]; omega
    · have hkn : k = ids.length := by omega
      subst hkn
      rw [List.take_length] at hm hE
      have o0 := hE.at0
      have o1 := hE.at1
      have o2 := hE.at2
      obtain ⟨y0, y1, y2, y3, y4, y5, y6, y7, y8⟩ := ebox3 hkz (.bool false) vn (.slice b m c2)
      have hfin := Lib.hid (seenW_done hbw.out hm hE hcn hbw' hanb.out hnone.out hvnh.out)
      obtain rfl : vn = Value.slice an ids.length cn := hvnh.out
      clear hm hE hkz hbw' hcn hmh hEh
      go_wp2_with fail
      (try simp only [Exit.inBlock, Exit.then])
      refine bodyPost_ret (v := .agg #[.bool false, .slice an ids.length cn, .slice b m c2]) (by simp [results, show Tryz.func16.results = #[.cell 6 25] from rfl, go_sem, y6, y7, y8]) rfl ?_
      exact hfin.out

set_option maxRecDepth 100000 in
set_option maxHeartbeats 4000000 in
theorem seenXD_any {ids : List Int} (hids : ids.length ≤ 1000) {S : Int → List Int} {U : Int → Int → Int} {w : World} {T : TypeId} {gv rN rF wr0 : Value} {fN fF fW : Nat}
    (eN : ∀ args W, (callFunc fN args).run Tryz.prog W = .ok (.enter fN args) W) (eF : ∀ args W, (callFunc fF args).run Tryz.prog W = .ok (.enter fF args) W) (eW : ∀ args W, (callFunc fW args).run Tryz.prog W = .ok (.enter fW args) W)
    (mN : ∀ n W, (method (n + 2) T gv "Nodes").run Tryz.prog W = .ok (fN, rN) W) (mF : ∀ n W, (method (n + 2) T gv "From").run Tryz.prog W = .ok (fF, rF) W)
    (hneq : ∀ W, (binOp BinOp.neq 48 (.func (.func fW) #[wr0] #[]) .nilFunc).run Tryz.prog W = .ok (.bool true) W)
    (hN : ∀ W, Below w.heap.size w W → Calls Tryz.prog fN #[rN] W (ItOf W ids))
    (hF : ∀ W, Below w.heap.size w W → ∀ u ∈ ids, Calls Tryz.prog fF #[rF, .int .i64 u] W (ItOf W (S u)))
    (hW : ∀ W, Below w.heap.size w W → ∀ u ∈ ids, ∀ v ∈ S u, Calls Tryz.prog fW #[wr0, .int .i64 u, .int .i64 v] W fun e w' => ∃ b, e = .returned (.tuple #[.float .f64 (fl (U u v)), .bool b]) ∧ Below W.heap.size W w')
    (hSlen : ∀ x, (S x).length ≤ 1000) (hUb : ∀ x y, (U x y).natAbs < FlB) :
    Calls Tryz.prog 16 #[.iface T gv, .bool true, .func (.func fW) #[wr0] #[]] w (SeenWPost w true ids (seenW true U ids S)) := by
  obtain ⟨w1, hw1⟩ : ∃ w1, w1 = w.alloc (.cells #[.bool false, .slice none 0 0, .slice none 0 0] 25) := ⟨_, rfl⟩
  have hb1 : Below w.heap.size w w1 := by rw [hw1]; exact alloc_below _ _
  have hz1 : w1.heap.size = w.heap.size + 1 := by rw [hw1]; simp
  have kz : w1.heap[w.heap.size]? = some (.cells #[.bool false, .slice none 0 0, .slice none 0 0] 25 (0, 0)) := by rw [hw1]; exact heap_alloc_new _ _
  have hn := Lib.hid (hN _ hb1)
  rw [hw1] at hn
  have hw1h := Lib.hid hw1
  have hb1h := Lib.hid hb1
  have hz1h := Lib.hid hz1
  have kzh := Lib.hid kz
  have hFh := Lib.hid hF
  have hWh := Lib.hid hW
  have hSl : Hid (∀ u, (S u).length ≤ 1000) := hSlen
  have hcv : ∀ (W : World) (x y : Int), (convert 44 3 (.float .f64 (fl (U x y)))).run Tryz.prog W = .ok (.int .i64 (U x y)) W := fun W x y => run_convert_float_int W _ _ .f64 .i64 _ _ (by rw [Tryz.underlying44]; rfl) Tryz.underlying3 (fl_back (hUb x y))
  clear hw1 hb1 hz1 kz hN hF hW hUb hSlen
  go_enter Tryz.func16, Tryz.ntmps16
  go_wp2_with fail
  refine (unhide hn).mono ?_
  intro e w2 hIt
  rw [← hw1h.out] at hIt
  obtain ⟨vI, rfl, hb2, hited⟩ := hIt
  have hited := Lib.hid hited
  have hb2h := Lib.hid hb2
  clear hn hb2 mN eN
  go_wp2_with fail
  refine (unhide hited).mono ?_
  rintro e w3 ⟨an, cn, rfl, own3, hb3⟩
  obtain ⟨ob, hob⟩ : ∃ ob, ob = w3.heap.size := ⟨_, rfl⟩
  obtain ⟨w4, hw4⟩ : ∃ w4, w4 = w3.alloc (.cells #[.bool true, .slice an ids.length cn, .slice none 0 0] 25) := ⟨_, rfl⟩
  obtain ⟨vn, hvn⟩ : ∃ vn, vn = Value.slice an ids.length cn := ⟨_, rfl⟩
  have hs := seenW_start (d := true) hw1h.out hb2h.out hb3 own3 hob hw4 hvn kzh.out hz1h.out
  have hE0 := Lib.hid hs.1
  have hK : Hid (∀ wr, w4.grownBy wr (some ob) → Below w.heap.size w wr ∧ Cells wr an (ints ids) ∧ wr.heap[w.heap.size]? = some (.cells #[.bool false, .slice none 0 0, .slice none 0 0] 25 (0, 0))) := fun wr h => hs.2 wr h
  have hanb : Hid (∀ g k, an = some ⟨g, k, none⟩ → w.heap.size < g) := fun g k e => by
    have h1 := (own_slot' (by rw [e] at own3; exact own3)).1
    have h2 := hb2h.out.size
    have h3 := hz1h.out
    omega
  have hnone : Hid (an = none → cn = 0) := by
    intro e
    subst e
    obtain ⟨_, h3 | ⟨g, cap, cur, hv, _⟩⟩ := own3
    · injection h3.1
    · injection hv with hv
      cases hv
  have c1 : w4.cell? ⟨ob, 1, none⟩ = some vn := hs.1.at1
  have hbw : Hid (w.heap.size < ob) := by
    have h1 := hb2h.out.size
    have h2 := hb3.size
    have h3 := hz1h.out
    unfold Hid
    omega
  rw [hob] at c1
  rw [hw4] at c1
  have hw4h := Lib.hid hw4
  have hobh := Lib.hid hob
  have hvnh := Lib.hid hvn
  clear hs own3 hb3 hited hb2h hw4 hob hvn hw1h hb1h hz1h kzh
  rw [hvnh.out] at c1
  go_wp2_with fail
  rw [← hw4h.out, ← hobh.out]
  clear c1 hw4h hobh
  go_loopw [23] (fun iv wr => ∃ (k m : Nat) (b : Option Addr) (c2 : Nat), k ≤ ids.length ∧ iv = .int .i64 k ∧ m = (seenW true U (ids.take k) S).length ∧ EG w4 wr ob true vn (seenW true U (ids.take k) S) (.slice b m c2)) (fun iv _ => ids.length - (intOf iv).toNat)
  case atStart => exact ⟨0, 0, none, 0, Nat.zero_le _, rfl, rfl, hE0.out⟩
  case round =>
    clear hE0
    obtain ⟨k, m, b, c2, hk, rfl, hm, hE⟩ := hrel
    obtain ⟨hbw', hcn, hkz⟩ := hK.out wr hE.fr
    have hmh := Lib.hid hm
    have hEh := Lib.hid hE
    by_cases hlt : k < ids.length
    · obtain ⟨wk, hwk⟩ : ∃ wk, wk = wr := ⟨_, rfl⟩
      subst hwk
      obtain ⟨nb, no, rfl, _, hr⟩ := hcn.at (by rw [ints_length]; omega)
      have x0 := ints_cell hr hlt
      obtain ⟨u, hu⟩ : ∃ u, u = ids[k] := ⟨_, rfl⟩
      rw [← hu] at x0
      have hum : u ∈ ids := by rw [hu]; exact List.getElem_mem hlt
      have hcf := Lib.hid (hFh.out _ hbw' u hum)
      have htk : Hid (seenW true U (ids.take (k + 1)) S = seenW true U (ids.take k) S ++ rowW true U u (S u)) := by unfold Hid; rw [seenW_succ _ _ _ _ hlt, ← hu]
      have hml : m ≤ k * 1000 := by
        rw [hm]
        refine Nat.le_trans (seenW_len _ _ _ _ 1000 hSl.out) ?_
        rw [List.length_take]
        exact Nat.mul_le_mul_right _ (Nat.min_le_left _ _)
      obtain ⟨E0, hE0⟩ : ∃ E0, E0 = seenW true U (ids.take k) S := ⟨_, rfl⟩
      rw [← hE0] at hm hE htk
      have hmh := Lib.hid hm
      have hEh := Lib.hid hE
      clear hm hE hE0 hu hr hcn hkz hbw'
      go_wp2_with fail
      refine (unhide hcf).mono ?_
      intro e w5 hIt5
      obtain ⟨vJ, rfl, hb5, hith⟩ := hIt5
      have hith := Lib.hid hith
      have hb5h := Lib.hid hb5
      clear hb5 hcf x0
      go_wp2_with fail
      refine (unhide hith).mono ?_
      rintro e w6 ⟨al, cl, rfl, own6, hb6⟩
      have hb56 := hb5h.out.trans hb6
      have hZ : EZ w4 w6 w6 wk.heap.size w6.heap.size ob true vn E0 (.slice b m c2) := ⟨hEh.out.keep hb56, fun _ _ _ => rfl, fun j hj => .inl (hEh.out.e.lt j hj).2, Nat.le_refl _, hEh.out.fr.size⟩
      obtain ⟨l, hl⟩ : ∃ l, l = S u := ⟨_, rfl⟩
      have hlF : Hid (∀ v ∈ l, v ∈ S u) := fun v hv => by rwa [hl] at hv
      have hll : l.length ≤ 1000 := by rw [hl]; exact hSl.out u
      rw [← hl] at own6 htk ⊢
      have hL : Hid (∀ W : World, (∀ j, wk.heap.size ≤ j → j < w6.heap.size → W.heap[j]? = w6.heap[j]?) → Cells W al (ints l)) := fun W hW => by
        have hr := owns_same (w' := W) own6 fun j hj => hW j (by have := (own6.lt j hj).1; have := hb5h.out.size; omega) (own6.lt j hj).2
        obtain ⟨a', c', e', _, hc, _⟩ := owns_cells hr
        injection e' with e1 _ _
        subst e1
        exact hc
      have hZh := Lib.hid hZ
      clear hl hb6 hb56 hb5h hith own6 hZ hEh
      go_wp2_with fail
      go_loopw [32] (fun iv wr => ∃ (j m : Nat) (b : Option Addr) (c2 : Nat), j ≤ l.length ∧ iv = .int .i64 j ∧ m = (E0 ++ rowW true U u (l.take j)).length ∧ EZ w4 w6 wr wk.heap.size w6.heap.size ob true vn (E0 ++ rowW true U u (l.take j)) (.slice b m c2)) (fun iv _ => l.length - (intOf iv).toNat)
      case atStart => exact ⟨0, m, b, c2, Nat.zero_le _, rfl, by rw [hmh.out]; simp [rowW], by have := hZh.out; simpa [rowW] using this⟩
      case round =>
        obtain ⟨j, m', b', c', hj, rfl, hm', hZ⟩ := hrel
        clear hZh
        have hm'h := Lib.hid hm'
        have hml' : m' ≤ k * 1000 + 1000 := by
          rw [hm', List.length_append, ← hmh.out]
          have := rowW_len true U u (l.take j)
          rw [List.length_take] at this
          omega
        have hZh := Lib.hid hZ
        clear hm'
        by_cases hjl : j < l.length
        · obtain ⟨lb, lo, rfl, _, hlr⟩ := (hL.out wr hZ.zone).at (by rw [ints_length]; omega)
          have x1 := ints_cell hlr hjl
          obtain ⟨v, hv⟩ : ∃ v, v = l[j] := ⟨_, rfl⟩
          rw [← hv] at x1
          have htj := rowW_succ true U u l hjl
          rw [← hv] at htj
          have htjh := Lib.hid htj
          have hvl : v ∈ l := by rw [hv]; exact List.getElem_mem hjl
          clear hv hlr htj
          by_cases hpos : False
          · exact hpos.elim
          · skip
            have hpr := (hK.out wr hZ.eg.fr).1
            have hww := Lib.hid (hWh.out _ (hpr.trans ((alloc_below wr (.cells #[.int .i64 u, .int .i64 v, .int .i64 0] 33)).mono hpr.size)) u hum v (hlF.out v hvl))
            have e2 := hZ.eg.at2
            have hzw := lt_of_block hZ.eg.blk
            clear hpr
            go_wp2_with fail
            refine (unhide hww).mono ?_
            rintro e w8 ⟨wb, rfl, hb8⟩
            have q0 : (wr.alloc (.cells #[.int .i64 u, .int .i64 v, .int .i64 0] 33)).cell? ⟨wr.heap.size, 0, none⟩ = some (.int .i64 u) := by simp
            have q1 : (wr.alloc (.cells #[.int .i64 u, .int .i64 v, .int .i64 0] 33)).cell? ⟨wr.heap.size, 1, none⟩ = some (.int .i64 v) := by simp
            have q2 : (wr.alloc (.cells #[.int .i64 u, .int .i64 v, .int .i64 0] 33)).cell? ⟨wr.heap.size, 2, none⟩ = some (.int .i64 0) := by simp
            have g2 : (wr.alloc (.cells #[.int .i64 u, .int .i64 v, .int .i64 0] 33)).frozen? ⟨wr.heap.size, 2, none⟩ = false := by simp
            have p0 := cell_below hb8 q0
            have p1 := cell_below hb8 q1
            have p2 := cell_below hb8 q2
            have pf := free_below hb8 q2 g2
            have e8 := (hZ.keep (below_boxed hb8)).eg.at2
            have hZ7 := hZ.keep ((below_boxed hb8).setCell (p := ⟨wr.heap.size, 2, none⟩) (Nat.le_refl _) (.int .i64 (U u v)))
            have ho := Lib.hid (fun o => hZ7.eg.e.alloc o)
            have hZ7h := Lib.hid hZ7
            have hz4 : w4.heap.size ≤ wr.heap.size := hZ.eg.fr.size
            have hz8 : wr.heap.size < w8.heap.size := by have := hb8.size; simp at this; omega
            obtain ⟨es, hes⟩ : ∃ es, es = E0 ++ rowW true U u (l.take j) := ⟨_, rfl⟩
            rw [← hes] at hZ7h ho hm'h
            rw [← hm'h.out] at ho
            have hesh := Lib.hid hes
            have hkl : k * 1000 + 1000 ≤ 1000000 := by omega
            clear hZ hZ7 hes hZh hb8 q0 q1 q2 g2 e2 hww
            go_wp2_with (at_builtin; refine append_law 23 33 (.agg #[.int .i64 0, .int .i64 0, .int .i64 0]) 3 24 Tryz.underlying23 info_edge rfl (by omega) (by omega) rfl _ _ rfl w4.heap.size b' m' c' (edgeCells es) rfl (unhide ho _) ⟨w8.heap.size, 0, none⟩ 1 1 [.int .i64 u, .int .i64 v, .int .i64 (U u v)] rfl rfl (new_three_at _ _ _ _ _ (by simp)) (one_edge _ _ _) (by omega) (by simp; omega) ?_; intro b2 c2 w7 hown2 hg2 hat2; obtain ⟨s1, s2, s3⟩ := hZ7h.out.add (x := (u, v, U u v)) hm'h.out hg2 hown2 hat2; clear hown2 hg2 hat2 ho hZ7h)
            go_roundw
            case rel => exact ⟨j + 1, m' + 1, b2, c2, by omega, by go_num, by rw [htjh.out, if_pos (by rfl), ← List.append_assoc, ← hesh.out, List.length_append, ← hm'h.out]; rfl, by rw [htjh.out, if_pos (by rfl), ← List.append_assoc, ← hesh.out]; exact s3.out⟩
            case measure => simp [intOf]; omega
        · have hjn : j = l.length := by omega
          subst hjn
          clear hZ
          go_wp2_with fail
          go_roundw
          case rel => exact ⟨k + 1, m', b', c', by omega, by go_num, by rw [htk.out, hm'h.out, List.take_length], by have := hZh.out.eg; rw [List.take_length, ← htk.out] at this; exact this⟩
          case measure => simp [intOf]; omega
    · have hkn : k = ids.length := by omega
      subst hkn
      rw [List.take_length] at hm hE
      have o0 := hE.at0
      have o1 := hE.at1
      have o2 := hE.at2
      obtain ⟨y0, y1, y2, y3, y4, y5, y6, y7, y8⟩ := ebox3 hkz (.bool true) vn (.slice b m c2)
      have hfin := Lib.hid (seenW_done hbw.out hm hE hcn hbw' hanb.out hnone.out hvnh.out)
      obtain rfl : vn = Value.slice an ids.length cn := hvnh.out
      clear hm hE hkz hbw' hcn hmh hEh
      go_wp2_with fail
      (try simp only [Exit.inBlock, Exit.then])
      refine bodyPost_ret (v := .agg #[.bool true, .slice an ids.length cn, .slice b m c2]) (by simp [results, show Tryz.func16.results = #[.cell 6 25] from rfl, go_sem, y6, y7, y8]) rfl ?_
      exact hfin.out
end Go.Proofs.YtgkimjjodhnmiaaGreat
