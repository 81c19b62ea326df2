/- laws.plain of a good graph: its edges are a row of its own. -/
import Derived.Test.YtgkimjjodhnmiaaGreatLPlain
import Derived.Deep.RegionHeld3
import Derived.Deep.AppendLies
namespace Go.Proofs.YtgkimjjodhnmiaaGreat
open Go.RowKit

/-- What laws.plain gives: its edges a row that the call has made, apart from its nodes. -/
def PlainOwn (w : World) (g : Gr) (e : Ending) (w' : World) : Prop :=
  ∃ (an : Option Addr) (cn : Nat) (ae : Option Addr) (ce : Nat), e = .returned (.agg #[.bool g.dir, .slice an (asc g.nodes).length cn, .slice ae (plainE g).length ce]) ∧ GrAt w' (plainG g) an cn ae ∧ Below w.heap.size w w' ∧
    w'.ownsRow w.heap.size 33 3 (.slice ae (plainE g).length ce) (plainE g).length (edgeCells (plainE g)) ∧ ∀ j, (Value.slice an (asc g.nodes).length cn).ownBlock = some j → (Value.slice ae (plainE g).length ce).ownBlock ≠ some j

theorem plainO_done {w w3 w5 wr : World} {g : Gr} {a1 b : Option Addr} {c1 c2 ob rb m : Nat} {d : Bool} (hrb : w.heap.size ≤ rb) (hr3 : rb < w3.heap.size) (h35 : w3.heap.size ≤ w5.heap.size) (hm : m = (plainE g).length) (hE : EG w5 wr ob d (.slice a1 (asc g.nodes).length c1) (plainE g) (.slice b m c2)) (hb : Below w.heap.size w w3) (hbw : Below w3.heap.size w3 wr) (hd : d = g.dir)
    (hn : w3.ownsRow (rb + 1) 3 1 (.slice a1 (asc g.nodes).length c1) (asc g.nodes).length (ints (asc g.nodes))) :
    PlainOwn w g (.returned (.agg #[.bool d, .slice a1 (asc g.nodes).length c1, .slice b m c2])) (((wr.setCell ⟨rb, 0, none⟩ (.bool d)).setCell ⟨rb, 1, none⟩ (.slice a1 (asc g.nodes).length c1)).setCell ⟨rb, 2, none⟩ (.slice b m c2)) := by
  have hse : ∀ j, j ≠ rb → (((wr.setCell ⟨rb, 0, none⟩ (.bool d)).setCell ⟨rb, 1, none⟩ (.slice a1 (asc g.nodes).length c1)).setCell ⟨rb, 2, none⟩ (.slice b m c2)).heap[j]? = wr.heap[j]? := fun j hj => by
    rw [Below.heap_setCell _ _ _ _ hj, Below.heap_setCell _ _ _ _ hj, Below.heap_setCell _ _ _ _ hj]
  have hrow := owns_same (w' := ((wr.setCell ⟨rb, 0, none⟩ (.bool d)).setCell ⟨rb, 1, none⟩ (.slice a1 (asc g.nodes).length c1)).setCell ⟨rb, 2, none⟩ (.slice b m c2)) hE.e fun j hj => hse j (by have := (hE.e.lt j hj).1; omega)
  have hnrow := owns_same (w' := ((wr.setCell ⟨rb, 0, none⟩ (.bool d)).setCell ⟨rb, 1, none⟩ (.slice a1 (asc g.nodes).length c1)).setCell ⟨rb, 2, none⟩ (.slice b m c2)) hn fun j hj => (hse j (by have := (hn.lt j hj).1; omega)).trans (hbw.block j (hn.lt j hj).2)
  obtain ⟨a', c', e', _, hcs, _⟩ := owns_cells hrow
  injection e' with e1 _ _
  subst e1
  obtain ⟨a'', c'', e'', _, hcn, _⟩ := owns_cells hnrow
  injection e'' with e1 _ _
  subst e1
  have hbW : Below w.heap.size w wr := hb.trans (hbw.mono hb.size)
  have hbl := hb.size
  have hrow0 := owns_base hrow (show w.heap.size ≤ w5.heap.size by omega)
  have hap : ∀ j, (Value.slice a1 (asc g.nodes).length c1).ownBlock = some j → (Value.slice b m c2).ownBlock ≠ some j := fun j h1 h2 => by
    have h3 := (hn.lt j h1).2
    have h4 := (hE.e.lt j h2).1
    omega
  rw [← hm] at hrow0
  refine ⟨a1, c1, b, c2, by rw [hm, hd], ⟨hcn, hcs, fun e => ?_⟩, ((hbW.setCell hrb _).setCell hrb _).setCell hrb _, by rw [← hm]; exact hrow0, by rw [← hm]; exact hap⟩
  subst e
  obtain ⟨_, h3 | ⟨g, cap, cur, hv, _⟩⟩ := hnrow
  · injection h3.1
  · injection hv with hv
    cases hv

set_option linter.unusedSimpArgs false in
set_option maxRecDepth 100000 in
set_option maxHeartbeats 8000000 in
theorem plainO_any (g : Gr) (an : Option Addr) (cn : Nat) (ae : Option Addr) (ce : Nat) (w : World) (hn : g.nodes.length ≤ 1000) (he : g.edges.length ≤ 1048576) (hg : GrAt w g an cn ae) (hok : okGraph g = true) :
    Calls Tryz.prog 8 #[.agg #[.bool g.dir, .slice an g.nodes.length cn, .slice ae g.edges.length ce]] w (PlainOwn w g) := by
  obtain ⟨d, hd⟩ : ∃ d, d = g.dir := ⟨_, rfl⟩
  obtain ⟨w1, hw1⟩ : ∃ w1, w1 = w.alloc (.cells #[.bool d, .slice an g.nodes.length cn, .slice ae g.edges.length ce] 25) := ⟨_, rfl⟩
  obtain ⟨w2, hw2⟩ : ∃ w2, w2 = w1.alloc (.cells #[.bool false, .slice none 0 0, .slice none 0 0] 25) := ⟨_, rfl⟩
  have b1 : Below w.heap.size w w1 := by rw [hw1]; exact alloc_below _ _
  have z1 : w1.heap.size = w.heap.size + 1 := by rw [hw1]; simp
  have b12 : Below w1.heap.size w1 w2 := by rw [hw2]; exact alloc_below _ _
  have z2 : w2.heap.size = w.heap.size + 1 + 1 := by rw [hw2]; simp [z1]
  have b2 : Below w.heap.size w w2 := b1.trans (b12.mono (by omega))
  have k0 : w2.cell? ⟨w.heap.size, 0, none⟩ = some (.bool d) := cell_below b12 (by rw [hw1]; simp)
  have kz : w2.heap[w.heap.size + 1]? = some (.cells #[.bool false, .slice none 0 0, .slice none 0 0] 25 (0, 0)) := by rw [hw2, ← z1]; exact heap_alloc_new _ _
  have hT := tableOf_any g an cn ae ce w2 hn he (hg.below b2) hok
  rw [← hd, hw2, hw1] at hT
  have hTh := Lib.hid hT
  have hw2h : Hid (w2 = (w.alloc (.cells #[.bool d, .slice an g.nodes.length cn, .slice ae g.edges.length ce] 25)).alloc (.cells #[.bool false, .slice none 0 0, .slice none 0 0] 25)) := by unfold Hid; rw [hw2, hw1]
  have hK2 := Lib.hid (And.intro b2 (And.intro k0 (And.intro kz z2)))
  have hdh := Lib.hid hd
  have htab := Lib.hid (graph_table hok)
  have hAl : Hid ((asc g.nodes).length ≤ 1000) := by unfold Hid; rw [asc_length]; exact hn
  rw [← hd]
  clear hw1 hw2 b1 z1 b12 z2 b2 k0 kz hT hg hok hd
  go_enter Tryz.func8, Tryz.ntmps8
  go_wp2_with fail
  refine (unhide hTh).mono ?_
  rintro e w3 ⟨nv, sa, sw, lo, hi, rfl, hlo, hTab, hhi, hb3⟩
  rw [← hw2h.out] at hlo hb3
  obtain ⟨b2, k0, kz, z2⟩ := hK2.out
  have c0 := cell_below hb3 k0
  have kz3 : Hid (w3.heap[w.heap.size + 1]? = some (.cells #[.bool false, .slice none 0 0, .slice none 0 0] 25 (0, 0))) := (hb3.block _ (by omega)).trans kz
  have b3 : Hid (Below w.heap.size w w3) := b2.trans (hb3.mono b2.size)
  obtain ⟨ta, hta⟩ : ∃ ta, ta = (tableP (asc g.nodes) g.dir g.edges).1 := ⟨_, rfl⟩
  obtain ⟨tw, htw⟩ : ∃ tw, tw = (tableP (asc g.nodes) g.dir g.edges).2 := ⟨_, rfl⟩
  rw [← hta, ← htw] at hTab
  have hsa : Hid (Square (asc g.nodes).length ta) := by rw [hta]; exact htab.out.s1
  have hsw : Hid (Square (asc g.nodes).length tw) := by rw [htw]; exact htab.out.s2
  have hpe : Hid (plainUp (asc g.nodes) ta tw d (asc g.nodes).length = plainE g) := by unfold Hid; rw [hta, htw, hdh.out]; rfl
  obtain ⟨A, hA⟩ : ∃ A, A = asc g.nodes := ⟨_, rfl⟩
  rw [← hA] at hTab hsa hsw hpe hAl
  have hTabh := Lib.hid hTab
  obtain ⟨a1, c1, B, sb, gs, hs, rfl, hn1, T, _⟩ := hTab
  obtain ⟨aa, ca, rfl, _⟩ := owns_cells T.oa
  obtain ⟨aw, cw, rfl, _⟩ := owns_cells T.ow
  have hn1h : Hid (w3.ownsRow (w.heap.size + 1 + 1) 3 1 (.slice a1 A.length c1) A.length (ints A)) := owns_base hn1 (by omega)
  obtain ⟨n, hnn⟩ : ∃ n, n = A.length := ⟨_, rfl⟩
  have hnA := Lib.hid hnn
  have hn1000 : n ≤ 1000 := by rw [hnn]; exact hAl.out
  rw [← hnn] at hTabh hn1h hpe ⊢
  obtain ⟨tb, htb⟩ : ∃ tb, tb = w3.heap.size := ⟨_, rfl⟩
  obtain ⟨w4, hw4⟩ : ∃ w4, w4 = w3.alloc (.cells #[.slice a1 n c1, .slice aa n ca, .slice aw n cw] 66) := ⟨_, rfl⟩
  obtain ⟨w5, hw5⟩ : ∃ w5, w5 = w4.alloc (.cells #[.bool d, .slice a1 n c1, .slice none 0 0] 25) := ⟨_, rfl⟩
  have hst := plain_start (d := d) htb hw4 hw5
  have hE0h := Lib.hid hst.1
  have hK := Lib.hid hst.2
  have hw5h : Hid (w5 = (w3.alloc (.cells #[.slice a1 n c1, .slice aa n ca, .slice aw n cw] 66)).alloc (.cells #[.bool d, .slice a1 n c1, .slice none 0 0] 25)) := by unfold Hid; rw [hw5, hw4]
  have htbh := Lib.hid htb
  have hlt3 : Hid (w.heap.size + 1 < w3.heap.size) := lt_of_block kz3.out
  have hlt5 : Hid (w3.heap.size ≤ w5.heap.size) := by unfold Hid; rw [hw5, hw4]; simp; omega
  have hAh := Lib.hid hA
  have hlw : w.heap.size < w3.heap.size := by have := hlt3.out; omega
  clear hlo hb3 b2 k0 kz z2 hn1 T hta htw hA hnn htb hw4 hw5 hst hTh hK2 hw2h htab hAl hhi
  go_wp2_with fail
  rw [← hw5h.out, ← htbh.out]
  have c0h := Lib.hid c0
  clear c0 hw5h hlw
  go_loopw [5] (fun iv wr => ∃ (i m : Nat) (b : Option Addr) (c2 : Nat), i ≤ n ∧ iv = .int .i64 i ∧ m = (plainUp A ta tw d i).length ∧ EG w5 wr (tb + 1) d (.slice a1 n c1) (plainUp A ta tw d i) (.slice b m c2)) (fun iv _ => n - (intOf iv).toNat)
  case atStart => exact ⟨0, 0, none, 0, Nat.zero_le _, rfl, rfl, hE0h.out⟩
  case round =>
    clear hE0h
    obtain ⟨i, m, b, c2, hi', rfl, hm, hE⟩ := hrel
    obtain ⟨hbw, d0, d1, d2⟩ := hK.out wr hE.fr
    have hmh := Lib.hid hm
    have hEh := Lib.hid hE
    by_cases hlt : i < n
    · obtain ⟨wk, hwk⟩ : ∃ wk, wk = wr := ⟨_, rfl⟩
      subst hwk
      clear hE hm hbw d1 d2
      go_wp2_with fail
      clear d0
      go_loopw [6] (fun kv wr => ∃ (k m : Nat) (b : Option Addr) (c2 : Nat), k ≤ n ∧ kv = .int .i64 k ∧ m = (plainUp A ta tw d i ++ plainRow A ta tw d i k).length ∧ EG w5 wr (tb + 1) d (.slice a1 n c1) (plainUp A ta tw d i ++ plainRow A ta tw d i k) (.slice b m c2)) (fun kv _ => n - (intOf kv).toNat)
      case atStart => exact ⟨0, m, b, c2, Nat.zero_le _, rfl, by rw [hmh.out]; simp [plainRow], by have := hEh.out; simpa [plainRow] using this⟩
      case round =>
        clear hEh hmh
        obtain ⟨k, m, b, c2, hk, rfl, hm, hE⟩ := hrel
        obtain ⟨hbw, d0, d1, d2⟩ := hK.out wr hE.fr
        by_cases hkl : k < n
        · obtain ⟨a0, ca', w0, cw', n0, cn', g0, h0, e1, e2, e3, x1, x2, x3, x4, x5, x6⟩ := TabAt.read hTabh.out hsa.out hsw.out (i := i) (k := k) (by have := hnA.out; omega) (by have := hnA.out; omega)
          injection e1 with e1 l1 e1'
          injection e2 with e2 l2 e2'
          injection e3 with e3 l3 e3'
          clear l1 l2 l3 e1' e2' e3'
          subst e1; subst e2; subst e3
          rw [← hnA.out] at x3 x5
          have hml : m ≤ 1000000 := by
            rw [hm, List.length_append]
            have h1 := plainUp_len A ta tw d i
            have h2 := plainRow_len A ta tw d i k
            have h3 : i * A.length ≤ 999 * 1000 := Nat.mul_le_mul (by omega) (by have := hnA.out; omega)
            omega
          obtain ⟨U, hU⟩ : ∃ U, U = A.getD i 0 := ⟨_, rfl⟩
          obtain ⟨V, hV⟩ : ∃ V, V = A.getD k 0 := ⟨_, rfl⟩
          obtain ⟨X, hX⟩ : ∃ X, X = atW tw i k := ⟨_, rfl⟩
          have hyes := Lib.hid (plainRow_yes A ta tw d (i := i) (k := k))
          have hno := Lib.hid (plainRow_no A ta tw d (i := i) (k := k))
          obtain ⟨q, hq⟩ : ∃ q, q = atB ta i k := ⟨_, rfl⟩
          rw [← hU] at x1
          rw [← hV] at x2
          rw [← hX] at x6
          rw [← hq] at x4
          rw [← hU, ← hV, ← hX, ← hq] at hyes
          rw [← hq] at hno
          obtain ⟨es, hes⟩ : ∃ es, es = plainUp A ta tw d i ++ plainRow A ta tw d i k := ⟨_, rfl⟩
          rw [← hes] at hE hm
          have hnext : Hid ((q && (d || decide (i < k))) = true → plainUp A ta tw d i ++ plainRow A ta tw d i (k + 1) = es ++ [(U, V, X)]) := fun h => by rw [hyes.out h, ← List.append_assoc, ← hes]
          have hstay : Hid ((q && (d || decide (i < k))) = false → plainUp A ta tw d i ++ plainRow A ta tw d i (k + 1) = es) := fun h => by rw [hno.out h, ← hes]
          have hKc : Hid (∀ W, w5.grownBy W (some (tb + 1)) → W.cell? ⟨tb, 0, none⟩ = some (.slice (some ⟨n0, 0, none⟩) n c1) ∧ W.cell? ⟨tb, 2, none⟩ = some (.slice (some ⟨w0, 0, none⟩) n cw) ∧ W.cell? ⟨n0, i, none⟩ = some (.int .i64 U) ∧ W.cell? ⟨n0, k, none⟩ = some (.int .i64 V) ∧ W.cell? ⟨w0, i, none⟩ = some (.slice (some ⟨h0, 0, none⟩) n n) ∧ W.cell? ⟨h0, k, none⟩ = some (.int .i64 X)) := fun W hW => by
            obtain ⟨hb, f0, _, f2⟩ := hK.out W hW
            exact ⟨f0, f2, cell_below hb x1, cell_below hb x2, cell_below hb x5, cell_below hb x6⟩
          have y1 := cell_below hbw x1
          have y2 := cell_below hbw x2
          have y3 := cell_below hbw x3
          have y4 := cell_below hbw x4
          have y5 := cell_below hbw x5
          have y6 := cell_below hbw x6
          have yd := cell_below hbw c0h.out
          have f2 := hE.at2
          have hzw := lt_of_block hE.blk
          have hEs := hE.fr.size
          have hmh := Lib.hid hm
          have ho : Hid (∀ o, ((wr.drew).alloc o).ownsRow w5.heap.size 33 3 (.slice b m c2) m (edgeCells es)) := fun o => by have := (hE.draw.e).alloc o; rw [← hm] at this; exact this
          have hgh : Hid (EG w5 wr.drew (tb + 1) d (.slice (some ⟨n0, 0, none⟩) n c1) es (.slice b m c2)) := hE.draw
          have hEh := Lib.hid hE
          have hnew : Hid (∀ (j : Nat) u, [Value.int .i64 U, .int .i64 V, .int .i64 X][j]? = some u → ((wr.drew).alloc (.cells #[.int .i64 U, .int .i64 V, .int .i64 X] 33)).cell? ((⟨wr.heap.size, 0, none⟩ : Addr).add j) = some u) := new_three wr.drew _ _ _ _
          clear x1 x2 x3 x4 x5 x6 hm hE hU hV hX hq hes hyes hno hbw
          by_cases hcond : (q && (d || decide (i < k))) = true
          · have hes := Lib.hid (hnext.out hcond)
            obtain ⟨i0, hi0, hz0, hz1, hz2⟩ := info_parts info_edge
            clear hnext hstay hEh
            have hq : q = true := by cases q <;> simp_all
            subst hq
            have hdk : d = true ∨ (d = false ∧ i < k) := by cases d <;> simp_all
            clear hcond
            rcases hdk with rfl | ⟨rfl, hik⟩
            all_goals
              go_wp2_with fail
              have f2' : ∀ o, (wr.drew.alloc o).cell? ⟨tb + 1, 2, none⟩ = some (.slice b m c2) := fun o => cell_alloc (w := wr.drew) f2 o
              refine wp_region_noPanic ?_
              refine wp_region_held_drew (S := fun w' => w'.cell? ⟨tb, 0, none⟩ = some (.slice (some ⟨n0, 0, none⟩) n c1) ∧ w'.cell? ⟨tb, 2, none⟩ = some (.slice (some ⟨w0, 0, none⟩) n cw) ∧ w'.cell? ⟨n0, i, none⟩ = some (.int .i64 U) ∧ w'.cell? ⟨n0, k, none⟩ = some (.int .i64 V) ∧ w'.cell? ⟨w0, i, none⟩ = some (.slice (some ⟨h0, 0, none⟩) n n) ∧ w'.cell? ⟨h0, k, none⟩ = some (.int .i64 X)) (by kernel_rfl) ?_ (fun hHeld => ?_)
              · (try dsimp only); go_keep
              refine wpAnyH_take (i := 0) (oi := _) (v := ?_) rfl (by kernel_rfl) (by kernel_rfl) (by kernel_rfl) (fun _ _ _ h => h) (Or.inl ⟨by rfl, ?_⟩) (by assumption) ?_
              rotate_left
              · intro w hSw; (try dsimp only at hSw); go_simp; try with_reducible rfl
              try simp only [Act.put, List.setIfInBounds_toArray, List.set_cons_zero, List.set_cons_succ]
              refine wpAnyH_take (i := 2) (oi := _) (v := ?_) rfl (by kernel_rfl) (by kernel_rfl) (by kernel_rfl) (fun _ _ _ h => h) (Or.inl ⟨by rfl, ?_⟩) (by assumption) ?_
              rotate_left
              · intro w hSw; (try dsimp only at hSw); go_simp; try with_reducible rfl
              try simp only [Act.put, List.setIfInBounds_toArray, List.set_cons_zero, List.set_cons_succ]
              refine wpAnyH_take (i := 3) (oi := _) (v := ?_) rfl (by kernel_rfl) (by kernel_rfl) (by kernel_rfl) (fun _ _ _ h => h) (Or.inl ⟨by rfl, ?_⟩) (by assumption) ?_
              rotate_left
              · intro w hSw; (try dsimp only at hSw); go_simp; try with_reducible rfl
              try simp only [Act.put, List.setIfInBounds_toArray, List.set_cons_zero, List.set_cons_succ]
              refine wpAnyH_take (i := 4) (oi := _) (v := ?_) rfl (by kernel_rfl) (by kernel_rfl) (by kernel_rfl) (fun _ _ _ h => h) (Or.inl ⟨by rfl, ?_⟩) (by assumption) ?_
              rotate_left
              · intro w hSw; (try dsimp only at hSw); go_simp; try with_reducible rfl
              try simp only [Act.put, List.setIfInBounds_toArray, List.set_cons_zero, List.set_cons_succ]
              refine wpAnyH_take (i := 5) (oi := _) (v := ?_) rfl (by kernel_rfl) (by kernel_rfl) (by kernel_rfl) (fun _ _ _ h => h) (Or.inl ⟨by rfl, ?_⟩) (by assumption) ?_
              rotate_left
              · intro w hSw; (try dsimp only at hSw); go_simp; try with_reducible rfl
              try simp only [Act.put, List.setIfInBounds_toArray, List.set_cons_zero, List.set_cons_succ]
              refine wpAnyH_take (i := 6) (oi := _) (v := ?_) rfl (by kernel_rfl) (by kernel_rfl) (by kernel_rfl) (fun _ _ _ h => h) (Or.inl ⟨by rfl, ?_⟩) (by assumption) ?_
              rotate_left
              · intro w hSw; (try dsimp only at hSw); go_simp; try with_reducible rfl
              try simp only [Act.put, List.setIfInBounds_toArray, List.set_cons_zero, List.set_cons_succ]
              refine wpAnyH_take (i := 7) (oi := _) (v := ?_) rfl (by kernel_rfl) (by kernel_rfl) (by kernel_rfl) (fun _ _ _ h => h) (Or.inl ⟨by rfl, ?_⟩) (by assumption) ?_
              rotate_left
              · intro w hSw; (try dsimp only at hSw); go_simp; try with_reducible rfl
              try simp only [Act.put, List.setIfInBounds_toArray, List.set_cons_zero, List.set_cons_succ]
              refine wpAnyH_take (i := 8) (oi := _) (v := ?_) rfl (by kernel_rfl) (by kernel_rfl) (by kernel_rfl) (fun _ _ _ h => h) (Or.inl ⟨by rfl, ?_⟩) (by assumption) ?_
              rotate_left
              · intro w hSw; (try dsimp only at hSw); go_simp; try with_reducible rfl
              try simp only [Act.put, List.setIfInBounds_toArray, List.set_cons_zero, List.set_cons_succ]
              refine wpAnyH_take (i := 9) (oi := _) (v := ?_) rfl (by kernel_rfl) (by kernel_rfl) (by kernel_rfl) (fun _ _ _ h => h) (Or.inl ⟨by rfl, ?_⟩) (by assumption) ?_
              rotate_left
              · intro w hSw; (try dsimp only at hSw); go_simp; try with_reducible rfl
              try simp only [Act.put, List.setIfInBounds_toArray, List.set_cons_zero, List.set_cons_succ]
              refine wpAnyH_take (i := 10) (oi := _) (v := ?_) rfl (by kernel_rfl) (by kernel_rfl) (by kernel_rfl) (fun _ _ _ h => h) (Or.inl ⟨by rfl, ?_⟩) (by assumption) ?_
              rotate_left
              · intro w hSw; (try dsimp only at hSw); go_simp; try with_reducible rfl
              try simp only [Act.put, List.setIfInBounds_toArray, List.set_cons_zero, List.set_cons_succ]
              refine wpAnyH_take (i := 11) (oi := _) (v := ?_) rfl (by kernel_rfl) (by kernel_rfl) (by kernel_rfl) (fun _ _ _ h => h) (Or.inl ⟨by rfl, ?_⟩) (by assumption) ?_
              rotate_left
              · intro w hSw; (try dsimp only at hSw); go_simp; try with_reducible rfl
              try simp only [Act.put, List.setIfInBounds_toArray, List.set_cons_zero, List.set_cons_succ]
              refine wpAnyH_take (i := 12) (oi := _) (v := ?_) rfl (by kernel_rfl) (by kernel_rfl) (by kernel_rfl) (fun _ _ _ h => h) (Or.inl ⟨by rfl, ?_⟩) (by assumption) ?_
              rotate_left
              · intro w hSw; (try dsimp only at hSw); go_simp; try with_reducible rfl
              try simp only [Act.put, List.setIfInBounds_toArray, List.set_cons_zero, List.set_cons_succ]
              refine wpAnyH_take (i := 13) (oi := _) (v := ?_) rfl (by kernel_rfl) (by kernel_rfl) (by kernel_rfl) (fun _ _ _ h => h) (Or.inl ⟨by rfl, ?_⟩) (by assumption) ?_
              rotate_left
              · intro w hSw; (try dsimp only at hSw); go_simp; try with_reducible rfl
              try simp only [Act.put, List.setIfInBounds_toArray, List.set_cons_zero, List.set_cons_succ]
              refine wpAnyH_take (i := 14) (oi := _) (v := ?_) rfl (by kernel_rfl) (by kernel_rfl) (by kernel_rfl) (fun _ _ _ h => h) (Or.inl ⟨by rfl, ?_⟩) (by assumption) ?_
              rotate_left
              · intro w hSw; (try dsimp only at hSw); go_simp; try with_reducible rfl
              try simp only [Act.put, List.setIfInBounds_toArray, List.set_cons_zero, List.set_cons_succ]
              refine wpAnyH_take (i := 15) (oi := _) (v := ?_) rfl (by kernel_rfl) (by kernel_rfl) (by kernel_rfl) (fun _ _ _ h => h) (Or.inl ⟨by rfl, ?_⟩) (by assumption) ?_
              rotate_left
              · intro w hSw; (try dsimp only at hSw); go_simp; try with_reducible rfl
              try simp only [Act.put, List.setIfInBounds_toArray, List.set_cons_zero, List.set_cons_succ]
              refine wpAnyH_take (i := 16) (oi := _) (v := ?_) rfl (by kernel_rfl) (by kernel_rfl) (by kernel_rfl) (fun _ _ _ h => h) (Or.inl ⟨by rfl, ?_⟩) (by assumption) ?_
              rotate_left
              · intro w hSw; (try dsimp only at hSw); go_simp; try with_reducible rfl
              try simp only [Act.put, List.setIfInBounds_toArray, List.set_cons_zero, List.set_cons_succ]
              refine wpAnyH_take (i := 17) (oi := _) (v := ?_) rfl (by kernel_rfl) (by kernel_rfl) (by kernel_rfl) (fun _ _ _ h => h) (Or.inl ⟨by rfl, ?_⟩) (by assumption) ?_
              rotate_left
              · intro w hSw; (try dsimp only at hSw); go_simp; try with_reducible rfl
              try simp only [Act.put, List.setIfInBounds_toArray, List.set_cons_zero, List.set_cons_succ]
              refine wpAnyH_take (i := 18) (oi := _) (v := ?_) rfl (by kernel_rfl) (by kernel_rfl) (by kernel_rfl) (fun _ _ _ h => h) (Or.inl ⟨by rfl, ?_⟩) (by assumption) ?_
              rotate_left
              · intro w hSw; (try dsimp only at hSw); go_simp; try with_reducible rfl
              try simp only [Act.put, List.setIfInBounds_toArray, List.set_cons_zero, List.set_cons_succ]
              refine wpAnyH_take (i := 19) (oi := _) (v := ?_) rfl (by kernel_rfl) (by kernel_rfl) (by kernel_rfl) (fun _ _ _ h => h) (Or.inl ⟨by rfl, ?_⟩) (by assumption) ?_
              rotate_left
              · intro w hSw; (try dsimp only at hSw); go_simp; try with_reducible rfl
              try simp only [Act.put, List.setIfInBounds_toArray, List.set_cons_zero, List.set_cons_succ]
              refine wpAnyH_take (i := 20) (oi := _) (v := ?_) rfl (by kernel_rfl) (by kernel_rfl) (by kernel_rfl) (fun _ _ _ h => h) (Or.inl ⟨by rfl, ?_⟩) (by assumption) ?_
              rotate_left
              · intro w hSw; (try dsimp only at hSw); go_simp; try with_reducible rfl
              try simp only [Act.put, List.setIfInBounds_toArray, List.set_cons_zero, List.set_cons_succ]
              refine wpAnyH_ready (rs := [1, 21]) (by kernel_rfl) (by simp) ?_
              refine AllReadyH.cons (o := _) rfl (fun K hK => ?_) ?_
              · skip
                go_simp
                refine hK.out _ _ ?_ (fun hHeld => ?_)
                · (try dsimp only); go_keep
                clear hK K
                try simp only [Act.put, List.setIfInBounds_toArray, List.set_cons_zero, List.set_cons_succ]
                refine wpAnyH_ready (rs := [21]) (by kernel_rfl) (by simp) ?_
                refine AllReadyH.cons (o := _) rfl (fun K hK => ?_) ?_
                · skip
                  go_simp
                  refine hK.out _ _ ?_ (fun hHeld => ?_)
                  · (try dsimp only); go_keep
                  clear hK K
                  try simp only [Act.put, List.setIfInBounds_toArray, List.set_cons_zero, List.set_cons_succ]
                  refine wpAnyH_ready (rs := [22]) (by kernel_rfl) (by simp) ?_
                  refine AllReadyH.cons (o := _) rfl (fun K hK => ?_) ?_
                  · skip
                    refine step_append_lies _ rfl (.tmp 46) (.tmp 66) 23 rfl w5.heap.size 33 i0 (.agg #[.int .i64 0, .int .i64 0, .int .i64 0]) 3 24 Tryz.underlying23 hi0 hz0 hz1 hz2 rfl (by omega) (.slice b m c2) m (edgeCells es) rfl (ho.out _) ⟨wr.heap.size, 0, none⟩ 1 1 [.int .i64 U, .int .i64 V, .int .i64 X] rfl rfl hnew.out (one_edge _ _ _) (by omega) (by unfold maxLen; omega) (by omega) (by show _ ≤ ((wr.drew).alloc _).heap.size; simp; omega) (wr.heap.size + 1) (by simp) ?_
                    intro g2 c3 w6 hown6 hg6 hat6 _
                    obtain ⟨s1, s2, s3⟩ := hgh.out.add (x := (U, V, X)) hmh.out hg6 hown6
                    have s4 := hKc.out w6 (hgh.out.mid hg6)
                    have s7 := fun v => hKc.out _ (hgh.out.mid2 hg6 v)
                    clear hown6 hg6 hat6
                    refine hK.out _ _ ?_ (fun hHeld => ?_)
                    · (try dsimp only); exact s4
                    clear hK K
                    try simp only [Act.put, List.setIfInBounds_toArray, List.set_cons_zero, List.set_cons_succ]
                    refine wpAnyH_take (i := 23) (oi := _) (v := ?_) rfl (by kernel_rfl) (by kernel_rfl) (by kernel_rfl) (fun _ _ _ h => h) (Or.inl ⟨by rfl, ?_⟩) (by assumption) ?_
                    rotate_left
                    · intro w hSw; (try dsimp only at hSw); go_simp; try with_reducible rfl
                    try simp only [Act.put, List.setIfInBounds_toArray, List.set_cons_zero, List.set_cons_succ]
                    refine wpAnyH_ready (rs := [24]) (by kernel_rfl) (by simp) ?_
                    refine AllReadyH.cons (o := _) rfl (fun K hK => ?_) ?_
                    · skip
                      go_simp
                      refine hK.out _ _ ?_ (fun hHeld => ?_)
                      · (try dsimp only); exact s7 _
                      clear hK K
                      try simp only [Act.put, List.setIfInBounds_toArray, List.set_cons_zero, List.set_cons_succ]
                      refine wpAnyH_done (by kernel_rfl) ?_ _
                      refine NoPanic.normal ?_
                      go_wp2_with fail
                      go_roundw
                      case rel => exact ⟨k + 1, m + 1, _, _, by omega, by go_num, by rw [hes.out, List.length_append, ← hmh.out]; rfl, by rw [hes.out]; exact s3.out⟩
                      case measure => simp [intOf]; omega
                    exact AllReadyH.nil
                  exact AllReadyH.nil
                exact AllReadyH.nil
              refine AllReadyH.cons (o := _) rfl (fun K hK => ?_) ?_
              · skip
                go_simp
                refine hK.out _ _ ?_ (fun hHeld => ?_)
                · (try dsimp only); go_keep
                clear hK K
                try simp only [Act.put, List.setIfInBounds_toArray, List.set_cons_zero, List.set_cons_succ]
                refine wpAnyH_ready (rs := [1]) (by kernel_rfl) (by simp) ?_
                refine AllReadyH.cons (o := _) rfl (fun K hK => ?_) ?_
                · skip
                  go_simp
                  refine hK.out _ _ ?_ (fun hHeld => ?_)
                  · (try dsimp only); go_keep
                  clear hK K
                  try simp only [Act.put, List.setIfInBounds_toArray, List.set_cons_zero, List.set_cons_succ]
                  refine wpAnyH_ready (rs := [22]) (by kernel_rfl) (by simp) ?_
                  refine AllReadyH.cons (o := _) rfl (fun K hK => ?_) ?_
                  · skip
                    refine step_append_lies _ rfl (.tmp 46) (.tmp 66) 23 rfl w5.heap.size 33 i0 (.agg #[.int .i64 0, .int .i64 0, .int .i64 0]) 3 24 Tryz.underlying23 hi0 hz0 hz1 hz2 rfl (by omega) (.slice b m c2) m (edgeCells es) rfl (ho.out _) ⟨wr.heap.size, 0, none⟩ 1 1 [.int .i64 U, .int .i64 V, .int .i64 X] rfl rfl hnew.out (one_edge _ _ _) (by omega) (by unfold maxLen; omega) (by omega) (by show _ ≤ ((wr.drew).alloc _).heap.size; simp; omega) (wr.heap.size + 1) (by simp) ?_
                    intro g2 c3 w6 hown6 hg6 hat6 _
                    obtain ⟨s1, s2, s3⟩ := hgh.out.add (x := (U, V, X)) hmh.out hg6 hown6
                    have s4 := hKc.out w6 (hgh.out.mid hg6)
                    have s7 := fun v => hKc.out _ (hgh.out.mid2 hg6 v)
                    clear hown6 hg6 hat6
                    refine hK.out _ _ ?_ (fun hHeld => ?_)
                    · (try dsimp only); exact s4
                    clear hK K
                    try simp only [Act.put, List.setIfInBounds_toArray, List.set_cons_zero, List.set_cons_succ]
                    refine wpAnyH_take (i := 23) (oi := _) (v := ?_) rfl (by kernel_rfl) (by kernel_rfl) (by kernel_rfl) (fun _ _ _ h => h) (Or.inl ⟨by rfl, ?_⟩) (by assumption) ?_
                    rotate_left
                    · intro w hSw; (try dsimp only at hSw); go_simp; try with_reducible rfl
                    try simp only [Act.put, List.setIfInBounds_toArray, List.set_cons_zero, List.set_cons_succ]
                    refine wpAnyH_ready (rs := [24]) (by kernel_rfl) (by simp) ?_
                    refine AllReadyH.cons (o := _) rfl (fun K hK => ?_) ?_
                    · skip
                      go_simp
                      refine hK.out _ _ ?_ (fun hHeld => ?_)
                      · (try dsimp only); exact s7 _
                      clear hK K
                      try simp only [Act.put, List.setIfInBounds_toArray, List.set_cons_zero, List.set_cons_succ]
                      refine wpAnyH_done (by kernel_rfl) ?_ _
                      refine NoPanic.normal ?_
                      go_wp2_with fail
                      go_roundw
                      case rel => exact ⟨k + 1, m + 1, _, _, by omega, by go_num, by rw [hes.out, List.length_append, ← hmh.out]; rfl, by rw [hes.out]; exact s3.out⟩
                      case measure => simp [intOf]; omega
                    exact AllReadyH.nil
                  exact AllReadyH.nil
                exact AllReadyH.nil
              exact AllReadyH.nil
          · have hcf : (q && (d || decide (i < k))) = false := by simpa using hcond
            have hes := Lib.hid (hstay.out hcf)
            clear hnext hstay hgh ho hnew hcond
            have hqd : q = false ∨ (q = true ∧ d = false ∧ ¬ i < k) := by cases q <;> cases d <;> simp_all
            clear hcf
            rcases hqd with rfl | ⟨rfl, rfl, hik⟩
            all_goals
              go_wp2_with fail
              go_roundw
              case rel => exact ⟨k + 1, m, b, c2, by omega, by go_num, by rw [hes.out]; exact hmh.out, by rw [hes.out]; exact hEh.out⟩
              case measure => simp [intOf]; omega
        · have hkn : k = n := by omega
          subst hkn
          have hfin : Hid (m = (plainUp A ta tw d (i + 1)).length ∧ EG w5 wr (tb + 1) d (.slice a1 k c1) (plainUp A ta tw d (i + 1)) (.slice b m c2)) := by
            unfold Hid
            rw [plainUp_succ, ← hnA.out]
            exact ⟨hm, hE⟩
          clear hE hm hbw d1 d2
          go_wp2_with fail
          go_roundw
          case rel => exact ⟨i + 1, m, b, c2, by omega, by go_num, hfin.out.1, hfin.out.2⟩
          case measure => simp [intOf]; omega
    · have hin : i = n := by omega
      subst hin
      rw [hpe.out] at hm hE
      have o0 := hE.at0
      have o1 := hE.at1
      have o2 := hE.at2
      have dz := (hbw.block _ hlt3.out).trans kz3.out
      obtain ⟨y0, y1, y2, y3, y4, y5, y6, y7, y8⟩ := ebox3 dz (.bool d) (.slice a1 i c1) (.slice b m c2)
      have hfin : Hid (PlainOwn w g (.returned (.agg #[.bool d, .slice a1 i c1, .slice b m c2])) (((wr.setCell ⟨w.heap.size + 1, 0, none⟩ (.bool d)).setCell ⟨w.heap.size + 1, 1, none⟩ (.slice a1 i c1)).setCell ⟨w.heap.size + 1, 2, none⟩ (.slice b m c2))) := by
        have hn1 := hn1h.out
        unfold Hid
        rw [hnA.out, hAh.out] at hE hn1 ⊢
        exact plainO_done (by omega) hlt3.out hlt5.out hm hE b3.out hbw hdh.out hn1
      clear hE hm hbw hpe hn1h hEh hmh dz
      go_wp2_with fail
      (try simp only [Exit.inBlock, Exit.then])
      refine bodyPost_ret (v := .agg #[.bool d, .slice a1 i c1, .slice b m c2]) (by simp [results, show Tryz.func8.results = #[.cell 2 25] from rfl, go_sem, y6, y7, y8]) rfl ?_
      exact hfin.out
end Go.Proofs.YtgkimjjodhnmiaaGreat
