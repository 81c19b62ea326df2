/- A row of edges whose weights are doubled, one after the other: no program in sight but for a type's number.
   Equal graphs: slices.Equal at []impl.Edge, laws.sameGraph.
   laws.merges; laws.FnUndirectMergedCopy: the walk.
   For every input, laws.FnUndirectMergedCopy returns true, and its arguments read as they did: an undirected graph (of at most 30 nodes) that is copied into a directed one, without its directions, is itself again, with its weights by the lesser and the greater one, with twice as great weights by their sum, whatever stands for what is absent.
   No condition is laid on the input: what the law itself lets by (graphs that are none, or too large, directed ones, too great numbers) is answered true by the law.
   laws.FnUndirectMergedCopy: the walk.
   For every input, laws.FnUndirectMergedCopy returns true, and its arguments read as they did: an undirected graph (of at most 30 nodes) that is copied into a directed one, without its directions, is itself again, with its weights by the lesser and the greater one, with twice as great weights by their sum, whatever stands for what is absent.
   No condition is laid on the input: what the law itself lets by (graphs that are none, or too large, directed ones, too great numbers) is answered true by the law. -/
import Derived.Test.YtgkimjjodhnmiaaGreatMrgLaw
import Derived.Test.YtgkimjjodhnmiaaGreatEqRows
import Derived.Laws.OwnMore
import Derived.Deep.QuietTactic
import Derived.BigQuiet
import Derived.Test.YtgkimjjodhnmiaaGreatUImplA
import Derived.Test.YtgkimjjodhnmiaaGreatPlainO
import Derived.Test.YtgkimjjodhnmiaaGreatCopyUI
import Derived.Test.YtgkimjjodhnmiaaGreatFewOf
import Derived.Test.YtgkimjjodhnmiaaGreatRowBase
import Derived.Deep.RegionHeld3
import Derived.Deep.DrawnRows
import Derived.BigRegion
namespace Go.Proofs.YtgkimjjodhnmiaaGreat
open Go.RowKit

/-- The first k edges doubled. -/
def mixE (es : List (Int × Int × Int)) (k : Nat) : List (Int × Int × Int) := dblE (es.take k) ++ es.drop k
theorem mixE_zero (es : List (Int × Int × Int)) : mixE es 0 = es := by simp [mixE, dblE]
theorem mixE_all (es : List (Int × Int × Int)) : mixE es es.length = dblE es := by simp [mixE]
theorem mixE_len (es : List (Int × Int × Int)) (k : Nat) : (mixE es k).length = es.length := by
  simp only [mixE, dblE, List.length_append, List.length_map, List.length_take, List.length_drop]; omega
theorem mixE_at {es : List (Int × Int × Int)} {k : Nat} (h : k < es.length) : mixE es k = dblE (es.take k) ++ es[k] :: es.drop (k + 1) := by
  unfold mixE; rw [List.drop_eq_getElem_cons h]
theorem mixE_get {es : List (Int × Int × Int)} {k : Nat} (h : k < es.length) : (mixE es k)[k]'(by rw [mixE_len]; exact h) = es[k] := by
  have e : (dblE (es.take k)).length = k := by simp [dblE]; omega
  simp only [mixE_at h]
  rw [List.getElem_append_right (by omega)]
  simp [e]
theorem edge_set (A B : List (Int × Int × Int)) (x y z z' : Int) : (edgeCells (A ++ (x, y, z) :: B)).set (A.length * 3 + 2) (.int .i64 z') = edgeCells (A ++ (x, y, z') :: B) := by
  have e : ∀ z, edgeCells (A ++ (x, y, z) :: B) = edgeCells A ++ (.int .i64 x :: .int .i64 y :: .int .i64 z :: edgeCells B) := fun z => by simp [edgeCells]
  rw [e, e, List.set_append_right _ _ (by rw [edgeCells_length]; omega), edgeCells_length, Nat.add_sub_cancel_left]
  rfl
theorem mixE_succ {es : List (Int × Int × Int)} {k : Nat} (h : k < es.length) : (edgeCells (mixE es k)).set (k * 3 + 2) (.int .i64 (2 * es[k].2.2)) = edgeCells (mixE es (k + 1)) := by
  have e : (dblE (es.take k)).length = k := by simp [dblE]; omega
  rw [mixE_at h]
  have h1 := edge_set (dblE (es.take k)) (es.drop (k + 1)) es[k].1 es[k].2.1 es[k].2.2 (2 * es[k].2.2)
  rw [e] at h1
  have h2 : mixE es (k + 1) = dblE (es.take k) ++ (es[k].1, es[k].2.1, 2 * es[k].2.2) :: es.drop (k + 1) := by
    unfold mixE
    rw [List.take_succ_eq_append_getElem h]
    unfold dblE
    rw [List.map_append, List.append_assoc]
    rfl
  rw [h2]
  exact h1

set_option maxRecDepth 100000 in
set_option maxHeartbeats 1000000 in
theorem eqEdges2_true (a1 a2 : Option Addr) (n c1 c2 : Nat) (es : List (Int × Int × Int)) (w : World) (hn : n = es.length) (hs : es.length ≤ 1048576) (h1 : Cells w a1 (edgeCells es)) (h2 : Cells w a2 (edgeCells es)) :
    Calls Tryz.prog 26 #[.slice a1 n c1, .slice a2 n c2] w fun e w' => e = .returned (.bool true) ∧ ∃ q, w' = w.drewN q := by
  subst hn
  have h1h := Lib.hid h1
  have h2h := Lib.hid h2
  clear h1 h2
  go_enter Tryz.func26, Tryz.ntmps26
  go_wp2
  go_loopw [13] (fun i wr => ∃ k q : Nat, k ≤ es.length ∧ i = .int .i64 k ∧ wr = w.drewN q) (fun i _ => es.length - (intOf i).toNat)
  case atStart => exact ⟨0, 0, Nat.zero_le _, rfl, rfl⟩
  case round =>
    obtain ⟨k, q, hk, rfl, rfl⟩ := hrel
    by_cases hlt : k < es.length
    · obtain ⟨b1, o1, rfl, _, r1⟩ := h1h.out.at (by rw [edgeCells_length]; omega)
      obtain ⟨b2, o2, rfl, _, r2⟩ := h2h.out.at (by rw [edgeCells_length]; omega)
      obtain ⟨k1, k2, k3⟩ := edge_cells r1 hlt
      obtain ⟨m1, m2, m3⟩ := edge_cells r2 hlt
      obtain ⟨x, hx⟩ : ∃ x, x = es[k].1 := ⟨_, rfl⟩
      obtain ⟨y, hy⟩ : ∃ y, y = es[k].2.1 := ⟨_, rfl⟩
      obtain ⟨z, hz⟩ : ∃ z, z = es[k].2.2 := ⟨_, rfl⟩
      rw [← hx] at k1 m1
      rw [← hy] at k2 m2
      rw [← hz] at k3 m3
      clear hx hy hz r1 r2
      go_wp2
      go_quiet (fail)
      go_wp2
      go_roundw
      case rel => exact ⟨k + 1, _, by omega, by go_num, rfl⟩
      case measure => simp [intOf]; omega
    · go_wp2
      go_ret
      exact ⟨rfl, _, rfl⟩

set_option maxRecDepth 100000 in
set_option maxHeartbeats 1000000 in
theorem sameGraph2_true (d : Bool) (ns : List Int) (es : List (Int × Int × Int)) (a1 a2 b1 b2 : Option Addr) (n m c1 c2 e1 e2 : Nat) (w : World) (hn : n = ns.length) (hm : m = es.length) (hns : ns.length ≤ 1048576) (hes : es.length ≤ 1048576)
    (h1 : Cells w a1 (ints ns)) (h2 : Cells w b1 (ints ns)) (h3 : Cells w a2 (edgeCells es)) (h4 : Cells w b2 (edgeCells es)) :
    Calls Tryz.prog 9 #[.agg #[.bool d, .slice a1 n c1, .slice a2 m e1], .agg #[.bool d, .slice b1 n c2, .slice b2 m e2]] w fun e w' => e = .returned (.bool true) ∧ Below w.heap.size w w' := by
  obtain ⟨w1, hw1⟩ : ∃ w1, w1 = w.alloc (.cells #[.bool d, .slice a1 n c1, .slice a2 m e1] 25) := ⟨_, rfl⟩
  obtain ⟨w2, hw2⟩ : ∃ w2, w2 = w1.alloc (.cells #[.bool d, .slice b1 n c2, .slice b2 m e2] 25) := ⟨_, rfl⟩
  have bb1 : Below w.heap.size w w1 := by rw [hw1]; exact alloc_below _ _
  have z1 : w1.heap.size = w.heap.size + 1 := by rw [hw1]; simp
  have b12 : Below w1.heap.size w1 w2 := by rw [hw2]; exact alloc_below _ _
  have hb2 : Below w.heap.size w w2 := bb1.trans (b12.mono (by omega))
  have x0 : w2.cell? ⟨w.heap.size, 0, none⟩ = some (.bool d) := cell_below b12 (by rw [hw1]; simp)
  have x1 : w2.cell? ⟨w.heap.size, 1, none⟩ = some (.slice a1 n c1) := cell_below b12 (by rw [hw1]; simp)
  have x2 : w2.cell? ⟨w.heap.size, 2, none⟩ = some (.slice a2 m e1) := cell_below b12 (by rw [hw1]; simp)
  have hlw2 : w.heap.size + 1 < w2.heap.size := by rw [hw2]; simp [z1]
  have y0 : w2.cell? ⟨w.heap.size + 1, 0, none⟩ = some (.bool d) := by rw [hw2, ← z1]; simp
  have y1 : w2.cell? ⟨w.heap.size + 1, 1, none⟩ = some (.slice b1 n c2) := by rw [hw2, ← z1]; simp
  have y2 : w2.cell? ⟨w.heap.size + 1, 2, none⟩ = some (.slice b2 m e2) := by rw [hw2, ← z1]; simp
  have hK : Hid (∀ q, (w2.drewN q).cell? ⟨w.heap.size, 2, none⟩ = some (.slice a2 m e1) ∧ (w2.drewN q).cell? ⟨w.heap.size + 1, 2, none⟩ = some (.slice b2 m e2) ∧ Calls Tryz.prog 26 #[.slice a2 m e1, .slice b2 m e2] (w2.drewN q) fun e w' => e = .returned (.bool true) ∧ ∃ q', w' = w2.drewN q') := fun q =>
    ⟨x2, y2, (eqEdges2_true a2 b2 m e1 e2 es _ hm hes ((h3.below hb2).drewN q) ((h4.below hb2).drewN q)).mono fun e w' ⟨k1, q', k2⟩ => ⟨k1, q + q', by rw [k2, World.drewN_drewN]⟩⟩
  have hei := eqInts_any a1 b1 n n c1 c2 ns ns w2 hn hn hns hns (h1.below hb2) (h2.below hb2)
  have hw2e : w2 = (w.alloc (.cells #[.bool d, .slice a1 n c1, .slice a2 m e1] 25)).alloc (.cells #[.bool d, .slice b1 n c2, .slice b2 m e2] 25) := by rw [hw2, hw1]
  have hdt : decide (ns = ns) = true := decide_eq_true rfl
  rw [hdt] at hei
  rw [hw2e] at hei
  have heih := Lib.hid hei
  have hw2h := Lib.hid hw2e
  have hb2h := Lib.hid hb2
  clear hw1 hw2 bb1 z1 b12 hb2 x0 x1 x2 hlw2 y0 y1 y2 hei hw2e h1 h2 h3 h4 hdt hn hm
  go_enter Tryz.func9, Tryz.ntmps9
  go_wp2_with fail
  refine (unhide heih).mono ?_
  rintro e w3 ⟨rfl, q, hq⟩
  rw [← hw2h.out] at hq
  subst hq
  obtain ⟨x2, y2, he⟩ := hK.out q
  have heh := Lib.hid he
  clear he heih hw2h
  go_wp2_with fail
  refine (unhide heh).mono ?_
  rintro e w4 ⟨rfl, q', rfl⟩
  clear heh x2 y2
  go_wp2_with fail
  go_ret
  exact ⟨rfl, below_draws hb2h.out q'⟩
end Go.Proofs.YtgkimjjodhnmiaaGreat

namespace Go.Proofs.YtgkimjjodhnmiaaGreat
open Go.RowKit

theorem cells_two {w : World} {g : Nat} {x y : Int} (h : w.heap[g]? = some (.cells #[.int .i64 x, .int .i64 y] 3 (0, 0))) : Cells w (some ⟨g, 0, none⟩) (ints [x, y]) := by
  refine Cells.mk (lt_of_block h) fun j u hj => ?_
  rw [cell_of_row w g (0 + j) _ _ _ h]
  have e : ints [x, y] = [.int .i64 x, .int .i64 y] := rfl
  rw [e] at hj
  simpa using hj
theorem cells_edge {w : World} {g : Nat} {x y z : Int} (h : w.heap[g]? = some (.cells #[.int .i64 x, .int .i64 y, .int .i64 z] 33 (0, 0))) : Cells w (some ⟨g, 0, none⟩) (edgeCells [(x, y, z)]) := by
  refine Cells.mk (lt_of_block h) fun j u hj => ?_
  rw [cell_of_row w g (0 + j) _ _ _ h]
  have e : edgeCells [(x, y, z)] = [.int .i64 x, .int .i64 y, .int .i64 z] := rfl
  rw [e] at hj
  simpa using hj

theorem heap_new_at {w : World} {o : Obj} {s : Nat} (h : w.heap.size = s) : (w.alloc o).heap[s]? = some o := by subst h; exact heap_alloc_new _ _

set_option maxRecDepth 100000 in
set_option maxHeartbeats 2000000 in
theorem merges_any (w : World) : Calls Tryz.prog 10 #[] w fun e w' => e = .returned (.bool true) ∧ Below w.heap.size w w' := by
  obtain ⟨w1, hw1⟩ : ∃ w1, w1 = w.alloc (.cells #[.int .i64 7, .int .i64 9] 3) := ⟨_, rfl⟩
  obtain ⟨w2, hw2⟩ : ∃ w2, w2 = w1.alloc (.cells #[.int .i64 9, .int .i64 7, .int .i64 3] 33) := ⟨_, rfl⟩
  have hb1 : Below w.heap.size w w1 := by rw [hw1]; exact alloc_below w _
  have hb12 : Below w1.heap.size w1 w2 := by rw [hw2]; exact alloc_below w1 _
  have hz1 : w1.heap.size = w.heap.size + 1 := by rw [hw1]; simp
  have hb2 : Below w.heap.size w w2 := hb1.trans (hb12.mono hb1.size)
  have c1 : Cells w2 (some ⟨w.heap.size, 0, none⟩) (ints [7, 9]) := (cells_two (by rw [hw1]; exact heap_alloc_new _ _)).below hb12
  have c2 : Cells w2 (some ⟨w1.heap.size, 0, none⟩) (edgeCells [(9, 7, 3)]) := cells_edge (by rw [hw2]; exact heap_alloc_new _ _)
  have h64 : ∀ x ∈ g97.nodes, In64 x := fun x hx => by
    have h : x = 7 ∨ x = 9 := by simpa [g97] using hx
    rcases h with rfl | rfl
    · show (Lit.int .i64 7).wf = true; rfl
    · show (Lit.int .i64 9).wf = true; rfl
  have hc := undW_any g97 (some ⟨w.heap.size, 0, none⟩) 2 (some ⟨w1.heap.size, 0, none⟩) 1 4 0 w2 (by show 2 ≤ 1000; omega) (by show 1 ≤ 1048576; omega) ⟨c1, c2, fun e => by cases e⟩ ok97 rfl h64 ⟨by omega, by omega⟩ (.inl rfl)
  rw [show g97.nodes.length = 2 from rfl, show g97.edges.length = 1 from rfl, und97, hz1] at hc
  have hw2e : w2 = (w.alloc (.cells #[.int .i64 7, .int .i64 9] 3)).alloc (.cells #[.int .i64 9, .int .i64 7, .int .i64 3] 33) := by rw [hw2, hw1]
  rw [hw2e] at hc
  have hch := Lib.hid hc
  have hb2h := Lib.hid hb2
  have hw2h := Lib.hid hw2e
  clear hw1 hw2 hb1 hb12 hb2 c1 c2 h64 hc hw2e hz1
  go_enter Tryz.func10, Tryz.ntmps10
  go_wp2_with fail
  refine (unhide hch).mono ?_
  rintro e w3 ⟨a, c, a', c', rfl, hG, hb3⟩
  rw [← hw2h.out] at hb3
  have hbw : Below w.heap.size w w3 := hb2h.out.trans (hb3.mono hb2h.out.size)
  have hS : Hid (∀ W b1 b2, Below w3.heap.size w3 W → W.heap[b1]? = some (.cells #[.int .i64 7, .int .i64 9] 3 (0, 0)) → W.heap[b2]? = some (.cells #[.int .i64 7, .int .i64 9, .int .i64 7] 33 (0, 0)) →
      Calls Tryz.prog 9 #[.agg #[.bool false, .slice a 2 c, .slice a' 1 c'], .agg #[.bool false, .slice (some ⟨b1, 0, none⟩) 2 2, .slice (some ⟨b2, 0, none⟩) 1 1]] W fun e w' => e = .returned (.bool true) ∧ Below w.heap.size w w') := fun W b1 b2 hW h1 h2 =>
    (sameGraph2_true false [7, 9] [(7, 9, 7)] a a' (some ⟨b1, 0, none⟩) (some ⟨b2, 0, none⟩) 2 1 c 2 c' 1 W rfl rfl (by simp) (by simp) (hG.nodes.below hW) (cells_two h1) (hG.edges.below hW) (cells_edge h2)).mono fun _ _ ⟨e1, hb⟩ => ⟨e1, (hbw.trans (hW.mono hbw.size)).trans (hb.mono (by have := hbw.size; have := hW.size; omega))⟩
  have l2 : ([7, 9] : List Int).length = 2 := rfl
  have l1 : ([(7, 9, 7)] : List (Int × Int × Int)).length = 1 := rfl
  clear hG hb3 hbw hch hw2h hb2h
  go_wp2_with fail
  refine (hS.out _ _ _ (by repeat (first | exact Below.refl _ _ | apply belowA)) (by rw [Below.heap_alloc _ _ _ (by simp)]; exact heap_alloc2_new w3 _ _) (heap_new_at (by simp))).mono ?_
  rintro e w4 ⟨rfl, hb4⟩
  have hb4h := Lib.hid hb4
  clear hb4 hS
  go_wp2_with fail
  go_ret
  exact ⟨rfl, hb4h.out⟩
end Go.Proofs.YtgkimjjodhnmiaaGreat

namespace Go.Proofs.YtgkimjjodhnmiaaGreat
open Go.RowKit

/-- The edges' weights as they are stored. -/
theorem dbl_wrap {z : Int} (h : z ≤ 1099511627776 ∧ -1099511627776 ≤ z) : wrap64 (2 * z) = 2 * z := by unfold wrap64; omega

theorem plain_le {g : Gr} (hok : okGraph g = true) : ∀ e ∈ plainE g, e.2.2 ≤ 1099511627776 ∧ -1099511627776 ≤ e.2.2 := fun e he => by
  rw [plainE_w hok] at he
  rw [(seenW_mem.1 he).2.2.2]
  exact wOf_le hok _ _

/-- While the weights are doubled. -/
structure Dbl (wq wr : World) (lo b13 : Nat) (na : Value) (ae : Option Addr) (m ce : Nat) (es : List (Int × Int × Int)) (k : Nat) : Prop where
  row : wr.ownsRow lo 33 3 (.slice ae m ce) m (edgeCells (mixE es k))
  kp : wq.grownBy wr (Value.slice ae m ce).ownBlock
  lq : lo ≤ wq.heap.size
  c13 : wr.heap[b13]? = some (.cells #[.bool false, na, .slice ae m ce] 25 (0, 0))
  ne : (Value.slice ae m ce).ownBlock ≠ some b13

theorem Dbl.step {wq wr : World} {lo b13 g m ce k : Nat} {na : Value} {es : List (Int × Int × Int)} (h : Dbl wq wr lo b13 na (some ⟨g, 0, none⟩) m ce es k) (hk : k < es.length) (q : Nat) :
    Dbl wq ((wr.drewN q).setCell ⟨g, k * 3 + 2, none⟩ (.int .i64 (2 * es[k].2.2))) lo b13 na (some ⟨g, 0, none⟩) m ce es (k + 1) := by
  have hrow : (wr.drewN q).ownsRow lo 33 3 (.slice (some ⟨g, 0, none⟩) m ce) m (edgeCells (mixE es k)) := owns_same h.row fun _ _ => rfl
  obtain ⟨h1, h2⟩ := hrow.stored (k * 3 + 2) (.int .i64 (2 * es[k].2.2))
  rw [mixE_succ hk] at h1
  have hne : g ≠ b13 := fun e => h.ne (by rw [e]; rfl)
  refine ⟨h1, ⟨h2.os.trans h.kp.os, h2.tape.trans h.kp.tape, h2.output.trans h.kp.output, Nat.le_trans h.kp.size h2.size, fun j hj hn => ?_⟩, h.lq, ?_, h.ne⟩
  · have hn' : some g ≠ some j := fun e => hn e.symm
    rw [h2.block j (Nat.lt_of_lt_of_le hj h.kp.size) (fun e => hn' e.symm)]
    exact h.kp.block j hj hn
  · rw [Below.heap_setCell _ _ _ _ (show b13 ≠ g from Ne.symm hne)]
    exact h.c13

set_option maxRecDepth 100000 in
set_option maxHeartbeats 8000000 in
theorem mrgFn_any (g : Gr) (an : Option Addr) (cn : Nat) (ae : Option Addr) (ce : Nat) (ab : Int) (w : World) (hm : g.nodes.length ≤ 9223372036854775807) (hm' : g.edges.length ≤ 9223372036854775807) (hg : GrAt w g an cn ae) (h64 : ∀ x ∈ g.nodes, In64 x) :
    Calls Tryz.prog 3 #[.agg #[.bool g.dir, .slice an g.nodes.length cn, .slice ae g.edges.length ce], .int .i64 ab] w
      fun e w' => e = .returned (.bool true) ∧ Below w.heap.size w w' := by
  obtain ⟨w1, hw1⟩ : ∃ w1, w1 = w.alloc (.cells #[.bool g.dir, .slice an g.nodes.length cn, .slice ae g.edges.length ce] 25) := ⟨_, rfl⟩
  have hb1 : Below w.heap.size w w1 := by rw [hw1]; exact alloc_below w _
  have hz1 : w1.heap.size = w.heap.size + 1 := by rw [hw1]; simp
  have k0 : w1.cell? ⟨w.heap.size, 0, none⟩ = some (.bool g.dir) := by rw [hw1]; simp
  have k1 : w1.cell? ⟨w.heap.size, 1, none⟩ = some (.slice an g.nodes.length cn) := by rw [hw1]; simp
  have k2 : w1.cell? ⟨w.heap.size, 2, none⟩ = some (.slice ae g.edges.length ce) := by rw [hw1]; simp
  have hK : Hid (∀ wr, Below w1.heap.size w1 wr → (Below w.heap.size w wr ∧ GrAt wr g an cn ae) ∧ wr.cell? ⟨w.heap.size, 0, none⟩ = some (.bool g.dir) ∧ wr.cell? ⟨w.heap.size, 1, none⟩ = some (.slice an g.nodes.length cn) ∧ wr.cell? ⟨w.heap.size, 2, none⟩ = some (.slice ae g.edges.length ce)) :=
    fun wr h => ⟨⟨hb1.trans (h.mono (by omega)), (hg.below hb1).below h⟩, cell_below h k0, cell_below h k1, cell_below h k2⟩
  have hfits := Lib.hid (fits_any g an cn ae ce w1 hm hm')
  rw [hw1] at hfits
  have hw1h := Lib.hid hw1
  have h64h := Lib.hid h64
  have hwz : Hid (w1.heap.size = w.heap.size + 1) := hz1
  clear hg hb1 hw1 k0 k1 k2 h64 hz1
  go_enter Tryz.func3, Tryz.ntmps3
  go_wp2_with fail
  refine (unhide hfits).mono ?_
  rintro e w2 ⟨rfl, hb2⟩
  rw [← hw1h.out] at hb2
  obtain ⟨⟨hbw2, hg2⟩, c0, c1, c2⟩ := hK.out w2 hb2
  have hb2h := Lib.hid hb2
  have hbw2h := Lib.hid hbw2
  rcases hf : fitsB g with _ | _
  · clear hb2 hbw2
    go_wp2_with fail
    go_ret
    exact ⟨rfl, hbw2h.out⟩
  have hfew := Lib.hid (fewOf_any g an cn ae ce false w2 30 (by omega) hg2)
  obtain ⟨fw, hfw⟩ : ∃ fw, fw = (g.dir == false && fewB g 30) := ⟨_, rfl⟩
  rw [← hfw] at hfew
  have hfwh := Lib.hid hfw
  clear hb2 hbw2 hg2 hfits hfw hf
  go_wp2_with fail
  refine (unhide hfew).mono ?_
  rintro e w3 ⟨rfl, hb3⟩
  have hb3' := hb2h.out.trans (hb3.mono hb2h.out.size)
  obtain ⟨⟨hbw3, hg3⟩, d0, d1, d2⟩ := hK.out w3 hb3'
  have hbw3h := Lib.hid hbw3
  have hb3h := Lib.hid hb3'
  have hg3h := Lib.hid hg3
  clear hb3 hb3' hbw3 hg3 hfew c0 c1 c2
  cases fw
  · go_wp2_with fail
    go_ret
    exact ⟨rfl, hbw3h.out⟩
  by_cases ha1 : 1099511627776 < ab
  · have hd1 : decide (1099511627776 < ab) = true := decide_eq_true ha1
    go_wp2_with fail
    go_ret
    exact ⟨rfl, hbw3h.out⟩
  by_cases ha2 : ab < -1099511627776
  · have hd1 : decide (1099511627776 < ab) = false := decide_eq_false ha1
    have hd2 : decide (ab < -1099511627776) = true := decide_eq_true ha2
    go_wp2_with fail
    go_ret
    exact ⟨rfl, hbw3h.out⟩
  have hd1 : decide (1099511627776 < ab) = false := decide_eq_false ha1
  have hd2 : decide (ab < -1099511627776) = false := decide_eq_false ha2
  have hab : Hid (ab ≤ 1099511627776 ∧ -1099511627776 ≤ ab) := ⟨by omega, by omega⟩
  have hfw2 := hfwh.out.symm
  rw [Bool.and_eq_true] at hfw2
  have hdir : g.dir = false := by simpa using hfw2.1
  have hfw3 := hfw2.2
  unfold fewB at hfw3
  rw [Bool.and_eq_true, Bool.and_eq_true] at hfw3
  have hn30 : g.nodes.length ≤ 30 := of_decide_eq_true hfw3.1.1
  have he240 : g.edges.length ≤ 8 * 30 := of_decide_eq_true hfw3.1.2
  have hok := Lib.hid hfw3.2
  have hdirh := Lib.hid hdir
  have hcl := copy_len hok.out true (by omega)
  have hU0 := und_copy0 hok.out hdir ab
  have hU1 := und_copy12 hok.out hdir ab (.inl rfl : (1 : Int) = 1 ∨ (1 : Int) = 2)
  have hU2 := und_copy12 hok.out hdir ab (.inr rfl : (2 : Int) = 1 ∨ (2 : Int) = 2)
  obtain ⟨nc, hnc⟩ : ∃ nc, nc = (copyG g true).nodes.length := ⟨_, rfl⟩
  obtain ⟨mc, hmc⟩ : ∃ mc, mc = (copyG g true).edges.length := ⟨_, rfl⟩
  obtain ⟨na, hna⟩ : ∃ na, na = (asc g.nodes).length := ⟨_, rfl⟩
  obtain ⟨me, hme⟩ : ∃ me, me = (plainE g).length := ⟨_, rfl⟩
  have hma : na ≤ 30 := by rw [hna, asc_length]; omega
  have hmel : me ≤ 1048576 := by
    rw [hme, plainE_w hok.out]
    have := seenW_len g.dir (wOf g) (asc g.nodes) (gSucc g) 30 fun u => Nat.le_trans (gs_len hok.out u) (by omega)
    rw [← hna] at this
    have : na * 30 ≤ 30 * 30 := Nat.mul_le_mul_right _ hma
    omega
  -- the copy
  have hcp : Hid (Calls Tryz.prog 6 #[.agg #[.bool false, .slice an g.nodes.length cn, .slice ae g.edges.length ce], .bool true] w3 fun e w' => ∃ a1 c1 a2 c2, e = .returned (.tuple #[.agg #[.bool true, .slice a1 nc c1, .slice a2 mc c2], .bool false]) ∧ GrAt w' (copyG g true) a1 c1 a2 ∧ Below w3.heap.size w3 w') := by
    refine (copyIUD_any g an cn ae ce w3 (by omega) (by omega) hg3h.out hok.out hdir h64h.out).mono ?_
    rintro e w' ⟨a1, c1, a2, c2, rfl, h1, h2⟩
    exact ⟨a1, c1, a2, c2, by rw [hnc, hmc]; rfl, h1, h2⟩
  -- without its directions
  have hund : Hid (∀ W a1 c1 a2 c2, GrAt W (copyG g true) a1 c1 a2 → ∀ how, HowOk how → Calls Tryz.prog 7 #[.agg #[.bool true, .slice a1 nc c1, .slice a2 mc c2], .int .i64 ab, .int .i64 how] W fun e w' => ∃ x cx y cy, e = .returned (.tuple #[.agg #[.bool false, .slice x na cx, .slice y me cy], .bool false]) ∧ (Cells w' x (ints (asc g.nodes)) ∧ Cells w' y (edgeCells (if how = 0 then dblE (plainE g) else plainE g))) ∧ Below W.heap.size W w') := fun W a1 c1 a2 c2 hG how hh => by
    have h := undW_any (copyG g true) a1 c1 a2 c2 ab how W hcl.1 hcl.2 hG (copy_ok hok.out true) rfl (fun x hx => h64h.out x (asc_mem.1 hx)) hab.out hh
    rw [← hnc, ← hmc] at h
    refine h.mono ?_
    rintro e w' ⟨x, cx, y, cy, rfl, h1, h2⟩
    have hl : (dblE (plainE g)).length = me := by rw [hme]; simp [dblE]
    rcases hh with rfl | rfl | rfl
    · rw [hU0] at h1 ⊢
      exact ⟨x, cx, y, cy, by simp only [hl, ← hna], ⟨h1.nodes, by rw [if_pos rfl]; exact h1.edges⟩, h2⟩
    · rw [hU1] at h1 ⊢
      exact ⟨x, cx, y, cy, by simp only [← hme, ← hna], ⟨h1.nodes, by rw [if_neg (by omega)]; exact h1.edges⟩, h2⟩
    · rw [hU2] at h1 ⊢
      exact ⟨x, cx, y, cy, by simp only [← hme, ← hna], ⟨h1.nodes, by rw [if_neg (by omega)]; exact h1.edges⟩, h2⟩
  -- in its plain form
  have hpl : Hid (∀ W, Below w1.heap.size w1 W → Calls Tryz.prog 8 #[.agg #[.bool false, .slice an g.nodes.length cn, .slice ae g.edges.length ce]] W fun e w' => ∃ a1 c1 a2 c2, e = .returned (.agg #[.bool false, .slice a1 na c1, .slice a2 me c2]) ∧ (Cells w' a1 (ints (asc g.nodes)) ∧ Cells w' a2 (edgeCells (plainE g))) ∧ Below W.heap.size W w' ∧
      w'.ownsRow W.heap.size 33 3 (.slice a2 me c2) me (edgeCells (plainE g)) ∧ ∀ j, (Value.slice a1 na c1).ownBlock = some j → (Value.slice a2 me c2).ownBlock ≠ some j) := fun W hW => by
    have h := plainO_any g an cn ae ce W (by omega) (by omega) (hK.out W hW).1.2 hok.out
    unfold PlainOwn at h
    rw [hdir, ← hna, ← hme] at h
    refine h.mono ?_
    rintro e w' ⟨a1, c1, a2, c2, rfl, h1, h2, h3, h4⟩
    exact ⟨a1, c1, a2, c2, rfl, ⟨h1.nodes, h1.edges⟩, h2, h3, h4⟩
  -- equal graphs
  have hsame : Hid (∀ W (es : List (Int × Int × Int)) x cx y cy x' cx' y' cy', me = es.length → Cells W x (ints (asc g.nodes)) → Cells W y (edgeCells es) → Cells W x' (ints (asc g.nodes)) → Cells W y' (edgeCells es) → Calls Tryz.prog 9 #[.agg #[.bool false, .slice x na cx, .slice y me cy], .agg #[.bool false, .slice x' na cx', .slice y' me cy']] W fun e w' => e = .returned (.bool true) ∧ Below W.heap.size W w') := fun W es x cx y cy x' cx' y' cy' hl h1 h2 h3 h4 =>
    sameGraph2_true false (asc g.nodes) es x y x' y' na me cx cx' cy cy' W hna hl (by omega) (by omega) h1 h3 h2 h4
  have hlen := Lib.hid hme
  have hnah := Lib.hid hna
  have hble := Lib.hid (plain_le hok.out)
  rw [hdir] at d0 hK
  obtain ⟨es, hes⟩ : ∃ es, es = plainE g := ⟨_, rfl⟩
  rw [← hes] at hpl hund hlen hble
  obtain ⟨ids, hids⟩ : ∃ ids, ids = asc g.nodes := ⟨_, rfl⟩
  rw [← hids] at hpl hund hsame hnah
  clear hfwh hfw2 hfw3 hm hm' hcl hnc hmc hna hme hg3h hU0 hU1 hU2 hdir hdirh ha1 ha2 hes hids hab
  obtain ⟨ng, hng⟩ : ∃ ng, ng = g.nodes.length := ⟨_, rfl⟩
  obtain ⟨mg, hmg⟩ : ∃ mg, mg = g.edges.length := ⟨_, rfl⟩
  rw [← hng] at hcp hpl hK d1
  rw [← hmg] at hcp hpl hK d2
  rw [← hng] at hn30
  rw [← hmg] at he240
  rw [← hng, ← hmg]
  clear hng hmg
  go_wp2_with fail
  refine (unhide hcp).mono ?_
  rintro e w4 ⟨a1, c1, a2, c2, rfl, hG4, hb4⟩
  have hb14 := hb3h.out.trans (hb4.mono hb3h.out.size)
  have hG4h := Lib.hid hG4
  have hu4 := Lib.hid (fun o => hund.out (w4.alloc o) a1 c1 a2 c2 (hG4.below (alloc_below w4 o)) 0 (.inl rfl))
  have hb14h := Lib.hid hb14
  clear hG4 hb4 hb14 hcp d0 d1 d2
  go_wp2_with fail
  refine (hu4.out _).mono ?_
  rintro e w5 ⟨xa, cxa, ya, cya, rfl, ⟨hxa, hya⟩, hb5⟩
  replace hya : Cells w5 ya (edgeCells (dblE es)) := by simpa using hya
  have hb45 := below_boxed hb5
  have e5 : w5.heap[w4.heap.size]? = some (.cells #[.bool true, .slice a1 nc c1, .slice a2 mc c2] 25 (0, 0)) := (hb5.block _ (by simp)).trans (heap_alloc_new _ _)
  have e50 : ∀ o, (w5.alloc o).cell? ⟨w4.heap.size, 0, none⟩ = some (.bool true) := fun o => cell_alloc (by simp [World.cell?, e5]) o
  have e51 : ∀ o, (w5.alloc o).cell? ⟨w4.heap.size, 1, none⟩ = some (.slice a1 nc c1) := fun o => cell_alloc (by simp [World.cell?, e5]) o
  have e52 : ∀ o, (w5.alloc o).cell? ⟨w4.heap.size, 2, none⟩ = some (.slice a2 mc c2) := fun o => cell_alloc (by simp [World.cell?, e5]) o
  have hlt5 : w4.heap.size < w5.heap.size := lt_of_block e5
  have hu5 := Lib.hid (fun o => hund.out (w5.alloc o) a1 c1 a2 c2 ((hG4h.out.below hb45).below (alloc_below w5 o)) 1 (.inr (.inl rfl)))
  have hb45h := Lib.hid hb45
  have hxah := Lib.hid hxa
  have hyah := Lib.hid hya
  have e5h := Lib.hid e5
  clear hb5 hu4 hb45 hxa hya e5
  go_wp2_with fail
  refine (hu5.out _).mono ?_
  rintro e w6 ⟨xb, cxb, yb, cyb, rfl, ⟨hxb, hyb⟩, hb6⟩
  replace hyb : Cells w6 yb (edgeCells es) := by simpa using hyb
  have hb56 := below_boxed hb6
  have e6 : w6.heap[w4.heap.size]? = some (.cells #[.bool true, .slice a1 nc c1, .slice a2 mc c2] 25 (0, 0)) := (hb56.block _ hlt5).trans e5h.out
  have e60 : ∀ o, (w6.alloc o).cell? ⟨w4.heap.size, 0, none⟩ = some (.bool true) := fun o => cell_alloc (by simp [World.cell?, e6]) o
  have e61 : ∀ o, (w6.alloc o).cell? ⟨w4.heap.size, 1, none⟩ = some (.slice a1 nc c1) := fun o => cell_alloc (by simp [World.cell?, e6]) o
  have e62 : ∀ o, (w6.alloc o).cell? ⟨w4.heap.size, 2, none⟩ = some (.slice a2 mc c2) := fun o => cell_alloc (by simp [World.cell?, e6]) o
  have cA6 : Hid (w6.heap[w5.heap.size]? = some (.cells #[.bool false, .slice xa na cxa, .slice ya me cya] 25 (0, 0))) := (hb6.block _ (by simp)).trans (heap_alloc_new _ _)
  have hlt6 : w4.heap.size < w6.heap.size := lt_of_block e6
  have hu6 := Lib.hid (fun o => hund.out (w6.alloc o) a1 c1 a2 c2 (((hG4h.out.below hb45h.out).below hb56).below (alloc_below w6 o)) 2 (.inr (.inr rfl)))
  have hb56h := Lib.hid hb56
  have hxbh := Lib.hid hxb
  have hybh := Lib.hid hyb
  clear hb6 hu5 hb56 hxb hyb e6 e50 e51 e52 hlt5 e5h
  go_wp2_with fail
  refine (hu6.out _).mono ?_
  rintro e w7 ⟨xc, cxc, yc, cyc, rfl, ⟨hxc, hyc⟩, hb7⟩
  replace hyc : Cells w7 yc (edgeCells es) := by simpa using hyc
  have hb67 := below_boxed hb7
  have hb47 : Below w4.heap.size w4 w7 := (hb45h.out.trans (hb56h.out.mono hb45h.out.size)).trans (hb67.mono (by have := hb45h.out.size; have := hb56h.out.size; omega))
  have hb17 := hb14h.out.trans (hb47.mono hb14h.out.size)
  obtain ⟨k70, k71, k72⟩ := (hK.out w7 hb17).2
  have g70 : ∀ o, (w7.alloc o).cell? ⟨w.heap.size, 0, none⟩ = some (.bool false) := fun o => cell_alloc k70 o
  have g71 : ∀ o, (w7.alloc o).cell? ⟨w.heap.size, 1, none⟩ = some (.slice an ng cn) := fun o => cell_alloc k71 o
  have g72 : ∀ o, (w7.alloc o).cell? ⟨w.heap.size, 2, none⟩ = some (.slice ae mg ce) := fun o => cell_alloc k72 o
  have hlt7 : w.heap.size < w7.heap.size := by have := hb17.size; have := hwz.out; omega
  have cA7 : Hid (w7.heap[w5.heap.size]? = some (.cells #[.bool false, .slice xa na cxa, .slice ya me cya] 25 (0, 0))) := (hb67.block _ (lt_of_block cA6.out)).trans cA6.out
  have cB7 : Hid (w7.heap[w6.heap.size]? = some (.cells #[.bool false, .slice xb na cxb, .slice yb me cyb] 25 (0, 0))) := (hb7.block _ (by simp)).trans (heap_alloc_new _ _)
  have hp7 := Lib.hid (fun o => hpl.out (w7.alloc o) (hb17.trans ((alloc_below w7 o).mono hb17.size)))
  have hb67h := Lib.hid hb67
  have hb17h := Lib.hid hb17
  have hxch := Lib.hid hxc
  have hych := Lib.hid hyc
  clear hb7 hu6 hb67 hxc hyc e60 e61 e62 hlt6 hb47 hb17 k70 k71 k72 cA6 hG4h
  go_wp2_with fail
  refine (hp7.out _).mono ?_
  rintro e w8 ⟨p1, cp1, p2, cp2, rfl, ⟨hp1, hp2⟩, hb8, own8, hap⟩
  have hb78 := below_boxed hb8
  have cA8 : Hid (w8.heap[w5.heap.size]? = some (.cells #[.bool false, .slice xa na cxa, .slice ya me cya] 25 (0, 0))) := (hb78.block _ (lt_of_block cA7.out)).trans cA7.out
  have cB8 : Hid (w8.heap[w6.heap.size]? = some (.cells #[.bool false, .slice xb na cxb, .slice yb me cyb] 25 (0, 0))) := (hb78.block _ (lt_of_block cB7.out)).trans cB7.out
  have cC8 : Hid (w8.heap[w7.heap.size]? = some (.cells #[.bool false, .slice xc na cxc, .slice yc me cyc] 25 (0, 0))) := (hb8.block _ (by simp)).trans (heap_alloc_new _ _)
  obtain ⟨w9, hw9⟩ : ∃ w9, w9 = w8.alloc (.cells #[.bool false, .slice p1 na cp1, .slice p2 me cp2] 25) := ⟨_, rfl⟩
  have hb89 : Below w8.heap.size w8 w9 := by rw [hw9]; exact alloc_below _ _
  have hsz : (w7.alloc (.cells #[.bool false, .slice xc na cxc, .slice yc me cyc] 25)).heap.size = w7.heap.size + 1 := by simp
  rw [hsz] at own8
  have hz8 : w7.heap.size + 1 ≤ w8.heap.size := by have := lt_of_block cC8.out; omega
  obtain ⟨nv, hnv⟩ : ∃ nv, nv = Value.slice p1 na cp1 := ⟨_, rfl⟩
  have hD0 : Dbl w9 w9 (w7.heap.size + 1) w8.heap.size nv p2 me cp2 es 0 := by
    refine ⟨?_, World.grownBy.refl _ _, by have := hb89.size; omega, by rw [hw9, hnv]; exact heap_alloc_new _ _, fun e => by have := (own8.lt _ e).2; omega⟩
    rw [mixE_zero]
    exact owns_same own8 fun j hj => hb89.block j (own8.lt j hj).2
  have hD0h := Lib.hid hD0
  have hw9h := Lib.hid hw9
  have hb78h := Lib.hid hb78
  have hb89h := Lib.hid hb89
  have hp1h := Lib.hid hp1
  have hnvh := Lib.hid hnv
  have haph := Lib.hid hap
  have hz8h := Lib.hid hz8
  clear hp7 hp1 hp2 hb8 own8 hap hb78 hb89 hD0 hw9 hnv hsz hz8 cA7 cB7 g70 g71 g72
  go_wp2_with fail
  rw [← hw9h.out]
  clear hw9h
  go_loopw [14] (fun iv wr => ∃ (k : Nat), k ≤ me ∧ iv = .int .i64 k ∧ Dbl w9 wr (w7.heap.size + 1) w8.heap.size nv p2 me cp2 es k) (fun iv _ => me - (intOf iv).toNat)
  case atStart => exact ⟨0, Nat.zero_le _, rfl, hD0h.out⟩
  case round =>
    clear hD0h
    obtain ⟨k, hk, rfl, hD⟩ := hrel
    have d2 : wr.cell? ⟨w8.heap.size, 2, none⟩ = some (.slice p2 me cp2) := by have := hD.c13; simp [World.cell?, this]
    by_cases hlt : k < me
    · obtain ⟨gb, rfl, _⟩ := owns_at hD.row (by omega)
      have hke : k < es.length := by have := hlen.out; omega
      have hx2 : (edgeCells (mixE es k))[k * 3 + 2]? = some (.int .i64 es[k].2.2) := by
        have := (edgeCells_get (mixE es k) k (by rw [mixE_len]; exact hke)).2.2
        rwa [mixE_get hke] at this
      have x2 := owns_cell hD.row hx2
      have f2 := owns_free hD.row (k * 3 + 2)
      have hst := Lib.hid (fun q => hD.step hke q)
      have hwr := dbl_wrap (hble.out es[k] (List.getElem_mem hke))
      obtain ⟨z, hz⟩ : ∃ z, z = es[k].2.2 := ⟨_, rfl⟩
      rw [← hz] at x2 hst hwr
      clear hD hx2 hz
      go_wp2_with fail
      go_region
      all_goals
        go_wp2_with fail
        go_roundw
        case rel => exact ⟨k + 1, by omega, by go_num, by first | exact hst.out 1 | exact hst.out 0 | exact hst.out 2⟩
        case measure => simp [intOf]; omega
    · have hkm : k = me := by omega
      subst hkm
      have hml := hlen.out
      have hbL : Below (w7.heap.size + 1) w9 wr := ⟨hD.kp.os, hD.kp.tape, hD.kp.output, hD.kp.size, fun j hj => hD.kp.block j (by have := hD.lq; omega) (fun e => by have := (hD.row.lt j e.symm).1; omega)⟩
      have hb8L : Below (w7.heap.size + 1) w8 wr := (hb89h.out.mono hz8h.out).trans hbL
      have hz5 := hb56h.out.size
      have hz6 := hb67h.out.size
      have hz7 := hb78h.out.size
      have hz8 := hz8h.out
      have hz1 := hb17h.out.size
      have hz0 := hwz.out
      have hb7L : Below w7.heap.size w7 wr := hb78h.out.trans (hb8L.mono (by omega))
      have hb6L : Below w6.heap.size w6 wr := hb67h.out.trans (hb7L.mono hz6)
      have hb5L : Below w5.heap.size w5 wr := hb56h.out.trans (hb6L.mono hz5)
      have hb1L : Below w1.heap.size w1 wr := hb17h.out.trans (hb7L.mono hz1)
      have hTe : Cells wr p2 (edgeCells (dblE es)) := by
        have hr := hD.row
        rw [hml, mixE_all] at hr
        obtain ⟨a', c', e', _, hc, _⟩ := owns_cells hr
        injection e' with e1 _ _
        subst e1
        exact hc
      have hTn : Cells wr p1 (ints ids) := by
        have h9 : Cells w9 p1 (ints ids) := hp1h.out.below hb89h.out
        rcases h9 with h | ⟨b, off, h1, h2, h3⟩
        · exact .inl h
        · refine .inr ⟨b, off, h1, Nat.lt_of_lt_of_le h2 hD.kp.size, fun j v hj => ?_⟩
          have := h3 j v hj
          unfold World.cell? at this ⊢
          rwa [hD.kp.block b h2 (Ne.symm (haph.out b (by rw [h1]; rfl)))]
      have hA := (hxah.out.below hb5L)
      have hAe := (hyah.out.below hb5L)
      have hB := (hxbh.out.below hb6L)
      have hBe := (hybh.out.below hb6L)
      have hC := (hxch.out.below hb7L)
      have hCe := (hych.out.below hb7L)
      have qA : wr.heap[w5.heap.size]? = some (.cells #[.bool false, .slice xa na cxa, .slice ya k cya] 25 (0, 0)) := (hb8L.block _ (by omega)).trans cA8.out
      have qB : wr.heap[w6.heap.size]? = some (.cells #[.bool false, .slice xb na cxb, .slice yb k cyb] 25 (0, 0)) := (hb8L.block _ (by omega)).trans cB8.out
      have qC : wr.heap[w7.heap.size]? = some (.cells #[.bool false, .slice xc na cxc, .slice yc k cyc] 25 (0, 0)) := (hb8L.block _ (by omega)).trans cC8.out
      have qT := hD.c13
      rw [hnvh.out] at qT
      have d2 : wr.cell? ⟨w8.heap.size, 2, none⟩ = some (.slice p2 k cp2) := by simp [World.cell?, qT]
      have hKS : Hid (∀ W, Below wr.heap.size wr W → (W.cell? ⟨w5.heap.size, 0, none⟩ = some (.bool false) ∧ W.cell? ⟨w5.heap.size, 1, none⟩ = some (.slice xa na cxa) ∧ W.cell? ⟨w5.heap.size, 2, none⟩ = some (.slice ya k cya) ∧
          W.cell? ⟨w6.heap.size, 0, none⟩ = some (.bool false) ∧ W.cell? ⟨w6.heap.size, 1, none⟩ = some (.slice xb na cxb) ∧ W.cell? ⟨w6.heap.size, 2, none⟩ = some (.slice yb k cyb) ∧
          W.cell? ⟨w7.heap.size, 0, none⟩ = some (.bool false) ∧ W.cell? ⟨w7.heap.size, 1, none⟩ = some (.slice xc na cxc) ∧ W.cell? ⟨w7.heap.size, 2, none⟩ = some (.slice yc k cyc) ∧
          W.cell? ⟨w8.heap.size, 0, none⟩ = some (.bool false) ∧ W.cell? ⟨w8.heap.size, 1, none⟩ = some (.slice p1 na cp1) ∧ W.cell? ⟨w8.heap.size, 2, none⟩ = some (.slice p2 k cp2) ∧
          W.cell? ⟨w.heap.size, 0, none⟩ = some (.bool false) ∧ W.cell? ⟨w.heap.size, 1, none⟩ = some (.slice an ng cn) ∧ W.cell? ⟨w.heap.size, 2, none⟩ = some (.slice ae mg ce))) := fun W hW => by
        obtain ⟨k0, k1, k2⟩ := (hK.out wr hb1L).2
        exact ⟨cell_below hW (by simp [World.cell?, qA]), cell_below hW (by simp [World.cell?, qA]), cell_below hW (by simp [World.cell?, qA]), cell_below hW (by simp [World.cell?, qB]), cell_below hW (by simp [World.cell?, qB]), cell_below hW (by simp [World.cell?, qB]),
          cell_below hW (by simp [World.cell?, qC]), cell_below hW (by simp [World.cell?, qC]), cell_below hW (by simp [World.cell?, qC]), cell_below hW (by simp [World.cell?, qT]), cell_below hW (by simp [World.cell?, qT]), cell_below hW (by simp [World.cell?, qT]), cell_below hW k0, cell_below hW k1, cell_below hW k2⟩
      have hdl : (dblE es).length = k := by rw [hml]; simp [dblE]
      have hS0 : Hid (∀ W, Below wr.heap.size wr W → Calls Tryz.prog 9 #[.agg #[.bool false, .slice xa na cxa, .slice ya k cya], .agg #[.bool false, .slice p1 na cp1, .slice p2 k cp2]] W fun e w' => e = .returned (.bool true) ∧ Below wr.heap.size wr w') := fun W hW =>
        (hsame.out W (dblE es) xa cxa ya cya p1 cp1 p2 cp2 hdl.symm (hA.below hW) (hAe.below hW) (hTn.below hW) (hTe.below hW)).mono fun _ _ ⟨e1, hb⟩ => ⟨e1, hW.trans (hb.mono hW.size)⟩
      have hSB : Hid (∀ W x cx y cy, Below wr.heap.size wr W → Cells W x (ints ids) ∧ Cells W y (edgeCells es) → Calls Tryz.prog 9 #[.agg #[.bool false, .slice xb na cxb, .slice yb k cyb], .agg #[.bool false, .slice x na cx, .slice y k cy]] W fun e w' => e = .returned (.bool true) ∧ Below wr.heap.size wr w') := fun W x cx y cy hW hc =>
        (hsame.out W es xb cxb yb cyb x cx y cy hml (hB.below hW) (hBe.below hW) hc.1 hc.2).mono fun _ _ ⟨e1, hb⟩ => ⟨e1, hW.trans (hb.mono hW.size)⟩
      have hSC : Hid (∀ W x cx y cy, Below wr.heap.size wr W → Cells W x (ints ids) ∧ Cells W y (edgeCells es) → Calls Tryz.prog 9 #[.agg #[.bool false, .slice xc na cxc, .slice yc k cyc], .agg #[.bool false, .slice x na cx, .slice y k cy]] W fun e w' => e = .returned (.bool true) ∧ Below wr.heap.size wr w') := fun W x cx y cy hW hc =>
        (hsame.out W es xc cxc yc cyc x cx y cy hml (hC.below hW) (hCe.below hW) hc.1 hc.2).mono fun _ _ ⟨e1, hb⟩ => ⟨e1, hW.trans (hb.mono hW.size)⟩
      have hP : Hid (∀ W, Below wr.heap.size wr W → Calls Tryz.prog 8 #[.agg #[.bool false, .slice an ng cn, .slice ae mg ce]] W fun e w' => ∃ a1 c1 a2 c2, e = .returned (.agg #[.bool false, .slice a1 na c1, .slice a2 k c2]) ∧ (Cells w' a1 (ints ids) ∧ Cells w' a2 (edgeCells es)) ∧ Below wr.heap.size wr w') := fun W hW =>
        (hpl.out W (hb1L.trans (hW.mono hb1L.size))).mono fun _ _ ⟨a1, c1, a2, c2, e1, h1, h2, _⟩ => ⟨a1, c1, a2, c2, e1, h1, hW.trans (h2.mono hW.size)⟩
      have hM : Hid (∀ W, Below wr.heap.size wr W → Calls Tryz.prog 10 #[] W fun e w' => e = .returned (.bool true) ∧ Below wr.heap.size wr w') := fun W hW =>
        (merges_any W).mono fun _ _ ⟨e1, hb⟩ => ⟨e1, hW.trans (hb.mono hW.size)⟩
      have hfin : Hid (∀ W, Below wr.heap.size wr W → Below w.heap.size w W) := fun W hW => (hK.out W (hb1L.trans (hW.mono hb1L.size))).1.1
      clear hD hbL hb8L hb7L hb6L hb5L hb1L hTe hTn hA hAe hB hBe hC hCe qA qB qC qT hdl hml hlen hble hK hund hpl hsame
      go_wp2_with fail
      go_region_held3 (fun W => W.cell? ⟨w5.heap.size, 0, none⟩ = some (.bool false) ∧ W.cell? ⟨w5.heap.size, 1, none⟩ = some (.slice xa na cxa) ∧ W.cell? ⟨w5.heap.size, 2, none⟩ = some (.slice ya k cya) ∧
          W.cell? ⟨w6.heap.size, 0, none⟩ = some (.bool false) ∧ W.cell? ⟨w6.heap.size, 1, none⟩ = some (.slice xb na cxb) ∧ W.cell? ⟨w6.heap.size, 2, none⟩ = some (.slice yb k cyb) ∧
          W.cell? ⟨w7.heap.size, 0, none⟩ = some (.bool false) ∧ W.cell? ⟨w7.heap.size, 1, none⟩ = some (.slice xc na cxc) ∧ W.cell? ⟨w7.heap.size, 2, none⟩ = some (.slice yc k cyc) ∧
          W.cell? ⟨w8.heap.size, 0, none⟩ = some (.bool false) ∧ W.cell? ⟨w8.heap.size, 1, none⟩ = some (.slice p1 na cp1) ∧ W.cell? ⟨w8.heap.size, 2, none⟩ = some (.slice p2 k cp2) ∧
          W.cell? ⟨w.heap.size, 0, none⟩ = some (.bool false) ∧ W.cell? ⟨w.heap.size, 1, none⟩ = some (.slice an ng cn) ∧ W.cell? ⟨w.heap.size, 2, none⟩ = some (.slice ae mg ce))
        (first | exact hKS.out _ (drew_below wr) | exact hKS.out _ hb26 | exact hKS.out _ hb25 | exact hKS.out _ hb24 | exact hKS.out _ hb23 | exact hKS.out _ hb22 | exact hKS.out _ hb21)
        (first
          | (go_at_call 9; with_reducible refine (hSC.out _ _ _ _ _ hb24 hc24).mono ?_; rintro e w25 ⟨rfl, hb25⟩)
          | (go_at_call 8; with_reducible refine (hP.out _ hb23).mono ?_; rintro e w24 ⟨y1, cy1, y2, cy2, rfl, hc24, hb24⟩)
          | (go_at_call 9; with_reducible refine (hSB.out _ _ _ _ _ hb22 hc22).mono ?_; rintro e w23 ⟨rfl, hb23⟩)
          | (go_at_call 8; with_reducible refine (hP.out _ hb21).mono ?_; rintro e w22 ⟨x1, cx1, x2, cx2, rfl, hc22, hb22⟩)
          | (go_at_call 9; with_reducible refine (hS0.out _ (drew_below wr)).mono ?_; rintro e w21 ⟨rfl, hb21⟩)
          | (go_at_call 10; with_reducible refine (hM.out _ hb25).mono ?_; rintro e w26 ⟨rfl, hb26⟩))
      all_goals
        go_wp2_with fail
        go_ret
        exact ⟨rfl, hfin.out _ hb26⟩
end Go.Proofs.YtgkimjjodhnmiaaGreat

namespace Go.Proofs.YtgkimjjodhnmiaaGreat
open Go.ChangeShapes Go.WideShapes Go.ChangeAt Go.RowKit

set_option maxRecDepth 100000 in
theorem mergedCopy_lifted (os : Os) (started : os.Started) (H : Type) (enc : TypeId × Value → H) :
    ReturnsInHanded {} Tryz.checked os 3 .any (Rows.fnUndirectMergedCopySpec.pre6 enc Tryz.prog Tryz.f3 Rows.fnUndirectMergedCopyRow.domain false) (Rows.fnUndirectMergedCopySpec.post enc Tryz.prog Tryz.f3 false true false false) := by
  refine returnsInHanded_of_change (C := Tryz.checked) own_knob started (by kernel_rfl) Tryz.func3
    (ChangeSpec.witness6 (enc := enc) (C := Tryz.checked) false ⟨#[], #[.agg #[.bool false, .slice none 0 0, .slice none 0 0], .int .i64 0], []⟩ 8 (by kernel_rfl) (by kernel_rfl) (by kernel_rfl) (by kernel_rfl)) ?_
  intro W base args ds gs before hval0 hW hcnd _
  have hval : ∀ (j : Nat) t v, Tryz.f3.params[j]? = some t → args[j]? = some v → Value.okWide Tryz.prog W .any base t v := hval0
  have hW' := hW
  obtain ⟨p, q, hA0, hV, rfl, hfz, hnd⟩ := hW
  have hA : DataW.TrodAll enc Tryz.prog W 0 (fun _ => true) true Tryz.f3.params.toList args.toList ds p := hA0
  rw [Tryz.params3] at hA hval
  obtain ⟨v0, v1, d0, d1, p0, p1, rfl, rfl, rfl, h0, h1⟩ := trodAll_two hA
  obtain ⟨rfl, rfl⟩ := trodVars_none hV
  obtain ⟨a, an, cn, ae, ce, rfl, hga, h64, l1, l2⟩ := open_graph (hval 0 25 v0 rfl rfl) h0
  obtain ⟨u, rfl, rfl, rfl, wu⟩ := open_int Tryz.underlying3 (hval 1 3 v1 rfl rfl) h1
  clear h1
  clear hA0 hval0
  unfold maxLen at l1 l2
  refine (mrgFn_any a an cn ae ce u W (by omega) (by omega) hga h64).mono fun e W' ⟨he, hb⟩ => ?_
  subst he
  have hlt0 : ∀ x ∈ p0, x.block < W.heap.size := fun x hx => hW'.lt x (by simp [hx])
  refine ⟨_, rfl, post_below (pa := p0 ++ []) (pv := []) hW' (fun _ _ _ => trodAll_mk1 (shut_bool Tryz.underlying4 true)) (fun sp hsp => ?_) (fun _ _ => rfl) (by simp) hb (ok_one (by kernel_rfl) rfl (okWide_bool_mk Tryz.underlying4 true))⟩
  exact trodAll_mk2 (WideElems.Trod_stays laid_out (by kernel_rfl) (of_decide_eq_true (by kernel_rfl)) h0 (fun x hx => hb.same (hlt0 x hx)) (fun x hx => hsp x (by simp [hx])))
    (shut_int Tryz.underlying3 wu)

theorem mergedCopy_holds : Rows.FnUndirectMergedCopySaid :=
  OpenClaim.holds_of_wide 3 Tryz.f3 rfl rfl rfl rfl rfl rfl rfl ⟨rfl, rfl, rfl, rfl, rfl⟩ rfl rfl rfl rfl rfl (by kernel_rfl) Tryz.func3 (by kernel_rfl)
    (of_decide_eq_true (by kernel_rfl)) (by unfold Func.isWrapper; rw [if_neg (by decide +kernel)]; exact ⟨rfl, rfl⟩)
    (fun os started H enc _ => mergedCopy_lifted os started H enc)

#print axioms mergedCopy_holds

end Go.Proofs.YtgkimjjodhnmiaaGreat
