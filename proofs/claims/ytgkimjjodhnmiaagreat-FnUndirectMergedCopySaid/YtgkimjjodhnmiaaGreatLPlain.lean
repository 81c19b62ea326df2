/- laws.shape: a graph with the weight 0 on all edges.
   laws.plain: what it gives (pure), and the table as it is read.
   laws.plain of a good graph. -/
import Derived.Test.YtgkimjjodhnmiaaGreatSeenA
import Derived.Test.YtgkimjjodhnmiaaGreatCompLawA
import Derived.Deep.RegionHeld3
import Derived.Deep.AppendLies
import Derived.Test.YtgkimjjodhnmiaaGreatTwiceLaw
import Derived.Test.YtgkimjjodhnmiaaGreatTableOf
namespace Go.Proofs.YtgkimjjodhnmiaaGreat
open Go.RowKit

/-- The edges without their weights. -/
def flat0 (es : List (Int × Int × Int)) : List (Int × Int × Int) := es.map fun e => (e.1, e.2.1, 0)
theorem flat0_succ (es : List (Int × Int × Int)) {k : Nat} (hk : k < es.length) : flat0 (es.take (k + 1)) = flat0 (es.take k) ++ [(es[k].1, es[k].2.1, 0)] := by
  unfold flat0
  rw [List.take_succ_eq_append_getElem hk, List.map_append]; rfl
theorem flat0_len (es : List (Int × Int × Int)) : (flat0 es).length = es.length := List.length_map _

/-- What laws.shape gives. -/
def ShapePost (w : World) (g : Gr) (an : Option Addr) (cn : Nat) (e : Ending) (w' : World) : Prop :=
  ∃ (ae : Option Addr) (ce : Nat), e = .returned (.agg #[.bool g.dir, .slice an g.nodes.length cn, .slice ae g.edges.length ce]) ∧ Cells w' ae (edgeCells (flat0 g.edges)) ∧ Below w.heap.size w w'

theorem shape_done {w w3 wr : World} {g : Gr} {an b : Option Addr} {cn c2 ob rb m : Nat} {d : Bool} {vn : Value} (hrb : w.heap.size ≤ rb) (hr3 : rb < w3.heap.size) (hm : m = g.edges.length) (hE : EG w3 wr ob d vn (flat0 g.edges) (.slice b m c2)) (hbw : Below w.heap.size w wr) (hvn : vn = Value.slice an g.nodes.length cn) (hd : d = g.dir) :
    ShapePost w g an cn (.returned (.agg #[.bool d, vn, .slice b m c2])) (((wr.setCell ⟨rb, 0, none⟩ (.bool d)).setCell ⟨rb, 1, none⟩ vn).setCell ⟨rb, 2, none⟩ (.slice b m c2)) := by
  have hse : ∀ j, j ≠ rb → (((wr.setCell ⟨rb, 0, none⟩ (.bool d)).setCell ⟨rb, 1, none⟩ vn).setCell ⟨rb, 2, none⟩ (.slice b m c2)).heap[j]? = wr.heap[j]? := fun j hj => by
    rw [Below.heap_setCell _ _ _ _ hj, Below.heap_setCell _ _ _ _ hj, Below.heap_setCell _ _ _ _ hj]
  have hrow := owns_same (w' := ((wr.setCell ⟨rb, 0, none⟩ (.bool d)).setCell ⟨rb, 1, none⟩ vn).setCell ⟨rb, 2, none⟩ (.slice b m c2)) hE.e fun j hj => hse j (by have := (hE.e.lt j hj).1; omega)
  obtain ⟨a', c', e', _, hcs, _⟩ := owns_cells hrow
  injection e' with e1 _ _
  subst e1
  exact ⟨b, c2, by rw [hvn, hm, hd], hcs, ((hbw.setCell hrb _).setCell hrb _).setCell hrb _⟩

end Go.Proofs.YtgkimjjodhnmiaaGreat

namespace Go.Proofs.YtgkimjjodhnmiaaGreat
open Go.RowKit

def atW (t : List (List Int)) (i k : Nat) : Int := (t.getD i []).getD k 0

/-- The edges of a row of the table, as far as the place k. -/
def plainRow (ids : List Int) (ta : List (List Bool)) (tw : List (List Int)) (d : Bool) (i k : Nat) : List (Int × Int × Int) :=
  ((List.range k).filter fun j => atB ta i j && (d || decide (i < j))).map fun j => (ids.getD i 0, ids.getD j 0, atW tw i j)
/-- The edges of the first rows. -/
def plainUp (ids : List Int) (ta : List (List Bool)) (tw : List (List Int)) (d : Bool) (i : Nat) : List (Int × Int × Int) :=
  (List.range i).flatMap fun i => plainRow ids ta tw d i ids.length

section
variable (ids : List Int) (ta : List (List Bool)) (tw : List (List Int)) (d : Bool)
theorem plainUp_succ (i : Nat) : plainUp ids ta tw d (i + 1) = plainUp ids ta tw d i ++ plainRow ids ta tw d i ids.length := by
  unfold plainUp
  rw [List.range_succ, List.flatMap_append]
  simp
theorem plainRow_yes {i k : Nat} (h : (atB ta i k && (d || decide (i < k))) = true) : plainRow ids ta tw d i (k + 1) = plainRow ids ta tw d i k ++ [(ids.getD i 0, ids.getD k 0, atW tw i k)] := by
  unfold plainRow
  rw [List.range_succ, List.filter_append, List.map_append, List.filter_cons_of_pos (p := fun j => atB ta i j && (d || decide (i < j))) h]
  rfl
theorem plainRow_no {i k : Nat} (h : (atB ta i k && (d || decide (i < k))) = false) : plainRow ids ta tw d i (k + 1) = plainRow ids ta tw d i k := by
  unfold plainRow
  rw [List.range_succ, List.filter_append, List.map_append, List.filter_cons_of_neg (p := fun j => atB ta i j && (d || decide (i < j))) (by rw [h]; simp)]
  simp
theorem plainRow_len (i k : Nat) : (plainRow ids ta tw d i k).length ≤ k := by
  unfold plainRow
  rw [List.length_map]
  have := List.length_filter_le (fun j => atB ta i j && (d || decide (i < j))) (List.range k)
  rwa [List.length_range] at this
theorem plainUp_len (i : Nat) : (plainUp ids ta tw d i).length ≤ i * ids.length := by
  induction i with
  | zero => simp [plainUp]
  | succ i ih =>
    rw [plainUp_succ, List.length_append, Nat.succ_mul]
    have := plainRow_len ids ta tw d i ids.length
    omega
end

/-- The graph that laws.plain gives. -/
def plainE (g : Gr) : List (Int × Int × Int) := plainUp (asc g.nodes) (tableP (asc g.nodes) g.dir g.edges).1 (tableP (asc g.nodes) g.dir g.edges).2 g.dir (asc g.nodes).length
def plainG (g : Gr) : Gr := ⟨g.dir, asc g.nodes, plainE g⟩

theorem range_getD (l : List Int) : (List.range l.length).map (fun i => l.getD i 0) = l := by
  refine List.ext_getElem (by simp) fun i h1 h2 => ?_
  rw [List.getElem_map, List.getElem_range, List.getD_eq_getElem?_getD, List.getElem?_eq_getElem h2]
  rfl

theorem plain_flat {g : Gr} (h : okGraph g = true) : flat0 (plainE g) = flatE g := by
  have ht := graph_table h
  have hup : (asc g.nodes).Pairwise (· < ·) := asc_incr (nodup_of_ok h)
  unfold flatE plainE
  generalize hA : asc g.nodes = A at ht hup
  have hat : ∀ i k, i < A.length → k < A.length → atB (tableP A g.dir g.edges).1 i k = arcB g (A.getD i 0) (A.getD k 0) := fun i k hi hk => by
    rw [ht.at_ i k hi hk, List.getD_eq_getElem?_getD, List.getElem?_eq_getElem hi, List.getD_eq_getElem?_getD, List.getElem?_eq_getElem hk]
    rfl
  have hlt : ∀ i k, i < A.length → k < A.length → decide (i < k) = decide (A.getD i 0 < A.getD k 0) := fun i k hi hk => by
    rw [List.getD_eq_getElem?_getD, List.getElem?_eq_getElem hi, List.getD_eq_getElem?_getD, List.getElem?_eq_getElem hk]
    show decide (i < k) = decide (A[i] < A[k])
    refine decide_eq_decide.2 ⟨fun h => List.pairwise_iff_getElem.1 hup i k hi hk h, fun h => ?_⟩
    rcases Nat.lt_or_ge i k with h1 | h1
    · exact h1
    · rcases Nat.lt_or_eq_of_le h1 with h2 | h2
      · have := List.pairwise_iff_getElem.1 hup k i hk hi h2; omega
      · subst h2; omega
  have hrow : ∀ i, i < A.length → flat0 (plainRow A (tableP A g.dir g.edges).1 (tableP A g.dir g.edges).2 g.dir i A.length) = (A.filter fun v => arcB g (A.getD i 0) v && (g.dir || decide (A.getD i 0 < v))).map fun v => (A.getD i 0, v, 0) := fun i hi => by
    unfold flat0 plainRow
    conv => rhs; rw [← range_getD A]
    rw [List.filter_map, List.map_map, List.map_map]
    rw [range_getD A]
    have hf : (List.range A.length).filter (fun j => atB (tableP A g.dir g.edges).1 i j && (g.dir || decide (i < j))) = (List.range A.length).filter ((fun v => arcB g (A.getD i 0) v && (g.dir || decide (A.getD i 0 < v))) ∘ fun i => A.getD i 0) := by
      refine List.filter_congr fun k hk => ?_
      have hk' : k < A.length := List.mem_range.1 hk
      show (_ && _) = (_ && _)
      rw [hat i k hi hk', hlt i k hi hk']
    rw [hf]
    rfl
  unfold plainUp flat0
  rw [List.map_flatMap]
  conv => rhs; rw [← range_getD A]
  rw [List.flatMap_map, range_getD A]
  have : ∀ (l : List Nat) (f f' : Nat → List (Int × Int × Int)), (∀ u ∈ l, f u = f' u) → l.flatMap f = l.flatMap f' := fun l => by
    induction l with
    | nil => intros; rfl
    | cons x l ih =>
      intro f f' hf
      rw [List.flatMap_cons, List.flatMap_cons, hf x List.mem_cons_self, ih f f' fun u hu => hf u (List.mem_cons_of_mem _ hu)]
  exact this _ _ _ fun i hi => hrow i (List.mem_range.1 hi)

/-- The cells of a table that are read for the places i and k. -/
theorem TabAt.read {w : World} {lo hi : Nat} {ids : List Int} {nv sa sw : Value} {ta : List (List Bool)} {tw : List (List Int)} (h : TabAt w lo hi ids nv sa sw ta tw) (ha : Square ids.length ta) (hw : Square ids.length tw) {i k : Nat} (hi' : i < ids.length) (hk : k < ids.length) :
    ∃ a0 ca w0 cw n0 cn g h', sa = .slice (some ⟨a0, 0, none⟩) ids.length ca ∧ sw = .slice (some ⟨w0, 0, none⟩) ids.length cw ∧ nv = .slice (some ⟨n0, 0, none⟩) ids.length cn ∧
      w.cell? ⟨n0, i, none⟩ = some (.int .i64 (ids.getD i 0)) ∧ w.cell? ⟨n0, k, none⟩ = some (.int .i64 (ids.getD k 0)) ∧
      w.cell? ⟨a0, i, none⟩ = some (.slice (some ⟨g, 0, none⟩) ids.length ids.length) ∧ w.cell? ⟨g, k, none⟩ = some (.bool (atB ta i k)) ∧
      w.cell? ⟨w0, i, none⟩ = some (.slice (some ⟨h', 0, none⟩) ids.length ids.length) ∧ w.cell? ⟨h', k, none⟩ = some (.int .i64 (atW tw i k)) := by
  obtain ⟨a1, c1, B, sb, gs, hs, rfl, hn, T, _⟩ := h
  obtain ⟨g, hg, g1, g2, g3, g4⟩ := T.ra.at_ (i := i) (by rw [ha.1]; exact hi')
  obtain ⟨h', hh, h1, h2, h3, h4⟩ := T.rw_.at_ (i := i) (by rw [hw.1]; exact hi')
  obtain ⟨aa, ca, rfl, _⟩ := owns_cells T.oa
  obtain ⟨aw, cw, rfl, _⟩ := owns_cells T.ow
  obtain ⟨a0, rfl, _⟩ := owns_at T.oa (by omega)
  obtain ⟨w0, rfl, _⟩ := owns_at T.ow (by omega)
  obtain ⟨n0, rfl, _⟩ := owns_at hn (by omega)
  have x1 := row_cell g4 (k := k) (by omega)
  have x2 := row_cell h4 (k := k) (by omega)
  have hia : i < ta.length := by rw [ha.1]; exact hi'
  have hiw : i < tw.length := by rw [hw.1]; exact hi'
  have e1 : atB ta i k = ta[i][k]'(by omega) := by
    unfold atB
    rw [List.getD_eq_getElem?_getD (l := ta), List.getElem?_eq_getElem hia]
    show (ta[i]).getD k false = _
    rw [List.getD_eq_getElem?_getD, List.getElem?_eq_getElem (by omega)]
    rfl
  have e2 : atW tw i k = tw[i][k]'(by omega) := by
    unfold atW
    rw [List.getD_eq_getElem?_getD (l := tw), List.getElem?_eq_getElem hiw]
    show (tw[i]).getD k 0 = _
    rw [List.getD_eq_getElem?_getD, List.getElem?_eq_getElem (by omega)]
    rfl
  have e3 : ∀ j, j < ids.length → (ints ids)[j]? = some (.int .i64 (ids.getD j 0)) := fun j hj => by
    rw [ints_get ids j hj, List.getD_eq_getElem?_getD, List.getElem?_eq_getElem hj]; rfl
  rw [e1, e2]
  exact ⟨a0, ca, w0, cw, n0, c1, g, h', rfl, rfl, rfl, owns_cell hn (e3 i hi'), owns_cell hn (e3 k hk), owns_cell T.oa (rowVs_get hg), x1.1, owns_cell T.ow (rowVs_get hh), x2.1⟩
end Go.Proofs.YtgkimjjodhnmiaaGreat

namespace Go.Proofs.YtgkimjjodhnmiaaGreat
open Go.RowKit

/-- What laws.plain gives. -/
def PlainPost (w : World) (g : Gr) (e : Ending) (w' : World) : Prop :=
  ∃ (an : Option Addr) (cn : Nat) (ae : Option Addr) (ce : Nat), e = .returned (.agg #[.bool g.dir, .slice an (asc g.nodes).length cn, .slice ae (plainE g).length ce]) ∧ GrAt w' (plainG g) an cn ae ∧ Below w.heap.size w w'

theorem plain_start {w3 w4 w5 : World} {d : Bool} {nv sa sw : Value} {tb : Nat} (htb : tb = w3.heap.size) (hw4 : w4 = w3.alloc (.cells #[nv, sa, sw] 66)) (hw5 : w5 = w4.alloc (.cells #[.bool d, nv, .slice none 0 0] 25)) :
    EG w5 w5 (tb + 1) d nv [] (.slice none 0 0) ∧ ∀ W, w5.grownBy W (some (tb + 1)) → Below w3.heap.size w3 W ∧ W.cell? ⟨tb, 0, none⟩ = some nv ∧ W.cell? ⟨tb, 1, none⟩ = some sa ∧ W.cell? ⟨tb, 2, none⟩ = some sw := by
  have b4 : Below w3.heap.size w3 w4 := by rw [hw4]; exact alloc_below _ _
  have z4 : w4.heap.size = tb + 1 := by rw [hw4, htb]; simp
  have b5 : Below w4.heap.size w4 w5 := by rw [hw5]; exact alloc_below _ _
  have z5 : w5.heap.size = tb + 1 + 1 := by rw [hw5]; simp [z4]
  have k4 : w4.heap[tb]? = some (.cells #[nv, sa, sw] 66 (0, 0)) := by rw [htb, hw4]; exact heap_alloc_new _ _
  have k5 : w5.heap[tb]? = some (.cells #[nv, sa, sw] 66 (0, 0)) := (b5.block _ (by omega)).trans k4
  refine ⟨EG.start (by rw [← z4, hw5]; exact heap_alloc_new _ _), fun W h => ?_⟩
  have kW : W.heap[tb]? = some (.cells #[nv, sa, sw] 66 (0, 0)) := (h.block _ (by omega) (fun e => by injection e with e; omega)).trans k5
  have b35 : Below w3.heap.size w3 w5 := b4.trans (b5.mono (by omega))
  refine ⟨⟨h.os.trans b35.os, h.tape.trans b35.tape, h.output.trans b35.output, by have := h.size; have := b35.size; omega, fun j hj => ?_⟩, ?_, ?_, ?_⟩
  · rw [h.block j (by omega) (fun e => by injection e with e; omega), b35.block j hj]
  · simp [World.cell?, kW]
  · simp [World.cell?, kW]
  · simp [World.cell?, kW]

theorem plain_done {w w3 w5 wr : World} {g : Gr} {a1 b : Option Addr} {c1 c2 ob rb m : Nat} {d : Bool} (hrb : w.heap.size ≤ rb) (hr3 : rb < w3.heap.size) (h35 : w3.heap.size ≤ w5.heap.size) (hm : m = (plainE g).length) (hE : EG w5 wr ob d (.slice a1 (asc g.nodes).length c1) (plainE g) (.slice b m c2)) (hb : Below w.heap.size w w3) (hbw : Below w3.heap.size w3 wr) (hd : d = g.dir)
    (hn : w3.ownsRow (rb + 1) 3 1 (.slice a1 (asc g.nodes).length c1) (asc g.nodes).length (ints (asc g.nodes))) :
    PlainPost w g (.returned (.agg #[.bool d, .slice a1 (asc g.nodes).length c1, .slice b m c2])) (((wr.setCell ⟨rb, 0, none⟩ (.bool d)).setCell ⟨rb, 1, none⟩ (.slice a1 (asc g.nodes).length c1)).setCell ⟨rb, 2, none⟩ (.slice b m c2)) := by
  have hse : ∀ j, j ≠ rb → (((wr.setCell ⟨rb, 0, none⟩ (.bool d)).setCell ⟨rb, 1, none⟩ (.slice a1 (asc g.nodes).length c1)).setCell ⟨rb, 2, none⟩ (.slice b m c2)).heap[j]? = wr.heap[j]? := fun j hj => by
    rw [Below.heap_setCell _ _ _ _ hj, Below.heap_setCell _ _ _ _ hj, Below.heap_setCell _ _ _ _ hj]
  have hrow := owns_same (w' := ((wr.setCell ⟨rb, 0, none⟩ (.bool d)).setCell ⟨rb, 1, none⟩ (.slice a1 (asc g.nodes).length c1)).setCell ⟨rb, 2, none⟩ (.slice b m c2)) hE.e fun j hj => hse j (by have := (hE.e.lt j hj).1; omega)
  have hnrow := owns_same (w' := ((wr.setCell ⟨rb, 0, none⟩ (.bool d)).setCell ⟨rb, 1, none⟩ (.slice a1 (asc g.nodes).length c1)).setCell ⟨rb, 2, none⟩ (.slice b m c2)) hn fun j hj => (hse j (by have := (hn.lt j hj).1; omega)).trans (hbw.block j (hn.lt j hj).2)
  obtain ⟨a', c', e', _, hcs, _⟩ := owns_cells hrow
  injection e' with e1 _ _
  subst e1
  obtain ⟨a'', c'', e'', _, hcn, _⟩ := owns_cells hnrow
  injection e'' with e1 _ _
  subst e1
  have hbW : Below w.heap.size w wr := hb.trans (hbw.mono hb.size)
  refine ⟨a1, c1, b, c2, by rw [hm, hd], ⟨hcn, hcs, fun e => ?_⟩, ((hbW.setCell hrb _).setCell hrb _).setCell hrb _⟩
  subst e
  obtain ⟨_, h3 | ⟨g, cap, cur, hv, _⟩⟩ := hnrow
  · injection h3.1
  · injection hv with hv
    cases hv

set_option linter.unusedSimpArgs false in
set_option maxRecDepth 100000 in
set_option maxHeartbeats 8000000 in
theorem plain_any (g : Gr) (an : Option Addr) (cn : Nat) (ae : Option Addr) (ce : Nat) (w : World) (hn : g.nodes.length ≤ 1000) (he : g.edges.length ≤ 1048576) (hg : GrAt w g an cn ae) (hok : okGraph g = true) :
    Calls Tryz.prog 8 #[.agg #[.bool g.dir, .slice an g.nodes.length cn, .slice ae g.edges.length ce]] w (PlainPost w g) := by
  obtain ⟨d, hd⟩ : ∃ d, d = g.dir := ⟨_, rfl⟩
  obtain ⟨w1, hw1⟩ : ∃ w1, w1 = w.alloc (.cells #[.bool d, .slice an g.nodes.length cn, .slice ae g.edges.length ce] 25) := ⟨_, rfl⟩
  obtain ⟨w2, hw2⟩ : ∃ w2, w2 = w1.alloc (.cells #[.bool false, .slice none 0 0, .slice none 0 0] 25) := ⟨_, rfl⟩
  have b1 : Below w.heap.size w w1 := by rw [hw1]; exact alloc_below _ _
  have z1 : w1.heap.size = w.heap.size + 1 := by rw [hw1]; simp
  have b12 : Below w1.heap.size w1 w2 := by rw [hw2]; exact alloc_below _ _
  have z2 : w2.heap.size = w.heap.size + 1 + 1 := by rw [hw2]; simp [z1]
  have b2 : Below w.heap.size w w2 := b1.trans (b12.mono (by omega))
  have k0 : w2.cell? ⟨w.heap.size, 0, none⟩ = some (.bool d) := cell_below b12 (by rw [hw1]; simp)
  have kz : w2.heap[w.heap.size + 1]? = some (.cells #[.bool false, .slice none 0 0, .slice none 0 0] 25 (0, 0)) := by rw [hw2, ← z1]; exact heap_alloc_new _ _
  have hT := tableOf_any g an cn ae ce w2 hn he (hg.below b2) hok
  rw [← hd, hw2, hw1] at hT
  have hTh := Lib.hid hT
  have hw2h : Hid (w2 = (w.alloc (.cells #[.bool d, .slice an g.nodes.length cn, .slice ae g.edges.length ce] 25)).alloc (.cells #[.bool false, .slice none 0 0, .slice none 0 0] 25)) := by unfold Hid; rw [hw2, hw1]
  have hK2 := Lib.hid (And.intro b2 (And.intro k0 (And.intro kz z2)))
  have hdh := Lib.hid hd
  have htab := Lib.hid (graph_table hok)
  have hAl : Hid ((asc g.nodes).length ≤ 1000) := by unfold Hid; rw [asc_length]; exact hn
  rw [← hd]
  clear hw1 hw2 b1 z1 b12 z2 b2 k0 kz hT hg hok hd
  go_enter Tryz.func8, Tryz.ntmps8
  go_wp2_with fail
  refine (unhide hTh).mono ?_
  rintro e w3 ⟨nv, sa, sw, lo, hi, rfl, hlo, hTab, hhi, hb3⟩
  rw [← hw2h.out] at hlo hb3
  obtain ⟨b2, k0, kz, z2⟩ := hK2.out
  have c0 := cell_below hb3 k0
  have kz3 : Hid (w3.heap[w.heap.size + 1]? = some (.cells #[.bool false, .slice none 0 0, .slice none 0 0] 25 (0, 0))) := (hb3.block _ (by omega)).trans kz
  have b3 : Hid (Below w.heap.size w w3) := b2.trans (hb3.mono b2.size)
  obtain ⟨ta, hta⟩ : ∃ ta, ta = (tableP (asc g.nodes) g.dir g.edges).1 := ⟨_, rfl⟩
  obtain ⟨tw, htw⟩ : ∃ tw, tw = (tableP (asc g.nodes) g.dir g.edges).2 := ⟨_, rfl⟩
  rw [← hta, ← htw] at hTab
  have hsa : Hid (Square (asc g.nodes).length ta) := by rw [hta]; exact htab.out.s1
  have hsw : Hid (Square (asc g.nodes).length tw) := by rw [htw]; exact htab.out.s2
  have hpe : Hid (plainUp (asc g.nodes) ta tw d (asc g.nodes).length = plainE g) := by unfold Hid; rw [hta, htw, hdh.out]; rfl
  obtain ⟨A, hA⟩ : ∃ A, A = asc g.nodes := ⟨_, rfl⟩
  rw [← hA] at hTab hsa hsw hpe hAl
  have hTabh := Lib.hid hTab
  obtain ⟨a1, c1, B, sb, gs, hs, rfl, hn1, T, _⟩ := hTab
  obtain ⟨aa, ca, rfl, _⟩ := owns_cells T.oa
  obtain ⟨aw, cw, rfl, _⟩ := owns_cells T.ow
  have hn1h : Hid (w3.ownsRow (w.heap.size + 1 + 1) 3 1 (.slice a1 A.length c1) A.length (ints A)) := owns_base hn1 (by omega)
  obtain ⟨n, hnn⟩ : ∃ n, n = A.length := ⟨_, rfl⟩
  have hnA := Lib.hid hnn
  have hn1000 : n ≤ 1000 := by rw [hnn]; exact hAl.out
  rw [← hnn] at hTabh hn1h hpe ⊢
  obtain ⟨tb, htb⟩ : ∃ tb, tb = w3.heap.size := ⟨_, rfl⟩
  obtain ⟨w4, hw4⟩ : ∃ w4, w4 = w3.alloc (.cells #[.slice a1 n c1, .slice aa n ca, .slice aw n cw] 66) := ⟨_, rfl⟩
  obtain ⟨w5, hw5⟩ : ∃ w5, w5 = w4.alloc (.cells #[.bool d, .slice a1 n c1, .slice none 0 0] 25) := ⟨_, rfl⟩
  have hst := plain_start (d := d) htb hw4 hw5
  have hE0h := Lib.hid hst.1
  have hK := Lib.hid hst.2
  have hw5h : Hid (w5 = (w3.alloc (.cells #[.slice a1 n c1, .slice aa n ca, .slice aw n cw] 66)).alloc (.cells #[.bool d, .slice a1 n c1, .slice none 0 0] 25)) := by unfold Hid; rw [hw5, hw4]
  have htbh := Lib.hid htb
  have hlt3 : Hid (w.heap.size + 1 < w3.heap.size) := lt_of_block kz3.out
  have hlt5 : Hid (w3.heap.size ≤ w5.heap.size) := by unfold Hid; rw [hw5, hw4]; simp; omega
  have hAh := Lib.hid hA
  have hlw : w.heap.size < w3.heap.size := by have := hlt3.out; omega
  clear hlo hb3 b2 k0 kz z2 hn1 T hta htw hA hnn htb hw4 hw5 hst hTh hK2 hw2h htab hAl hhi
  go_wp2_with fail
  rw [← hw5h.out, ← htbh.out]
  have c0h := Lib.hid c0
  clear c0 hw5h hlw
  go_loopw [5] (fun iv wr => ∃ (i m : Nat) (b : Option Addr) (c2 : Nat), i ≤ n ∧ iv = .int .i64 i ∧ m = (plainUp A ta tw d i).length ∧ EG w5 wr (tb + 1) d (.slice a1 n c1) (plainUp A ta tw d i) (.slice b m c2)) (fun iv _ => n - (intOf iv).toNat)
  case atStart => exact ⟨0, 0, none, 0, Nat.zero_le _, rfl, rfl, hE0h.out⟩
  case round =>
    clear hE0h
    obtain ⟨i, m, b, c2, hi', rfl, hm, hE⟩ := hrel
    obtain ⟨hbw, d0, d1, d2⟩ := hK.out wr hE.fr
    have hmh := Lib.hid hm
    have hEh := Lib.hid hE
    by_cases hlt : i < n
    · obtain ⟨wk, hwk⟩ : ∃ wk, wk = wr := ⟨_, rfl⟩
      subst hwk
      clear hE hm hbw d1 d2
      go_wp2_with fail
      clear d0
      go_loopw [6] (fun kv wr => ∃ (k m : Nat) (b : Option Addr) (c2 : Nat), k ≤ n ∧ kv = .int .i64 k ∧ m = (plainUp A ta tw d i ++ plainRow A ta tw d i k).length ∧ EG w5 wr (tb + 1) d (.slice a1 n c1) (plainUp A ta tw d i ++ plainRow A ta tw d i k) (.slice b m c2)) (fun kv _ => n - (intOf kv).toNat)
      case atStart => exact ⟨0, m, b, c2, Nat.zero_le _, rfl, by rw [hmh.out]; simp [plainRow], by have := hEh.out; simpa [plainRow] using this⟩
      case round =>
        clear hEh hmh
        obtain ⟨k, m, b, c2, hk, rfl, hm, hE⟩ := hrel
        obtain ⟨hbw, d0, d1, d2⟩ := hK.out wr hE.fr
        by_cases hkl : k < n
        · obtain ⟨a0, ca', w0, cw', n0, cn', g0, h0, e1, e2, e3, x1, x2, x3, x4, x5, x6⟩ := TabAt.read hTabh.out hsa.out hsw.out (i := i) (k := k) (by have := hnA.out; omega) (by have := hnA.out; omega)
          injection e1 with e1 l1 e1'
          injection e2 with e2 l2 e2'
          injection e3 with e3 l3 e3'
          clear l1 l2 l3 e1' e2' e3'
          subst e1; subst e2; subst e3
          rw [← hnA.out] at x3 x5
          have hml : m ≤ 1000000 := by
            rw [hm, List.length_append]
            have h1 := plainUp_len A ta tw d i
            have h2 := plainRow_len A ta tw d i k
            have h3 : i * A.length ≤ 999 * 1000 := Nat.mul_le_mul (by omega) (by have := hnA.out; omega)
            omega
          obtain ⟨U, hU⟩ : ∃ U, U = A.getD i 0 := ⟨_, rfl⟩
          obtain ⟨V, hV⟩ : ∃ V, V = A.getD k 0 := ⟨_, rfl⟩
          obtain ⟨X, hX⟩ : ∃ X, X = atW tw i k := ⟨_, rfl⟩
          have hyes := Lib.hid (plainRow_yes A ta tw d (i := i) (k := k))
          have hno := Lib.hid (plainRow_no A ta tw d (i := i) (k := k))
          obtain ⟨q, hq⟩ : ∃ q, q = atB ta i k := ⟨_, rfl⟩
          rw [← hU] at x1
          rw [← hV] at x2
          rw [← hX] at x6
          rw [← hq] at x4
          rw [← hU, ← hV, ← hX, ← hq] at hyes
          rw [← hq] at hno
          obtain ⟨es, hes⟩ : ∃ es, es = plainUp A ta tw d i ++ plainRow A ta tw d i k := ⟨_, rfl⟩
          rw [← hes] at hE hm
          have hnext : Hid ((q && (d || decide (i < k))) = true → plainUp A ta tw d i ++ plainRow A ta tw d i (k + 1) = es ++ [(U, V, X)]) := fun h => by rw [hyes.out h, ← List.append_assoc, ← hes]
          have hstay : Hid ((q && (d || decide (i < k))) = false → plainUp A ta tw d i ++ plainRow A ta tw d i (k + 1) = es) := fun h => by rw [hno.out h, ← hes]
          have hKc : Hid (∀ W, w5.grownBy W (some (tb + 1)) → W.cell? ⟨tb, 0, none⟩ = some (.slice (some ⟨n0, 0, none⟩) n c1) ∧ W.cell? ⟨tb, 2, none⟩ = some (.slice (some ⟨w0, 0, none⟩) n cw) ∧ W.cell? ⟨n0, i, none⟩ = some (.int .i64 U) ∧ W.cell? ⟨n0, k, none⟩ = some (.int .i64 V) ∧ W.cell? ⟨w0, i, none⟩ = some (.slice (some ⟨h0, 0, none⟩) n n) ∧ W.cell? ⟨h0, k, none⟩ = some (.int .i64 X)) := fun W hW => by
            obtain ⟨hb, f0, _, f2⟩ := hK.out W hW
            exact ⟨f0, f2, cell_below hb x1, cell_below hb x2, cell_below hb x5, cell_below hb x6⟩
          have y1 := cell_below hbw x1
          have y2 := cell_below hbw x2
          have y3 := cell_below hbw x3
          have y4 := cell_below hbw x4
          have y5 := cell_below hbw x5
          have y6 := cell_below hbw x6
          have yd := cell_below hbw c0h.out
          have f2 := hE.at2
          have hzw := lt_of_block hE.blk
          have hEs := hE.fr.size
          have hmh := Lib.hid hm
          have ho : Hid (∀ o, ((wr.drew).alloc o).ownsRow w5.heap.size 33 3 (.slice b m c2) m (edgeCells es)) := fun o => by have := (hE.draw.e).alloc o; rw [← hm] at this; exact this
          have hgh : Hid (EG w5 wr.drew (tb + 1) d (.slice (some ⟨n0, 0, none⟩) n c1) es (.slice b m c2)) := hE.draw
          have hEh := Lib.hid hE
          have hnew : Hid (∀ (j : Nat) u, [Value.int .i64 U, .int .i64 V, .int .i64 X][j]? = some u → ((wr.drew).alloc (.cells #[.int .i64 U, .int .i64 V, .int .i64 X] 33)).cell? ((⟨wr.heap.size, 0, none⟩ : Addr).add j) = some u) := new_three wr.drew _ _ _ _
          clear x1 x2 x3 x4 x5 x6 hm hE hU hV hX hq hes hyes hno hbw
          by_cases hcond : (q && (d || decide (i < k))) = true
          · have hes := Lib.hid (hnext.out hcond)
            obtain ⟨i0, hi0, hz0, hz1, hz2⟩ := info_parts info_edge
            clear hnext hstay hEh
            have hq : q = true := by cases q <;> simp_all
            subst hq
            have hdk : d = true ∨ (d = false ∧ i < k) := by cases d <;> simp_all
            clear hcond
            rcases hdk with rfl | ⟨rfl, hik⟩
            all_goals
              go_wp2_with fail
              have f2' : ∀ o, (wr.drew.alloc o).cell? ⟨tb + 1, 2, none⟩ = some (.slice b m c2) := fun o => cell_alloc (w := wr.drew) f2 o
              refine wp_region_noPanic ?_
              refine wp_region_held_drew (S := fun w' => w'.cell? ⟨tb, 0, none⟩ = some (.slice (some ⟨n0, 0, none⟩) n c1) ∧ w'.cell? ⟨tb, 2, none⟩ = some (.slice (some ⟨w0, 0, none⟩) n cw) ∧ w'.cell? ⟨n0, i, none⟩ = some (.int .i64 U) ∧ w'.cell? ⟨n0, k, none⟩ = some (.int .i64 V) ∧ w'.cell? ⟨w0, i, none⟩ = some (.slice (some ⟨h0, 0, none⟩) n n) ∧ w'.cell? ⟨h0, k, none⟩ = some (.int .i64 X)) (by kernel_rfl) ?_ (fun hHeld => ?_)
              · (try dsimp only); go_keep
              refine wpAnyH_take (i := 0) (oi := _) (v := ?_) rfl (by kernel_rfl) (by kernel_rfl) (by kernel_rfl) (fun _ _ _ h => h) (Or.inl ⟨by rfl, ?_⟩) (by assumption) ?_
              rotate_left
              · intro w hSw; (try dsimp only at hSw); go_simp; try with_reducible rfl
              try simp only [Act.put, List.setIfInBounds_toArray, List.set_cons_zero, List.set_cons_succ]
              refine wpAnyH_take (i := 2) (oi := _) (v := ?_) rfl (by kernel_rfl) (by kernel_rfl) (by kernel_rfl) (fun _ _ _ h => h) (Or.inl ⟨by rfl, ?_⟩) (by assumption) ?_
              rotate_left
              · intro w hSw; (try dsimp only at hSw); go_simp; try with_reducible rfl
              try simp only [Act.put, List.setIfInBounds_toArray, List.set_cons_zero, List.set_cons_succ]
              refine wpAnyH_take (i := 3) (oi := _) (v := ?_) rfl (by kernel_rfl) (by kernel_rfl) (by kernel_rfl) (fun _ _ _ h => h) (Or.inl ⟨by rfl, ?_⟩) (by assumption) ?_
              rotate_left
              · intro w hSw; (try dsimp only at hSw); go_simp; try with_reducible rfl
              try simp only [Act.put, List.setIfInBounds_toArray, List.set_cons_zero, List.set_cons_succ]
              refine wpAnyH_take (i := 4) (oi := _) (v := ?_) rfl (by kernel_rfl) (by kernel_rfl) (by kernel_rfl) (fun _ _ _ h => h) (Or.inl ⟨by rfl, ?_⟩) (by assumption) ?_
              rotate_left
              · intro w hSw; (try dsimp only at hSw); go_simp; try with_reducible rfl
              try simp only [Act.put, List.setIfInBounds_toArray, List.set_cons_zero, List.set_cons_succ]
              refine wpAnyH_take (i := 5) (oi := _) (v := ?_) rfl (by kernel_rfl) (by kernel_rfl) (by kernel_rfl) (fun _ _ _ h => h) (Or.inl ⟨by rfl, ?_⟩) (by assumption) ?_
              rotate_left
              · intro w hSw; (try dsimp only at hSw); go_simp; try with_reducible rfl
              try simp only [Act.put, List.setIfInBounds_toArray, List.set_cons_zero, List.set_cons_succ]
              refine wpAnyH_take (i := 6) (oi := _) (v := ?_) rfl (by kernel_rfl) (by kernel_rfl) (by kernel_rfl) (fun _ _ _ h => h) (Or.inl ⟨by rfl, ?_⟩) (by assumption) ?_
              rotate_left
              · intro w hSw; (try dsimp only at hSw); go_simp; try with_reducible rfl
              try simp only [Act.put, List.setIfInBounds_toArray, List.set_cons_zero, List.set_cons_succ]
              refine wpAnyH_take (i := 7) (oi := _) (v := ?_) rfl (by kernel_rfl) (by kernel_rfl) (by kernel_rfl) (fun _ _ _ h => h) (Or.inl ⟨by rfl, ?_⟩) (by assumption) ?_
              rotate_left
              · intro w hSw; (try dsimp only at hSw); go_simp; try with_reducible rfl
              try simp only [Act.put, List.setIfInBounds_toArray, List.set_cons_zero, List.set_cons_succ]
              refine wpAnyH_take (i := 8) (oi := _) (v := ?_) rfl (by kernel_rfl) (by kernel_rfl) (by kernel_rfl) (fun _ _ _ h => h) (Or.inl ⟨by rfl, ?_⟩) (by assumption) ?_
              rotate_left
              · intro w hSw; (try dsimp only at hSw); go_simp; try with_reducible rfl
              try simp only [Act.put, List.setIfInBounds_toArray, List.set_cons_zero, List.set_cons_succ]
              refine wpAnyH_take (i := 9) (oi := _) (v := ?_) rfl (by kernel_rfl) (by kernel_rfl) (by kernel_rfl) (fun _ _ _ h => h) (Or.inl ⟨by rfl, ?_⟩) (by assumption) ?_
              rotate_left
              · intro w hSw; (try dsimp only at hSw); go_simp; try with_reducible rfl
              try simp only [Act.put, List.setIfInBounds_toArray, List.set_cons_zero, List.set_cons_succ]
              refine wpAnyH_take (i := 10) (oi := _) (v := ?_) rfl (by kernel_rfl) (by kernel_rfl) (by kernel_rfl) (fun _ _ _ h => h) (Or.inl ⟨by rfl, ?_⟩) (by assumption) ?_
              rotate_left
              · intro w hSw; (try dsimp only at hSw); go_simp; try with_reducible rfl
              try simp only [Act.put, List.setIfInBounds_toArray, List.set_cons_zero, List.set_cons_succ]
              refine wpAnyH_take (i := 11) (oi := _) (v := ?_) rfl (by kernel_rfl) (by kernel_rfl) (by kernel_rfl) (fun _ _ _ h => h) (Or.inl ⟨by rfl, ?_⟩) (by assumption) ?_
              rotate_left
              · intro w hSw; (try dsimp only at hSw); go_simp; try with_reducible rfl
              try simp only [Act.put, List.setIfInBounds_toArray, List.set_cons_zero, List.set_cons_succ]
              refine wpAnyH_take (i := 12) (oi := _) (v := ?_) rfl (by kernel_rfl) (by kernel_rfl) (by kernel_rfl) (fun _ _ _ h => h) (Or.inl ⟨by rfl, ?_⟩) (by assumption) ?_
              rotate_left
              · intro w hSw; (try dsimp only at hSw); go_simp; try with_reducible rfl
              try simp only [Act.put, List.setIfInBounds_toArray, List.set_cons_zero, List.set_cons_succ]
              refine wpAnyH_take (i := 13) (oi := _) (v := ?_) rfl (by kernel_rfl) (by kernel_rfl) (by kernel_rfl) (fun _ _ _ h => h) (Or.inl ⟨by rfl, ?_⟩) (by assumption) ?_
              rotate_left
              · intro w hSw; (try dsimp only at hSw); go_simp; try with_reducible rfl
              try simp only [Act.put, List.setIfInBounds_toArray, List.set_cons_zero, List.set_cons_succ]
              refine wpAnyH_take (i := 14) (oi := _) (v := ?_) rfl (by kernel_rfl) (by kernel_rfl) (by kernel_rfl) (fun _ _ _ h => h) (Or.inl ⟨by rfl, ?_⟩) (by assumption) ?_
              rotate_left
              · intro w hSw; (try dsimp only at hSw); go_simp; try with_reducible rfl
              try simp only [Act.put, List.setIfInBounds_toArray, List.set_cons_zero, List.set_cons_succ]
              refine wpAnyH_take (i := 15) (oi := _) (v := ?_) rfl (by kernel_rfl) (by kernel_rfl) (by kernel_rfl) (fun _ _ _ h => h) (Or.inl ⟨by rfl, ?_⟩) (by assumption) ?_
              rotate_left
              · intro w hSw; (try dsimp only at hSw); go_simp; try with_reducible rfl
              try simp only [Act.put, List.setIfInBounds_toArray, List.set_cons_zero, List.set_cons_succ]
              refine wpAnyH_take (i := 16) (oi := _) (v := ?_) rfl (by kernel_rfl) (by kernel_rfl) (by kernel_rfl) (fun _ _ _ h => h) (Or.inl ⟨by rfl, ?_⟩) (by assumption) ?_
              rotate_left
              · intro w hSw; (try dsimp only at hSw); go_simp; try with_reducible rfl
              try simp only [Act.put, List.setIfInBounds_toArray, List.set_cons_zero, List.set_cons_succ]
              refine wpAnyH_take (i := 17) (oi := _) (v := ?_) rfl (by kernel_rfl) (by kernel_rfl) (by kernel_rfl) (fun _ _ _ h => h) (Or.inl ⟨by rfl, ?_⟩) (by assumption) ?_
              rotate_left
              · intro w hSw; (try dsimp only at hSw); go_simp; try with_reducible rfl
              try simp only [Act.put, List.setIfInBounds_toArray, List.set_cons_zero, List.set_cons_succ]
              refine wpAnyH_take (i := 18) (oi := _) (v := ?_) rfl (by kernel_rfl) (by kernel_rfl) (by kernel_rfl) (fun _ _ _ h => h) (Or.inl ⟨by rfl, ?_⟩) (by assumption) ?_
              rotate_left
              · intro w hSw; (try dsimp only at hSw); go_simp; try with_reducible rfl
              try simp only [Act.put, List.setIfInBounds_toArray, List.set_cons_zero, List.set_cons_succ]
              refine wpAnyH_take (i := 19) (oi := _) (v := ?_) rfl (by kernel_rfl) (by kernel_rfl) (by kernel_rfl) (fun _ _ _ h => h) (Or.inl ⟨by rfl, ?_⟩) (by assumption) ?_
              rotate_left
              · intro w hSw; (try dsimp only at hSw); go_simp; try with_reducible rfl
              try simp only [Act.put, List.setIfInBounds_toArray, List.set_cons_zero, List.set_cons_succ]
              refine wpAnyH_take (i := 20) (oi := _) (v := ?_) rfl (by kernel_rfl) (by kernel_rfl) (by kernel_rfl) (fun _ _ _ h => h) (Or.inl ⟨by rfl, ?_⟩) (by assumption) ?_
              rotate_left
              · intro w hSw; (try dsimp only at hSw); go_simp; try with_reducible rfl
              try simp only [Act.put, List.setIfInBounds_toArray, List.set_cons_zero, List.set_cons_succ]
              refine wpAnyH_ready (rs := [1, 21]) (by kernel_rfl) (by simp) ?_
              refine AllReadyH.cons (o := _) rfl (fun K hK => ?_) ?_
              · skip
                go_simp
                refine hK.out _ _ ?_ (fun hHeld => ?_)
                · (try dsimp only); go_keep
                clear hK K
                try simp only [Act.put, List.setIfInBounds_toArray, List.set_cons_zero, List.set_cons_succ]
                refine wpAnyH_ready (rs := [21]) (by kernel_rfl) (by simp) ?_
                refine AllReadyH.cons (o := _) rfl (fun K hK => ?_) ?_
                · skip
                  go_simp
                  refine hK.out _ _ ?_ (fun hHeld => ?_)
                  · (try dsimp only); go_keep
                  clear hK K
                  try simp only [Act.put, List.setIfInBounds_toArray, List.set_cons_zero, List.set_cons_succ]
                  refine wpAnyH_ready (rs := [22]) (by kernel_rfl) (by simp) ?_
                  refine AllReadyH.cons (o := _) rfl (fun K hK => ?_) ?_
                  · skip
                    refine step_append_lies _ rfl (.tmp 46) (.tmp 66) 23 rfl w5.heap.size 33 i0 (.agg #[.int .i64 0, .int .i64 0, .int .i64 0]) 3 24 Tryz.underlying23 hi0 hz0 hz1 hz2 rfl (by omega) (.slice b m c2) m (edgeCells es) rfl (ho.out _) ⟨wr.heap.size, 0, none⟩ 1 1 [.int .i64 U, .int .i64 V, .int .i64 X] rfl rfl hnew.out (one_edge _ _ _) (by omega) (by unfold maxLen; omega) (by omega) (by show _ ≤ ((wr.drew).alloc _).heap.size; simp; omega) (wr.heap.size + 1) (by simp) ?_
                    intro g2 c3 w6 hown6 hg6 hat6 _
                    obtain ⟨s1, s2, s3⟩ := hgh.out.add (x := (U, V, X)) hmh.out hg6 hown6
                    have s4 := hKc.out w6 (hgh.out.mid hg6)
                    have s7 := fun v => hKc.out _ (hgh.out.mid2 hg6 v)
                    clear hown6 hg6 hat6
                    refine hK.out _ _ ?_ (fun hHeld => ?_)
                    · (try dsimp only); exact s4
                    clear hK K
                    try simp only [Act.put, List.setIfInBounds_toArray, List.set_cons_zero, List.set_cons_succ]
                    refine wpAnyH_take (i := 23) (oi := _) (v := ?_) rfl (by kernel_rfl) (by kernel_rfl) (by kernel_rfl) (fun _ _ _ h => h) (Or.inl ⟨by rfl, ?_⟩) (by assumption) ?_
                    rotate_left
                    · intro w hSw; (try dsimp only at hSw); go_simp; try with_reducible rfl
                    try simp only [Act.put, List.setIfInBounds_toArray, List.set_cons_zero, List.set_cons_succ]
                    refine wpAnyH_ready (rs := [24]) (by kernel_rfl) (by simp) ?_
                    refine AllReadyH.cons (o := _) rfl (fun K hK => ?_) ?_
                    · skip
                      go_simp
                      refine hK.out _ _ ?_ (fun hHeld => ?_)
                      · (try dsimp only); exact s7 _
                      clear hK K
                      try simp only [Act.put, List.setIfInBounds_toArray, List.set_cons_zero, List.set_cons_succ]
                      refine wpAnyH_done (by kernel_rfl) ?_ _
                      refine NoPanic.normal ?_
                      go_wp2_with fail
                      go_roundw
                      case rel => exact ⟨k + 1, m + 1, _, _, by omega, by go_num, by rw [hes.out, List.length_append, ← hmh.out]; rfl, by rw [hes.out]; exact s3.out⟩
                      case measure => simp [intOf]; omega
                    exact AllReadyH.nil
                  exact AllReadyH.nil
                exact AllReadyH.nil
              refine AllReadyH.cons (o := _) rfl (fun K hK => ?_) ?_
              · skip
                go_simp
                refine hK.out _ _ ?_ (fun hHeld => ?_)
                · (try dsimp only); go_keep
                clear hK K
                try simp only [Act.put, List.setIfInBounds_toArray, List.set_cons_zero, List.set_cons_succ]
                refine wpAnyH_ready (rs := [1]) (by kernel_rfl) (by simp) ?_
                refine AllReadyH.cons (o := _) rfl (fun K hK => ?_) ?_
                · skip
                  go_simp
                  refine hK.out _ _ ?_ (fun hHeld => ?_)
                  · (try dsimp only); go_keep
                  clear hK K
                  try simp only [Act.put, List.setIfInBounds_toArray, List.set_cons_zero, List.set_cons_succ]
                  refine wpAnyH_ready (rs := [22]) (by kernel_rfl) (by simp) ?_
                  refine AllReadyH.cons (o := _) rfl (fun K hK => ?_) ?_
                  · skip
                    refine step_append_lies _ rfl (.tmp 46) (.tmp 66) 23 rfl w5.heap.size 33 i0 (.agg #[.int .i64 0, .int .i64 0, .int .i64 0]) 3 24 Tryz.underlying23 hi0 hz0 hz1 hz2 rfl (by omega) (.slice b m c2) m (edgeCells es) rfl (ho.out _) ⟨wr.heap.size, 0, none⟩ 1 1 [.int .i64 U, .int .i64 V, .int .i64 X] rfl rfl hnew.out (one_edge _ _ _) (by omega) (by unfold maxLen; omega) (by omega) (by show _ ≤ ((wr.drew).alloc _).heap.size; simp; omega) (wr.heap.size + 1) (by simp) ?_
                    intro g2 c3 w6 hown6 hg6 hat6 _
                    obtain ⟨s1, s2, s3⟩ := hgh.out.add (x := (U, V, X)) hmh.out hg6 hown6
                    have s4 := hKc.out w6 (hgh.out.mid hg6)
                    have s7 := fun v => hKc.out _ (hgh.out.mid2 hg6 v)
                    clear hown6 hg6 hat6
                    refine hK.out _ _ ?_ (fun hHeld => ?_)
                    · (try dsimp only); exact s4
                    clear hK K
                    try simp only [Act.put, List.setIfInBounds_toArray, List.set_cons_zero, List.set_cons_succ]
                    refine wpAnyH_take (i := 23) (oi := _) (v := ?_) rfl (by kernel_rfl) (by kernel_rfl) (by kernel_rfl) (fun _ _ _ h => h) (Or.inl ⟨by rfl, ?_⟩) (by assumption) ?_
                    rotate_left
                    · intro w hSw; (try dsimp only at hSw); go_simp; try with_reducible rfl
                    try simp only [Act.put, List.setIfInBounds_toArray, List.set_cons_zero, List.set_cons_succ]
                    refine wpAnyH_ready (rs := [24]) (by kernel_rfl) (by simp) ?_
                    refine AllReadyH.cons (o := _) rfl (fun K hK => ?_) ?_
                    · skip
                      go_simp
                      refine hK.out _ _ ?_ (fun hHeld => ?_)
                      · (try dsimp only); exact s7 _
                      clear hK K
                      try simp only [Act.put, List.setIfInBounds_toArray, List.set_cons_zero, List.set_cons_succ]
                      refine wpAnyH_done (by kernel_rfl) ?_ _
                      refine NoPanic.normal ?_
                      go_wp2_with fail
                      go_roundw
                      case rel => exact ⟨k + 1, m + 1, _, _, by omega, by go_num, by rw [hes.out, List.length_append, ← hmh.out]; rfl, by rw [hes.out]; exact s3.out⟩
                      case measure => simp [intOf]; omega
                    exact AllReadyH.nil
                  exact AllReadyH.nil
                exact AllReadyH.nil
              exact AllReadyH.nil
          · have hcf : (q && (d || decide (i < k))) = false := by simpa using hcond
            have hes := Lib.hid (hstay.out hcf)
            clear hnext hstay hgh ho hnew hcond
            have hqd : q = false ∨ (q = true ∧ d = false ∧ ¬ i < k) := by cases q <;> cases d <;> simp_all
            clear hcf
            rcases hqd with rfl | ⟨rfl, rfl, hik⟩
            all_goals
              go_wp2_with fail
              go_roundw
              case rel => exact ⟨k + 1, m, b, c2, by omega, by go_num, by rw [hes.out]; exact hmh.out, by rw [hes.out]; exact hEh.out⟩
              case measure => simp [intOf]; omega
        · have hkn : k = n := by omega
          subst hkn
          have hfin : Hid (m = (plainUp A ta tw d (i + 1)).length ∧ EG w5 wr (tb + 1) d (.slice a1 k c1) (plainUp A ta tw d (i + 1)) (.slice b m c2)) := by
            unfold Hid
            rw [plainUp_succ, ← hnA.out]
            exact ⟨hm, hE⟩
          clear hE hm hbw d1 d2
          go_wp2_with fail
          go_roundw
          case rel => exact ⟨i + 1, m, b, c2, by omega, by go_num, hfin.out.1, hfin.out.2⟩
          case measure => simp [intOf]; omega
    · have hin : i = n := by omega
      subst hin
      rw [hpe.out] at hm hE
      have o0 := hE.at0
      have o1 := hE.at1
      have o2 := hE.at2
      have dz := (hbw.block _ hlt3.out).trans kz3.out
      obtain ⟨y0, y1, y2, y3, y4, y5, y6, y7, y8⟩ := ebox3 dz (.bool d) (.slice a1 i c1) (.slice b m c2)
      have hfin : Hid (PlainPost w g (.returned (.agg #[.bool d, .slice a1 i c1, .slice b m c2])) (((wr.setCell ⟨w.heap.size + 1, 0, none⟩ (.bool d)).setCell ⟨w.heap.size + 1, 1, none⟩ (.slice a1 i c1)).setCell ⟨w.heap.size + 1, 2, none⟩ (.slice b m c2))) := by
        have hn1 := hn1h.out
        unfold Hid
        rw [hnA.out, hAh.out] at hE hn1 ⊢
        exact plain_done (by omega) hlt3.out hlt5.out hm hE b3.out hbw hdh.out hn1
      clear hE hm hbw hpe hn1h hEh hmh dz
      go_wp2_with fail
      (try simp only [Exit.inBlock, Exit.then])
      refine bodyPost_ret (v := .agg #[.bool d, .slice a1 i c1, .slice b m c2]) (by simp [results, show Tryz.func8.results = #[.cell 2 25] from rfl, go_sem, y6, y7, y8]) rfl ?_
      exact hfin.out
end Go.Proofs.YtgkimjjodhnmiaaGreat
