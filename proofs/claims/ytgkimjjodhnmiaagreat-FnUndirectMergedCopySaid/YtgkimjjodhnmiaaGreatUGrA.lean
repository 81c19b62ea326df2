/- Edges and weights of a plain graph, whether there is an edge or not.
   graph.UndirectWeighted over a plain graph: Nodes, From and Weight; the function that merges. -/
import Derived.Test.YtgkimjjodhnmiaaGreatTabW
import Derived.Test.YtgkimjjodhnmiaaGreatCopyA
import Derived.Test.YtgkimjjodhnmiaaGreatUPair34
import Derived.Test.YtgkimjjodhnmiaaGreatMrgLaw
namespace Go.Proofs.YtgkimjjodhnmiaaGreat
open Go.RowKit

/-- Between x and y there is no arc. -/
structure NoArc (ids : List Int) (outs : List (List Arc)) (x y : Int) : Prop where
  hx : x ∈ ids
  hy : y ∈ ids
  no : arcHas (outs.getD (posOf ids x) []) (posOf ids y) = false

set_option maxRecDepth 100000 in
set_option maxHeartbeats 1000000 in
theorem findNo_any (pb : Nat) (ids : List Int) (outs ins : List (List Arc)) (x y : Int) (w : World) (hids : ids.length ≤ 1048575) (hp : PlainAt w pb ids outs ins) (ha : NoArc ids outs x y) :
    Calls Tryz.prog 143 #[.pointer (some ⟨pb, 0, none⟩), .int .i64 x, .int .i64 y] w
      fun e w' => e = .returned (.tuple #[arcv (0, 0), .bool false]) ∧ Below w.heap.size w w' := by
  obtain ⟨hx, hy, hno⟩ := ha
  have hp1 := hp.below (alloc_below w (.cells #[.int .i64 0, .float .f64 0] 148))
  obtain ⟨ai, ci, h0, hc0⟩ := hp1.row
  obtain ⟨gt, h1, hlen, hrow⟩ := hp1.out
  obtain ⟨hpl, hpe⟩ := posOf_mem hp1.up hx
  obtain ⟨hql, hqe⟩ := posOf_mem hp1.up hy
  have hl : outs[posOf ids x]? = some (outs.getD (posOf ids x) []) := by simp [hlen, hpl]
  obtain ⟨a, c, h2, hc2⟩ := hrow _ _ hl
  have hro := hp1.okOut _ (List.mem_of_getElem? hl)
  have hsh := asc_short hro
  have hpx := Lib.hid (pindex_any pb ai ids.length ci ids x _ h0 rfl (by omega) hc0 hp1.up)
  have hpy := Lib.hid (pindex_any pb ai ids.length ci ids y _ h0 rfl (by omega) hc0 hp1.up)
  have hd : decide (x ∈ ids) = true := decide_eq_true hx
  have hd2 : decide (y ∈ ids) = true := decide_eq_true hy
  obtain ⟨t, hto⟩ : ∃ t, t = posOf ids y := ⟨_, rfl⟩
  rw [← hto] at hpy hql hno
  generalize outs.getD (posOf ids x) [] = l at *
  have hse := Lib.hid (fun (w : World) (h : Cells w a (arcCells l)) => searchArc_any 145 (fun args w => by simp [go_sem]) findCmp_any a l.length c l t w rfl (by omega) (by omega) (fun z hz => by have := hro.2 z hz; omega) h hro.1)
  rw [hno] at hse
  have hc2h := Lib.hid hc2
  obtain ⟨p0, hp0⟩ : ∃ p, p = arcPos l t := ⟨_, rfl⟩
  rw [← hp0] at hse
  clear hrow hl hp hp1 hc0 hro hpe hx hy hqe hto hc2 hno hp0
  go_enter Tryz.func143, Tryz.ntmps143
  go_wp2_with (go_at_call 39; first | ((with_reducible refine (unhide hpx).mono ?_); rintro e w9 ⟨rfl, rfl⟩) | ((with_reducible refine (unhide hpy).mono ?_); rintro e w9 ⟨rfl, rfl⟩))
  refine (unhide hse _ hc2h.out).mono ?_
  rintro e w2 ⟨rfl, hb2⟩
  have k1 := cell_below hb2 h1
  have hblk : w2.heap[w.heap.size]? = some (.cells #[.int .i64 0, .float .f64 0] 148 (0, 0)) := (hb2.block _ (by simp)).trans (heap_alloc_new w _)
  have f0 : w2.frozen? ⟨w.heap.size, 0, none⟩ = false := by simp [World.frozen?, hblk]
  have p0 : w2.cell? ⟨w.heap.size, 0, none⟩ = some (.int .i64 0) := by simp [World.cell?, hblk]
  have p9 : w2.cell? ⟨w.heap.size, 1, none⟩ = some (.float .f64 0) := by simp [World.cell?, hblk]
  have hblk2 : ∀ u, (w2.setCell ⟨w.heap.size, 0, none⟩ u).heap[w.heap.size]? = some (.cells #[u, .float .f64 0] 148 (0, 0)) := fun u => (heap_set_self hblk 0 _).trans rfl
  have f1 : ∀ u, (w2.setCell ⟨w.heap.size, 0, none⟩ u).frozen? ⟨w.heap.size, 1, none⟩ = false := fun u => by simp [World.frozen?, hblk2]
  have p1 : ∀ u, (w2.setCell ⟨w.heap.size, 0, none⟩ u).cell? ⟨w.heap.size, 1, none⟩ = some (.float .f64 0) := fun u => by simp [World.cell?, hblk2]
  have hblk3 : ∀ u v, ((w2.setCell ⟨w.heap.size, 0, none⟩ u).setCell ⟨w.heap.size, 1, none⟩ v).heap[w.heap.size]? = some (.cells #[u, v] 148 (0, 0)) := fun u v => (heap_set_self (hblk2 u) 1 _).trans rfl
  have r0 : ∀ u v, ((w2.setCell ⟨w.heap.size, 0, none⟩ u).setCell ⟨w.heap.size, 1, none⟩ v).cell? ⟨w.heap.size, 0, none⟩ = some u := fun u v => by simp [World.cell?, hblk3]
  have r1 : ∀ u v, ((w2.setCell ⟨w.heap.size, 0, none⟩ u).setCell ⟨w.heap.size, 1, none⟩ v).cell? ⟨w.heap.size, 1, none⟩ = some v := fun u v => by simp [World.cell?, hblk3]
  have hbf := Lib.hid ((alloc_below w (.cells #[.int .i64 0, .float .f64 0] 148)).trans (hb2.mono (show _ ≤ (w.alloc _).heap.size by simp)))
  have hsf := store_float Tryz.prog
  have f1' := f1 (.int .i64 0)
  have p1' := p1 (.int .i64 0)
  have r0' := r0 (.int .i64 0) (.float .f64 0)
  have r1' := r1 (.int .i64 0) (.float .f64 0)
  clear hb2 h1 h2 hse hpx hpy h0 hblk hblk2 hblk3 f1 p1 r0 r1
  go_wp2_with fail
  (try simp only [Exit.inBlock, Exit.then])
  refine bodyPost_ret (v := .tuple #[arcv (0, 0), .bool false]) ?_ rfl ?_
  · simp [results, show Tryz.func143.results = #[.cell 6 148, .tmp 7] from rfl, arcv, go_sem, r0', r1']
  exact ⟨rfl, Below.setCell (p := ⟨w.heap.size, 1, none⟩) (Below.setCell (p := ⟨w.heap.size, 0, none⟩) hbf.out (Nat.le_refl _) _) (Nat.le_refl _) _⟩

set_option maxRecDepth 100000 in
set_option maxHeartbeats 1000000 in
theorem hasNoDir_any (pb : Nat) (ids : List Int) (outs ins : List (List Arc)) (x y : Int) (w : World) (hids : ids.length ≤ 1048575) (hp : PlainAt w pb ids outs ins) (ha : NoArc ids outs x y) :
    Calls Tryz.prog 137 #[.agg #[.pointer (some ⟨pb, 0, none⟩)], .int .i64 x, .int .i64 y] w
      fun e w' => e = .returned (.bool false) ∧ Below w.heap.size w w' := by
  have hf := Lib.hid (findNo_any pb ids outs ins x y (w.alloc (.cells #[.pointer (some ⟨pb, 0, none⟩)] 52)) hids (hp.below (alloc_below w _)) ha)
  have hsf := store_float Tryz.prog
  clear hp ha
  simp only [arcv] at *
  go_enter Tryz.func137, Tryz.ntmps137
  go_wp2_with fail
  refine (unhide hf).mono ?_
  rintro e w2 ⟨rfl, hb2⟩
  have hb2h := Lib.hid (below_boxed hb2)
  clear hb2
  go_wp2_with fail
  go_ret
  exact ⟨rfl, hb2h.out.alloc (by have := hb2h.out.size; omega) _⟩

set_option maxRecDepth 100000 in
set_option maxHeartbeats 1000000 in
theorem edgeNoDir_any (pb : Nat) (ids : List Int) (outs ins : List (List Arc)) (x y : Int) (w : World) (hids : ids.length ≤ 1048575) (hp : PlainAt w pb ids outs ins) (ha : NoArc ids outs x y) :
    Calls Tryz.prog 129 #[.agg #[.pointer (some ⟨pb, 0, none⟩)], .int .i64 x, .int .i64 y] w
      fun e w' => e = .returned .nilIface ∧ Below w.heap.size w w' := by
  have hh := Lib.hid (hasNoDir_any pb ids outs ins x y (w.alloc (.cells #[.pointer (some ⟨pb, 0, none⟩)] 52)) hids (hp.below (alloc_below w _)) ha)
  clear hp ha
  go_enter Tryz.func129, Tryz.ntmps129
  go_wp2_with fail
  refine (unhide hh).mono ?_
  rintro e w2 ⟨rfl, hb2⟩
  have hb2h := Lib.hid (below_boxed hb2)
  clear hb2 hh
  go_wp2_with fail
  go_ret
  exact ⟨rfl, hb2h.out⟩

/-- An arc with its weight, or none. -/
def ArcIs (ids : List Int) (outs : List (List Arc)) (x y : Int) (b : Bool) (wt : Nat) : Prop :=
  if b then ∃ t, ArcAt ids outs x y t wt else NoArc ids outs x y ∧ wt = flInf

theorem edgeD_any {pb : Nat} {ids : List Int} {outs ins : List (List Arc)} {x y : Int} {b : Bool} {wt : Nat} {w : World} (hids : ids.length ≤ 1048575) (hp : PlainAt w pb ids outs ins) (ha : ArcIs ids outs x y b wt) :
    Calls Tryz.prog 129 #[.agg #[.pointer (some ⟨pb, 0, none⟩)], .int .i64 x, .int .i64 y] w fun e w' => ∃ v, e = .returned v ∧ Below w.heap.size w w' := by
  cases b
  · exact (edgeNoDir_any pb ids outs ins x y w hids hp ha.1).mono fun _ _ ⟨h1, h2⟩ => ⟨_, h1, h2⟩
  · obtain ⟨t, ht⟩ := ha
    exact (edgeDir_any pb ids outs ins x y t wt w hids hp ht).mono fun _ _ ⟨h1, h2⟩ => ⟨_, h1, h2⟩

set_option maxRecDepth 100000 in
set_option maxHeartbeats 1000000 in
theorem pweight_any {pb : Nat} {ids : List Int} {outs ins : List (List Arc)} {x y : Int} {b : Bool} {wt : Nat} {w : World} (hids : ids.length ≤ 1048575) (hp : PlainAt w pb ids outs ins) (hxy : x ≠ y) (ha : ArcIs ids outs x y b wt) :
    Calls Tryz.prog 142 #[.pointer (some ⟨pb, 0, none⟩), .int .i64 x, .int .i64 y] w fun e w' => e = .returned (.tuple #[.float .f64 wt, .bool b]) ∧ Below w.heap.size w w' := by
  have hne : (x == y) = false := by simpa using hxy
  have hsf := store_float Tryz.prog
  cases b
  · obtain ⟨hno, rfl⟩ := ha
    have hf := Lib.hid (findNo_any pb ids outs ins x y w hids hp hno)
    clear hp hno
    simp only [arcv] at *
    go_enter Tryz.func142, Tryz.ntmps142
    go_wp2_with fail
    refine (unhide hf).mono ?_
    rintro e w2 ⟨rfl, hb2⟩
    have hb2h := Lib.hid hb2
    clear hb2 hf
    go_wp2_with fail
    refine (inf_any _).mono ?_
    rintro e w' ⟨rfl, rfl⟩
    go_wp2_with fail
    go_ret2
    exact ⟨rfl, hb2h.out.alloc (by have := hb2h.out.size; omega) _⟩
  · obtain ⟨t, ht⟩ := ha
    have hf := Lib.hid (find_any pb ids outs ins x y t wt w hids hp ht)
    clear hp ht
    simp only [arcv] at *
    go_enter Tryz.func142, Tryz.ntmps142
    go_wp2_with fail
    refine (unhide hf).mono ?_
    rintro e w2 ⟨rfl, hb2⟩
    have hb2h := Lib.hid hb2
    clear hb2 hf
    go_wp2_with fail
    go_ret2
    exact ⟨rfl, hb2h.out.alloc (by have := hb2h.out.size; omega) _⟩

set_option maxRecDepth 100000 in
set_option maxHeartbeats 1000000 in
theorem weightD_any {pb : Nat} {ids : List Int} {outs ins : List (List Arc)} {x y : Int} {b : Bool} {wt : Nat} {w : World} (hids : ids.length ≤ 1048575) (hp : PlainAt w pb ids outs ins) (hxy : x ≠ y) (ha : ArcIs ids outs x y b wt) :
    Calls Tryz.prog 135 #[.agg #[.pointer (some ⟨pb, 0, none⟩)], .int .i64 x, .int .i64 y] w fun e w' => e = .returned (.tuple #[.float .f64 wt, .bool b]) ∧ Below w.heap.size w w' := by
  have hf := Lib.hid (pweight_any hids (hp.below (alloc_below w (.cells #[.pointer (some ⟨pb, 0, none⟩)] 52))) hxy ha)
  clear hp ha hxy
  go_enter Tryz.func135, Tryz.ntmps135
  go_wp2_with fail
  refine (unhide hf).mono ?_
  rintro e w2 ⟨rfl, hb2⟩
  have hb2h := Lib.hid (below_boxed hb2)
  clear hb2 hf
  go_wp2_with fail
  go_ret2
  exact ⟨rfl, hb2h.out⟩

set_option maxHeartbeats 1000000 in
theorem toDir_any (pb : Nat) (ids : List Int) (outs ins : List (List Arc)) (x : Int) (w : World) (hids : ids.length ≤ 1048575) (hp : PlainAt w pb ids outs ins) (hx : x ∈ ids) :
    Calls Tryz.prog 134 #[.agg #[.pointer (some ⟨pb, 0, none⟩)], .int .i64 x] w (FromPost w ids ins x) := by
  have hp1 := hp.below (alloc_below w (.cells #[.pointer (some ⟨pb, 0, none⟩)] 52))
  obtain ⟨ai, ci, h0, hc0⟩ := hp1.row
  obtain ⟨gt, h1, hlen, hrow⟩ := hp1.inn
  obtain ⟨hpl, hpe⟩ := posOf_mem hp1.up hx
  have hl : ins[posOf ids x]? = some (ins.getD (posOf ids x) []) := by simp [hlen, hpl]
  obtain ⟨a, c, h2, hc2⟩ := hrow _ _ hl
  have hro := hp1.okIn _ (List.mem_of_getElem? hl)
  have hsh := asc_short hro
  have hpi := Lib.hid (pindex_any pb ai ids.length ci ids x _ h0 rfl (by omega) hc0 hp1.up)
  have hd : decide (x ∈ ids) = true := decide_eq_true hx
  unfold FromPost
  generalize ins.getD (posOf ids x) [] = l at *
  have hen := Lib.hid (ends_any pb ids ai ci a l.length c l (w.alloc (.cells #[.pointer (some ⟨pb, 0, none⟩)] 52)).drew rfl (by omega) (by omega) h0 (show Cells (w.alloc _).drew _ _ from hc0.drewN 1) (show Cells (w.alloc _).drew _ _ from hc2.drewN 1) hro.2)
  clear hrow hl hp1 hp hc0 hc2 hro hpe hx
  go_enter Tryz.func134, Tryz.ntmps134
  go_wp2_with (go_at_call 39; refine (unhide hpi).mono ?_; rintro e w' ⟨rfl, rfl⟩)
  go_region_law (go_simp; go_at_call 139; refine (unhide hen).mono ?_; rintro e w2 ⟨ib, rfl, hit, hb⟩)
  all_goals
    have hfin : Hid (IterAt w2 w.heap.size w2.heap.size ib 0 (endsOf ids l) ∧ Below w.heap.size w w2) := by
      exact ⟨hit.mono (show _ ≤ (w.alloc _).heap.size by simp), ((alloc_below w _).trans ((drew_below (w.alloc _)).mono (by simp))).trans (hb.mono (show _ ≤ (w.alloc _).heap.size by simp))⟩
    clear hit hb
    go_wp2
    go_ret
    exact ⟨ib, rfl, hfin.out.1, hfin.out.2⟩

set_option maxHeartbeats 1000000 in
theorem nodeQ_any (pb : Nat) (ids : List Int) (outs ins : List (List Arc)) (x : Int) (w : World) (hids : ids.length ≤ 1000) (hp : PlainAt w pb ids outs ins) (hx : x ∈ ids) :
    Calls Tryz.prog 140 #[.pointer (some ⟨pb, 0, none⟩), .int .i64 x] w fun e w' => e = .returned (.iface 205 (.int .i64 x)) ∧ w = w' := by
  obtain ⟨ai, ci, h0, hc0⟩ := hp.row
  have hpi := Lib.hid (pindex_any pb ai ids.length ci ids x _ h0 rfl (by omega) hc0 hp.up)
  have hd : decide (x ∈ ids) = true := decide_eq_true hx
  clear hp hc0 h0 hx
  go_enter Tryz.func140, Tryz.ntmps140
  go_wp2_with (go_at_call 39; refine (unhide hpi).mono ?_; rintro e w' ⟨rfl, rfl⟩)
  go_ret
  exact ⟨rfl, rfl⟩

set_option maxRecDepth 100000 in
set_option maxHeartbeats 1000000 in
theorem nodeQDir_any (pb : Nat) (ids : List Int) (outs ins : List (List Arc)) (x : Int) (w : World) (hids : ids.length ≤ 1000) (hp : PlainAt w pb ids outs ins) (hx : x ∈ ids) :
    Calls Tryz.prog 132 #[.agg #[.pointer (some ⟨pb, 0, none⟩)], .int .i64 x] w fun e w' => e = .returned (.iface 205 (.int .i64 x)) ∧ Below w.heap.size w w' := by
  have hpi := Lib.hid (nodeQ_any pb ids outs ins x _ hids (hp.below (alloc_below w (.cells #[.pointer (some ⟨pb, 0, none⟩)] 52))) hx)
  have hb := Lib.hid (alloc_below w (.cells #[.pointer (some ⟨pb, 0, none⟩)] 52))
  clear hp hx
  go_enter Tryz.func132, Tryz.ntmps132
  go_wp2_with fail
  refine (unhide hpi).mono ?_
  rintro e w' ⟨rfl, rfl⟩
  clear hpi
  go_wp2_with fail
  go_ret
  exact ⟨rfl, hb.out⟩

/-- The predecessors in a graph that was read. -/
def insOf (g : Gr) : List (List Arc) := (tabs bitsOf (asc g.nodes) g.dir g.edges).2
def gPred (g : Gr) (x : Int) : List Int := succOf (asc g.nodes) (insOf g) x

theorem gPred_mem {g : Gr} (hok : okGraph g = true) {x y : Int} (hx : x ∈ asc g.nodes) : y ∈ gPred g x ↔ y ∈ asc g.nodes ∧ arcB g y x = true := by
  have ht := graph_tabs hok
  have hup : (asc g.nodes).Pairwise (· < ·) := asc_incr (by
    unfold okGraph at hok
    rw [Bool.and_eq_true] at hok
    exact of_decide_eq_true hok.1)
  obtain ⟨hp, hpe⟩ := posOf_mem hup hx
  have hlen : posOf (asc g.nodes) x < (insOf g).length := by rw [show (insOf g).length = (asc g.nodes).length from ht.l2]; exact hp
  have hrow : RowOk (asc g.nodes).length ((insOf g).getD (posOf (asc g.nodes) x) []) := by
    refine ht.r2 _ ?_
    show (insOf g).getD _ [] ∈ insOf g
    simp [hlen]
  unfold gPred succOf endsOf
  rw [List.mem_map]
  constructor
  · rintro ⟨a, ha, rfl⟩
    have hal := hrow.2 a ha
    have h1 := ht.inn a.1 (posOf (asc g.nodes) x) hal hp
    have h2 : arcHas ((insOf g).getD (posOf (asc g.nodes) x) []) a.1 = true := List.any_eq_true.2 ⟨a, ha, by simp⟩
    have e : (asc g.nodes).getD a.1 0 = (asc g.nodes)[a.1] := by simp [hal]
    rw [e]
    refine ⟨List.getElem_mem _, ?_⟩
    rw [show arcHas ((tabs bitsOf (asc g.nodes) g.dir g.edges).2.getD (posOf (asc g.nodes) x) []) a.1 = true from h2, hpe] at h1
    exact h1.symm
  · rintro ⟨hy, harc⟩
    obtain ⟨hq, hqe⟩ := posOf_mem hup hy
    have h1 := ht.inn (posOf (asc g.nodes) y) (posOf (asc g.nodes) x) hq hp
    rw [hpe, hqe] at h1
    have h2 : arcHas ((insOf g).getD (posOf (asc g.nodes) x) []) (posOf (asc g.nodes) y) = true := h1.trans harc
    obtain ⟨a, ha, hae⟩ := List.any_eq_true.1 h2
    refine ⟨a, ha, ?_⟩
    have : a.1 = posOf (asc g.nodes) y := by simpa using hae
    rw [this]
    simp [hq, hqe]

/-- Between two nodes of a good graph there is an arc, or none. -/
theorem arc_is {g : Gr} (hok : okGraph g = true) {x y : Int} (hx : x ∈ asc g.nodes) (hy : y ∈ asc g.nodes) : ArcIs (asc g.nodes) (outsOf g) x y (arcB g x y) (if arcB g x y = true then fl (wOf g x y) else flInf) := by
  unfold ArcIs
  cases ha : arcB g x y
  · simp only [Bool.false_eq_true, if_false]
    refine ⟨⟨hx, hy, ?_⟩, by first | rfl | trivial⟩
    have hup : (asc g.nodes).Pairwise (· < ·) := asc_incr (by
      unfold okGraph at hok
      rw [Bool.and_eq_true] at hok
      exact of_decide_eq_true hok.1)
    obtain ⟨hp, hpe⟩ := posOf_mem hup hx
    obtain ⟨hq, hqe⟩ := posOf_mem hup hy
    have h1 := (graph_tabs hok).out (posOf (asc g.nodes) x) (posOf (asc g.nodes) y) hp hq
    rw [hpe, hqe] at h1
    exact h1.trans ha
  · simp only [if_true]
    have hm : y ∈ gSucc g x := (gSucc_mem hok (asc_mem.1 hx)).2 ⟨asc_mem.1 hy, ha⟩
    obtain ⟨k, hk, rfl⟩ := List.mem_iff_getElem.1 hm
    exact arc_w hok hx hk
end Go.Proofs.YtgkimjjodhnmiaaGreat

namespace Go.Proofs.YtgkimjjodhnmiaaGreat
open Go.RowKit Go.Maps

theorem cmp_lt {m n : Int} (h : m < n) : compare m n = .lt := by simp [compare, compareOfLessAndEq, h]
theorem cmp_eq (m : Int) : compare m m = .eq := by simp [compare, compareOfLessAndEq]
theorem cmp_gt {m n : Int} (h : n < m) : compare m n = .gt := by
  have h1 : ¬ m < n := by omega
  have h2 : m ≠ n := by omega
  simp [compare, compareOfLessAndEq, h1, h2]

theorem run_min_fl {m n : Int} (hm : m.natAbs < FlB) (hn : n.natAbs < FlB) (ts : Array TypeId) (t : TypeId) (w : World) : (Builtin.min_ ts t #[.float .f64 (fl m), .float .f64 (fl n)]).run Tryz.prog w = .ok (.float .f64 (fl (min m n))) w := by
  have ho : FloatKind.f64.format.order (fl m) (fl n) = some (compare m n) := fl_order hm hn
  rcases Int.lt_trichotomy m n with h | h | h
  · rw [cmp_lt h] at ho
    simp [Builtin.min_, Builtin.min2, ho, Int.min_eq_left (Int.le_of_lt h)]
  · subst h
    rw [cmp_eq] at ho
    simp [Builtin.min_, Builtin.min2, ho]
  · rw [cmp_gt h] at ho
    simp [Builtin.min_, Builtin.min2, ho, Int.min_eq_right (Int.le_of_lt h)]
theorem run_max_fl {m n : Int} (hm : m.natAbs < FlB) (hn : n.natAbs < FlB) (ts : Array TypeId) (t : TypeId) (w : World) : (Builtin.max_ ts t #[.float .f64 (fl m), .float .f64 (fl n)]).run Tryz.prog w = .ok (.float .f64 (fl (max m n))) w := by
  have ho : FloatKind.f64.format.order (fl m) (fl n) = some (compare m n) := fl_order hm hn
  rcases Int.lt_trichotomy m n with h | h | h
  · rw [cmp_lt h] at ho
    simp [Builtin.max_, Builtin.max2, ho, Int.max_eq_right (Int.le_of_lt h)]
  · subst h
    rw [cmp_eq] at ho
    simp [Builtin.max_, Builtin.max2, ho]
  · rw [cmp_gt h] at ho
    simp [Builtin.max_, Builtin.max2, ho, Int.max_eq_left (Int.le_of_lt h)]

/-- The function that merges. -/
def mergeV (hb : Nat) : Value := .func (.func 22) #[] #[.pointer (some ⟨hb, 0, none⟩)]
/-- The graph as a value. -/
def uwV (pb hb va : Nat) : Value := .agg #[.iface 52 (.agg #[.pointer (some ⟨pb, 0, none⟩)]), .float .f64 va, mergeV hb]

theorem func_mergeV (hb : Nat) (w : World) : (binOp .eql 58 (.func (.func 22) #[] #[.pointer (some ⟨hb, 0, none⟩)]) .nilFunc).run Tryz.prog w = .ok (.bool false) w := by kernel_rfl

/-- How weights are merged. -/
def HowOk (how : Int) : Prop := how = 0 ∨ how = 1 ∨ how = 2

theorem merge_any {a b how : Int} {hb : Nat} {xe ye : Value} {w : World} (hh : HowOk how) (ha : a.natAbs ≤ 1099511627776) (hb' : b.natAbs ≤ 1099511627776) (hc : w.cell? ⟨hb, 0, none⟩ = some (.int .i64 how)) :
    Calls Tryz.prog 22 #[.float .f64 (fl a), .float .f64 (fl b), xe, ye, .pointer (some ⟨hb, 0, none⟩)] w fun e w' => e = .returned (.float .f64 (fl (mW how a b))) ∧ w = w' := by
  have h1 : a.natAbs < FlB := by unfold FlB; omega
  have h2 : b.natAbs < FlB := by unfold FlB; omega
  have hadd : ∀ W, (binOp .add 44 (.float .f64 (fl a)) (.float .f64 (fl b))).run Tryz.prog W = .ok (.float .f64 (fl (a + b))) W := fun W => run_float_arith W _ _ _ _ _ _ (fl_add h1 h2 (by unfold FlB; omega))
  have hmin := fun ts t W => run_min_fl h1 h2 ts t W
  have hmax := fun ts t W => run_max_fl h1 h2 ts t W
  clear ha hb' h1 h2
  rcases hh with rfl | rfl | rfl
  · go_enter Tryz.func22, Tryz.ntmps22
    go_wp2_with fail
    go_ret
    exact ⟨rfl, rfl⟩
  · go_enter Tryz.func22, Tryz.ntmps22
    go_wp2_with fail
    go_ret
    exact ⟨rfl, rfl⟩
  · go_enter Tryz.func22, Tryz.ntmps22
    go_wp2_with fail
    go_ret
    exact ⟨rfl, rfl⟩

theorem u_edge (n : Nat) (a : Addr) (w : World) : (method (n + 1) 52 (.agg #[.pointer (some a)]) "Edge").run Tryz.prog w = .ok (129, .agg #[.pointer (some a)]) w := by kernel_rfl
theorem u_weight (n : Nat) (a : Addr) (w : World) : (method (n + 1) 52 (.agg #[.pointer (some a)]) "Weight").run Tryz.prog w = .ok (135, .agg #[.pointer (some a)]) w := by kernel_rfl
theorem u_node (n : Nat) (a : Addr) (w : World) : (method (n + 1) 52 (.agg #[.pointer (some a)]) "Node").run Tryz.prog w = .ok (132, .agg #[.pointer (some a)]) w := by kernel_rfl
theorem u_nodes (n : Nat) (a : Addr) (w : World) : (method (n + 1) 52 (.agg #[.pointer (some a)]) "Nodes").run Tryz.prog w = .ok (133, .agg #[.pointer (some a)]) w := by kernel_rfl
theorem u_from (n : Nat) (a : Addr) (w : World) : (method (n + 1) 52 (.agg #[.pointer (some a)]) "From").run Tryz.prog w = .ok (130, .agg #[.pointer (some a)]) w := by kernel_rfl
theorem u_to (n : Nat) (a : Addr) (w : World) : (method (n + 1) 52 (.agg #[.pointer (some a)]) "To").run Tryz.prog w = .ok (134, .agg #[.pointer (some a)]) w := by kernel_rfl

set_option maxRecDepth 100000 in
set_option maxHeartbeats 2000000 in
theorem uweight_any {pb hb : Nat} {ids : List Int} {outs ins : List (List Arc)} {x y : Int} {b1 b2 : Bool} {f1 f2 va : Nat} {how a1 a2 : Int} {w : World} (hids : ids.length ≤ 1000) (hp : PlainAt w pb ids outs ins) (hxy : x ≠ y)
    (h1 : ArcIs ids outs x y b1 f1) (h2 : ArcIs ids outs y x b2 f2) (hv1 : (if b1 = true then f1 else va) = fl a1) (hv2 : (if b2 = true then f2 else va) = fl a2) (ha1 : a1.natAbs ≤ 1099511627776) (ha2 : a2.natAbs ≤ 1099511627776)
    (hc : w.cell? ⟨hb, 0, none⟩ = some (.int .i64 how)) (hh : HowOk how) :
    Calls Tryz.prog 23 #[uwV pb hb va, .int .i64 x, .int .i64 y] w fun e w' => ∃ b, e = .returned (.tuple #[.float .f64 (fl (mW how a1 a2)), .bool b]) ∧ Below w.heap.size w w' := by
  obtain ⟨w1, hw1⟩ : ∃ w1, w1 = w.alloc (.cells #[.iface 52 (.agg #[.pointer (some ⟨pb, 0, none⟩)]), .float .f64 va, mergeV hb] 62) := ⟨_, rfl⟩
  have hb1 : Below w.heap.size w w1 := by rw [hw1]; exact alloc_below _ _
  have hz1 : w1.heap.size = w.heap.size + 1 := by rw [hw1]; simp
  have hblk : w1.heap[w.heap.size]? = some (.cells #[.iface 52 (.agg #[.pointer (some ⟨pb, 0, none⟩)]), .float .f64 va, mergeV hb] 62 (0, 0)) := by rw [hw1]; exact heap_alloc_new _ _
  have k0 : w1.cell? ⟨w.heap.size, 0, none⟩ = some (.iface 52 (.agg #[.pointer (some ⟨pb, 0, none⟩)])) := by simp [World.cell?, hblk]
  have k1 : w1.cell? ⟨w.heap.size, 1, none⟩ = some (.float .f64 va) := by simp [World.cell?, hblk]
  have k2 : w1.cell? ⟨w.heap.size, 2, none⟩ = some (mergeV hb) := by simp [World.cell?, hblk]
  have hp1 := hp.below hb1
  have hc1 := cell_below hb1 hc
  have hE1 : Hid (∀ W, Below w1.heap.size w1 W → Calls Tryz.prog 129 #[.agg #[.pointer (some ⟨pb, 0, none⟩)], .int .i64 x, .int .i64 y] W fun e w' => ∃ v, e = .returned v ∧ Below w1.heap.size w1 w') := fun W hW =>
    (edgeD_any (by omega) (hp1.below hW) h1).mono fun _ _ ⟨v, e1, hb⟩ => ⟨v, e1, hW.trans (hb.mono hW.size)⟩
  have hE2 : Hid (∀ W, Below w1.heap.size w1 W → Calls Tryz.prog 129 #[.agg #[.pointer (some ⟨pb, 0, none⟩)], .int .i64 y, .int .i64 x] W fun e w' => ∃ v, e = .returned v ∧ Below w1.heap.size w1 w') := fun W hW =>
    (edgeD_any (by omega) (hp1.below hW) h2).mono fun _ _ ⟨v, e1, hb⟩ => ⟨v, e1, hW.trans (hb.mono hW.size)⟩
  have hW1 : Hid (∀ W, Below w1.heap.size w1 W → Calls Tryz.prog 135 #[.agg #[.pointer (some ⟨pb, 0, none⟩)], .int .i64 x, .int .i64 y] W fun e w' => e = .returned (.tuple #[.float .f64 f1, .bool b1]) ∧ Below w1.heap.size w1 w') := fun W hW =>
    (weightD_any (by omega) (hp1.below hW) hxy h1).mono fun _ _ ⟨e1, hb⟩ => ⟨e1, hW.trans (hb.mono hW.size)⟩
  have hW2 : Hid (∀ W, Below w1.heap.size w1 W → Calls Tryz.prog 135 #[.agg #[.pointer (some ⟨pb, 0, none⟩)], .int .i64 y, .int .i64 x] W fun e w' => e = .returned (.tuple #[.float .f64 f2, .bool b2]) ∧ Below w1.heap.size w1 w') := fun W hW =>
    (weightD_any (by omega) (hp1.below hW) (Ne.symm hxy) h2).mono fun _ _ ⟨e1, hb⟩ => ⟨e1, hW.trans (hb.mono hW.size)⟩
  have hm : ∀ (xe ye : Value) (W : World), Below w1.heap.size w1 W → Calls Tryz.prog 22 #[.float .f64 (if b1 = true then f1 else va), .float .f64 (if b2 = true then f2 else va), xe, ye, .pointer (some ⟨hb, 0, none⟩)] W fun e w' => e = .returned (.float .f64 (fl (mW how a1 a2))) ∧ W = w' := fun xe ye W hW => by
    rw [hv1, hv2]
    exact merge_any hh ha1 ha2 (cell_below hW hc1)
  have hK : Hid (∀ W, Below w1.heap.size w1 W → W.cell? ⟨w.heap.size, 0, none⟩ = some (.iface 52 (.agg #[.pointer (some ⟨pb, 0, none⟩)])) ∧ W.cell? ⟨w.heap.size, 1, none⟩ = some (.float .f64 va) ∧ W.cell? ⟨w.heap.size, 2, none⟩ = some (mergeV hb) ∧ Below w.heap.size w W) := fun W hW =>
    ⟨cell_below hW k0, cell_below hW k1, cell_below hW k2, hb1.trans (hW.mono (by omega))⟩
  have hE10 := Lib.hid (hE1.out w1 (Below.refl _ _))
  unfold mergeV at hK k0 k1 k2 hw1
  rw [hw1] at hE10
  have hw1h := Lib.hid hw1
  have hfm := func_mergeV hb
  have m1 := u_edge
  have m2 := u_weight
  simp only [uwV, mergeV]
  clear hp hp1 hc hc1 hblk hb1 hz1 hw1 h1 h2 hv1 hv2 ha1 ha2 hh k0 k1 k2 hE1 hxy
  cases b1 <;> cases b2 <;> (
    simp only [Bool.false_eq_true, if_false, if_true] at hm
    have hmh := Lib.hid hm
    clear hm
    go_enter Tryz.func23, Tryz.ntmps23
    go_wp2_with fail
    refine (unhide hE10).mono ?_
    rintro e w2 ⟨v2, rfl, hb2⟩
    rw [← hw1h.out] at hb2
    obtain ⟨k20, k21, k22, _⟩ := hK.out _ hb2
    have hE22 := Lib.hid (hE2.out _ hb2)
    clear hb2 hE2 hE10 hw1h
    go_wp2_with fail
    refine (unhide hE22).mono ?_
    rintro e w3 ⟨v3, rfl, hb3⟩
    obtain ⟨k30, k31, k32, _⟩ := hK.out _ hb3
    have hW13 := Lib.hid (hW1.out _ hb3)
    clear hb3 hW1 hE22 k20 k21 k22
    go_wp2_with fail
    refine (unhide hW13).mono ?_
    rintro e w4 ⟨rfl, hb4⟩
    obtain ⟨k40, k41, k42, _⟩ := hK.out _ hb4
    have hW24 := Lib.hid (hW2.out _ hb4)
    clear hb4 hW2 hW13 k30 k31 k32
    go_wp2_with fail
    refine (unhide hW24).mono ?_
    rintro e w5 ⟨rfl, hb5⟩
    obtain ⟨k50, k51, k52, hbw⟩ := hK.out _ hb5
    have hm5 := Lib.hid (hmh.out v2 v3 _ hb5)
    have hbwh := Lib.hid hbw
    clear hb5 hW24 k40 k41 k42 hbw
    go_wp2_with fail
    refine (unhide hm5).mono ?_
    rintro e w6 ⟨rfl, rfl⟩
    clear hm5
    go_wp2_with fail
    go_ret2
    exact ⟨_, rfl, hbwh.out⟩)
end Go.Proofs.YtgkimjjodhnmiaaGreat
