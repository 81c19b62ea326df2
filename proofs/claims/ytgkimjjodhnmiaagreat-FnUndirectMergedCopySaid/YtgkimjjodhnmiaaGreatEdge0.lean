/- The edge between two nodes that are joined: find, edge, and Edge of both kinds of graph. -/
import Derived.Test.YtgkimjjodhnmiaaGreatFrom
namespace Go.Proofs.YtgkimjjodhnmiaaGreat
open Go.RowKit

theorem findCmp_any : ArcCmp Tryz.prog 145 := by
  intro a k W h1 h2
  obtain ⟨a, x⟩ := a
  simp only [arcv] at *
  go_enter Tryz.func145, Tryz.ntmps145
  go_wp2
  go_ret
  exact ⟨rfl, alloc_below W _⟩

theorem arcPos_at {l : List Arc} (hs : ArcsAsc l) {k : Nat} (hk : k < l.length) : arcPos l l[k].1 = k := by
  refine arcPos_eq (by omega) (fun j hj h => List.pairwise_iff_getElem.1 hs j k hj hk h) fun j hj h => ?_
  rcases Nat.lt_or_eq_of_le h with h | h
  · exact Nat.le_of_lt (List.pairwise_iff_getElem.1 hs k j hk hj h)
  · subst h; exact Nat.le_refl _

/-- Where an edge leads: the arc's place in its row. -/
structure ArcAt (ids : List Int) (outs : List (List Arc)) (x y : Int) (t wt : Nat) : Prop where
  hx : x ∈ ids
  hy : y ∈ ids
  toP : posOf ids y = t
  k : ∃ k, ∃ h : k < (outs.getD (posOf ids x) []).length, (outs.getD (posOf ids x) [])[k] = (t, wt)

set_option maxRecDepth 100000 in
set_option maxHeartbeats 1000000 in
theorem find_any (pb : Nat) (ids : List Int) (outs ins : List (List Arc)) (x y : Int) (t wt : Nat) (w : World) (hids : ids.length ≤ 1048575) (hp : PlainAt w pb ids outs ins) (ha : ArcAt ids outs x y t wt) :
    Calls Tryz.prog 143 #[.pointer (some ⟨pb, 0, none⟩), .int .i64 x, .int .i64 y] w
      fun e w' => e = .returned (.tuple #[arcv (t, wt), .bool true]) ∧ Below w.heap.size w w' := by
  obtain ⟨hx, hy, hto, k, hk, hkt⟩ := ha
  have hp1 := hp.below (alloc_below w (.cells #[.int .i64 0, .float .f64 0] 148))
  obtain ⟨ai, ci, h0, hc0⟩ := hp1.row
  obtain ⟨gt, h1, hlen, hrow⟩ := hp1.out
  obtain ⟨hpl, hpe⟩ := posOf_mem hp1.up hx
  obtain ⟨hql, hqe⟩ := posOf_mem hp1.up hy
  have hl : outs[posOf ids x]? = some (outs.getD (posOf ids x) []) := by simp [hlen, hpl]
  obtain ⟨a, c, h2, hc2⟩ := hrow _ _ hl
  have hro := hp1.okOut _ (List.mem_of_getElem? hl)
  have hsh := asc_short hro
  have hpx := Lib.hid (pindex_any pb ai ids.length ci ids x _ h0 rfl (by omega) hc0 hp1.up)
  have hpy := Lib.hid (pindex_any pb ai ids.length ci ids y _ h0 rfl (by omega) hc0 hp1.up)
  have hd : decide (x ∈ ids) = true := decide_eq_true hx
  have hd2 : decide (y ∈ ids) = true := decide_eq_true hy
  rw [hto] at hpy hql
  generalize outs.getD (posOf ids x) [] = l at *
  have hpos : arcPos l t = k := by have := arcPos_at hro.1 hk; rwa [hkt] at this
  have hhas : arcHas l t = true := List.any_eq_true.2 ⟨l[k], List.getElem_mem hk, by rw [hkt]; simp⟩
  have hse := Lib.hid (fun (w : World) (h : Cells w a (arcCells l)) => searchArc_any 145 (fun args w => by simp [go_sem]) findCmp_any a l.length c l t w rfl (by omega) (by omega) (fun z hz => by have := hro.2 z hz; omega) h hro.1)
  rw [hpos, hhas] at hse
  obtain ⟨b, off, rfl, _, hr⟩ := hc2.at (by rw [arcCells_length]; omega)
  obtain ⟨e1, e2⟩ := arc_cells hr hk
  rw [hkt] at e1 e2
  have hc2h := Lib.hid hc2
  have hnb := hc2
  clear hrow hl hp hp1 hc0 hro hpe hx hy hqe hkt hto hr hc2 hnb
  go_enter Tryz.func143, Tryz.ntmps143
  go_wp2_with (go_at_call 39; first | ((with_reducible refine (unhide hpx).mono ?_); rintro e w9 ⟨rfl, rfl⟩) | ((with_reducible refine (unhide hpy).mono ?_); rintro e w9 ⟨rfl, rfl⟩))
  refine (unhide hse _ hc2h.out).mono ?_
  rintro e w2 ⟨rfl, hb2⟩
  have k1 := cell_below hb2 h1
  have k2 := cell_below hb2 h2
  have k3 := cell_below hb2 e1
  have k4 := cell_below hb2 e2
  have hblk : w2.heap[w.heap.size]? = some (.cells #[.int .i64 0, .float .f64 0] 148 (0, 0)) := (hb2.block _ (by simp)).trans (heap_alloc_new w _)
  have f0 : w2.frozen? ⟨w.heap.size, 0, none⟩ = false := by simp [World.frozen?, hblk]
  have p0 : w2.cell? ⟨w.heap.size, 0, none⟩ = some (.int .i64 0) := by simp [World.cell?, hblk]
  have hblk2 : ∀ u, (w2.setCell ⟨w.heap.size, 0, none⟩ u).heap[w.heap.size]? = some (.cells #[u, .float .f64 0] 148 (0, 0)) := fun u => (heap_set_self hblk 0 _).trans rfl
  have f1 : ∀ u, (w2.setCell ⟨w.heap.size, 0, none⟩ u).frozen? ⟨w.heap.size, 1, none⟩ = false := fun u => by simp [World.frozen?, hblk2]
  have p1 : ∀ u, (w2.setCell ⟨w.heap.size, 0, none⟩ u).cell? ⟨w.heap.size, 1, none⟩ = some (.float .f64 0) := fun u => by simp [World.cell?, hblk2]
  have hblk3 : ∀ u v, ((w2.setCell ⟨w.heap.size, 0, none⟩ u).setCell ⟨w.heap.size, 1, none⟩ v).heap[w.heap.size]? = some (.cells #[u, v] 148 (0, 0)) := fun u v => (heap_set_self (hblk2 u) 1 _).trans rfl
  have r0 : ∀ u v, ((w2.setCell ⟨w.heap.size, 0, none⟩ u).setCell ⟨w.heap.size, 1, none⟩ v).cell? ⟨w.heap.size, 0, none⟩ = some u := fun u v => by simp [World.cell?, hblk3]
  have r1 : ∀ u v, ((w2.setCell ⟨w.heap.size, 0, none⟩ u).setCell ⟨w.heap.size, 1, none⟩ v).cell? ⟨w.heap.size, 1, none⟩ = some v := fun u v => by simp [World.cell?, hblk3]
  have hbf := Lib.hid ((alloc_below w (.cells #[.int .i64 0, .float .f64 0] 148)).trans (hb2.mono (show _ ≤ (w.alloc _).heap.size by simp)))
  have d1 : decide (((outs.length : Nat) : Int) ≤ (posOf ids x : Int)) = false := decide_eq_false (by omega)
  have hsf := store_float Tryz.prog
  have f1' := f1 (.int .i64 t)
  have p1' := p1 (.int .i64 t)
  have r0' := r0 (.int .i64 t) (.float .f64 wt)
  have r1' := r1 (.int .i64 t) (.float .f64 wt)
  clear hb2 h1 h2 e1 e2 hse hpx hpy h0 hblk hblk2 hblk3 f1 p1 r0 r1
  go_wp2_with fail
  (try simp only [Exit.inBlock, Exit.then])
  refine bodyPost_ret (v := .tuple #[arcv (t, wt), .bool true]) ?_ rfl ?_
  · simp [results, show Tryz.func143.results = #[.cell 6 148, .tmp 7] from rfl, arcv, go_sem, r0', r1']
  exact ⟨rfl, Below.setCell (p := ⟨w.heap.size, 1, none⟩) (Below.setCell (p := ⟨w.heap.size, 0, none⟩) hbf.out (Nat.le_refl _) _) (Nat.le_refl _) _⟩

/-- The edge as it is told. -/
def edgeV (x y : Int) (wt : Nat) : Value := .iface 207 (.agg #[.iface 205 (.int .i64 x), .iface 205 (.int .i64 y), .float .f64 wt])

set_option maxRecDepth 100000 in
set_option maxHeartbeats 1000000 in
theorem edge_any (pb : Nat) (ids : List Int) (outs ins : List (List Arc)) (x y : Int) (t wt : Nat) (w : World) (hids : ids.length ≤ 1048575) (hp : PlainAt w pb ids outs ins) (ha : ArcAt ids outs x y t wt) :
    Calls Tryz.prog 138 #[.pointer (some ⟨pb, 0, none⟩), .int .i64 x, .int .i64 y] w
      fun e w' => e = .returned (edgeV x y wt) ∧ Below w.heap.size w w' := by
  have hf := Lib.hid (find_any pb ids outs ins x y t wt w hids hp ha)
  have hsf := store_float Tryz.prog
  clear hp ha
  simp only [edgeV, arcv] at *
  go_enter Tryz.func138, Tryz.ntmps138
  go_wp2_with fail
  refine (unhide hf).mono ?_
  rintro e w2 ⟨rfl, hb2⟩
  have hb2h := Lib.hid hb2
  clear hb2
  go_wp2_with fail
  go_ret
  exact ⟨rfl, hb2h.out.alloc (by have := hb2h.out.size; omega) _⟩

theorem below_boxed {w w' : World} {o : Obj} (h : Below (w.alloc o).heap.size (w.alloc o) w') : Below w.heap.size w w' := (alloc_below w o).trans (h.mono (by simp))

set_option maxRecDepth 100000 in
set_option maxHeartbeats 1000000 in
theorem hasDir_any (pb : Nat) (ids : List Int) (outs ins : List (List Arc)) (x y : Int) (t wt : Nat) (w : World) (hids : ids.length ≤ 1048575) (hp : PlainAt w pb ids outs ins) (ha : ArcAt ids outs x y t wt) :
    Calls Tryz.prog 137 #[.agg #[.pointer (some ⟨pb, 0, none⟩)], .int .i64 x, .int .i64 y] w
      fun e w' => e = .returned (.bool true) ∧ Below w.heap.size w w' := by
  have hf := Lib.hid (find_any pb ids outs ins x y t wt (w.alloc (.cells #[.pointer (some ⟨pb, 0, none⟩)] 52)) hids (hp.below (alloc_below w _)) ha)
  have hsf := store_float Tryz.prog
  clear hp ha
  simp only [arcv] at *
  go_enter Tryz.func137, Tryz.ntmps137
  go_wp2_with fail
  refine (unhide hf).mono ?_
  rintro e w2 ⟨rfl, hb2⟩
  have hb2h := Lib.hid (below_boxed hb2)
  clear hb2
  go_wp2_with fail
  go_ret
  exact ⟨rfl, hb2h.out.alloc (by have := hb2h.out.size; omega) _⟩

set_option maxRecDepth 100000 in
set_option maxHeartbeats 1000000 in
theorem edgeDir_any (pb : Nat) (ids : List Int) (outs ins : List (List Arc)) (x y : Int) (t wt : Nat) (w : World) (hids : ids.length ≤ 1048575) (hp : PlainAt w pb ids outs ins) (ha : ArcAt ids outs x y t wt) :
    Calls Tryz.prog 129 #[.agg #[.pointer (some ⟨pb, 0, none⟩)], .int .i64 x, .int .i64 y] w
      fun e w' => e = .returned (edgeV x y wt) ∧ Below w.heap.size w w' := by
  have hh := Lib.hid (hasDir_any pb ids outs ins x y t wt (w.alloc (.cells #[.pointer (some ⟨pb, 0, none⟩)] 52)) hids (hp.below (alloc_below w _)) ha)
  have he := Lib.hid (fun (w1 : World) (hb : Below w.heap.size w w1) => edge_any pb ids outs ins x y t wt w1 hids (hp.below hb) ha)
  clear hp ha
  simp only [edgeV] at *
  go_enter Tryz.func129, Tryz.ntmps129
  go_wp2_with fail
  refine (unhide hh).mono ?_
  rintro e w2 ⟨rfl, hb2⟩
  have q0 : (w.alloc (.cells #[.pointer (some ⟨pb, 0, none⟩)] 52)).cell? ⟨w.heap.size, 0, none⟩ = some (.pointer (some ⟨pb, 0, none⟩)) := by simp
  have k0 := cell_below hb2 q0
  have he2 := Lib.hid (he.out w2 (below_boxed hb2))
  have hb2h := Lib.hid (below_boxed hb2)
  clear hb2 q0 he
  go_wp2_with fail
  refine (unhide he2).mono ?_
  rintro e w3 ⟨rfl, hb3⟩
  have hb3h := Lib.hid (below_trans hb2h.out hb3)
  clear hb3 he2 hb2h
  go_wp2_with fail
  go_ret
  exact ⟨rfl, hb3h.out⟩

set_option maxRecDepth 100000 in
set_option maxHeartbeats 1000000 in
theorem hasUnd_any (pb : Nat) (ids : List Int) (outs ins : List (List Arc)) (x y : Int) (t wt : Nat) (w : World) (hids : ids.length ≤ 1048575) (hp : PlainAt w pb ids outs ins) (ha : ArcAt ids outs x y t wt) :
    Calls Tryz.prog 156 #[.agg #[.pointer (some ⟨pb, 0, none⟩)], .int .i64 x, .int .i64 y] w
      fun e w' => e = .returned (.bool true) ∧ Below w.heap.size w w' := by
  have hf := Lib.hid (find_any pb ids outs ins x y t wt (w.alloc (.cells #[.pointer (some ⟨pb, 0, none⟩)] 73)) hids (hp.below (alloc_below w _)) ha)
  have hsf := store_float Tryz.prog
  clear hp ha
  simp only [arcv] at *
  go_enter Tryz.func156, Tryz.ntmps156
  go_wp2_with fail
  refine (unhide hf).mono ?_
  rintro e w2 ⟨rfl, hb2⟩
  have hb2h := Lib.hid (below_boxed hb2)
  clear hb2
  go_wp2_with fail
  go_ret
  exact ⟨rfl, hb2h.out.alloc (by have := hb2h.out.size; omega) _⟩

set_option maxRecDepth 100000 in
set_option maxHeartbeats 1000000 in
theorem edgeUnd_any (pb : Nat) (ids : List Int) (outs ins : List (List Arc)) (x y : Int) (t wt : Nat) (w : World) (hids : ids.length ≤ 1048575) (hp : PlainAt w pb ids outs ins) (ha : ArcAt ids outs x y t wt) :
    Calls Tryz.prog 154 #[.agg #[.pointer (some ⟨pb, 0, none⟩)], .int .i64 x, .int .i64 y] w
      fun e w' => e = .returned (edgeV x y wt) ∧ Below w.heap.size w w' := by
  have hh := Lib.hid (hasUnd_any pb ids outs ins x y t wt (w.alloc (.cells #[.pointer (some ⟨pb, 0, none⟩)] 73)) hids (hp.below (alloc_below w _)) ha)
  have he := Lib.hid (fun (w1 : World) (hb : Below w.heap.size w w1) => edge_any pb ids outs ins x y t wt w1 hids (hp.below hb) ha)
  clear hp ha
  simp only [edgeV] at *
  go_enter Tryz.func154, Tryz.ntmps154
  go_wp2_with fail
  refine (unhide hh).mono ?_
  rintro e w2 ⟨rfl, hb2⟩
  have q0 : (w.alloc (.cells #[.pointer (some ⟨pb, 0, none⟩)] 73)).cell? ⟨w.heap.size, 0, none⟩ = some (.pointer (some ⟨pb, 0, none⟩)) := by simp
  have k0 := cell_below hb2 q0
  have he2 := Lib.hid (he.out w2 (below_boxed hb2))
  have hb2h := Lib.hid (below_boxed hb2)
  clear hb2 q0 he
  go_wp2_with fail
  refine (unhide he2).mono ?_
  rintro e w3 ⟨rfl, hb3⟩
  have hb3h := Lib.hid (below_trans hb2h.out hb3)
  clear hb3 he2 hb2h
  go_wp2_with fail
  go_ret
  exact ⟨rfl, hb3h.out⟩
end Go.Proofs.YtgkimjjodhnmiaaGreat
