/- What stands in the tables behind all edges: no program in sight.
   A plain graph stays where a cell is written that holds a pointer.
   The successors in a plain graph.
   The successors in a graph that was read.
   The closure that tells successors; the tables of Tarjan as they are made; the loop over all nodes, plain. -/
import Derived.Test.YthpjmjohdliohaaGreatIntsA
import Derived.Test.YthpjmjohdliohaaGreatOpenA
import Derived.Test.YthpjmjohdliohaaGreatNodesT
import Derived.Deep.RegionHeld3
import Derived.Deep.DeepCutAuto
namespace Go.Proofs.YthpjmjohdliohaaGreat

theorem turnRow_length (ls : List (List Arc)) (i k wt : Nat) : (turnRow ls i k wt).length = ls.length := by simp [turnRow]

theorem turnRow_has {n : Nat} {ls : List (List Arc)} (h : ∀ l ∈ ls, RowOk n l) (i k wt j y : Nat) (hj : j < ls.length) :
    arcHas ((turnRow ls i k wt).getD j []) y = (arcHas (ls.getD j []) y || decide (i = j ∧ k = y)) := by
  have e : (turnRow ls i k wt).getD j [] = if i = j then setArc ls[j] k wt else ls[j] := by
    unfold turnRow
    rw [List.getD_eq_getElem?_getD, List.getElem?_modify, List.getElem?_eq_getElem hj]
    by_cases h : i = j <;> simp [h]
  have e2 : ls.getD j [] = ls[j] := by simp [hj]
  rw [e, e2]
  by_cases hij : i = j
  · rw [if_pos hij, setArc_has (h _ (List.getElem_mem hj))]
    simp [hij]
  · rw [if_neg hij]
    simp [hij]

/-- The place of a number: where it stands. -/
theorem posOf_iff {zs : List Int} (hs : zs.Pairwise (· < ·)) {x : Int} (hx : x ∈ zs) {j : Nat} (hj : j < zs.length) : posOf zs x = j ↔ x = zs[j] := by
  obtain ⟨h1, h2⟩ := posOf_mem hs hx
  constructor
  · rintro rfl; exact h2.symm
  · rintro rfl; exact posOf_at hs hj

theorem layE_has {n : Nat} {bits : Int → Nat} {ids : List Int} {dir : Bool} {t : List (List Arc) × List (List Arc)} {e : Int × Int × Int} (hs : ids.Pairwise (· < ·)) (hn : ids.length = n) (h1 : ∀ l ∈ t.1, RowOk n l) (h2 : ∀ l ∈ t.2, RowOk n l)
    (l1 : t.1.length = n) (l2 : t.2.length = n) (hu : e.1 ∈ ids) (hv : e.2.1 ∈ ids) (i k : Nat) (hi : i < ids.length) (hk : k < ids.length) :
    arcHas ((layE bits ids dir t e).1.getD i []) k = (arcHas (t.1.getD i []) k || decide (hits dir ids[i] ids[k] e)) ∧
    arcHas ((layE bits ids dir t e).2.getD k []) i = (arcHas (t.2.getD k []) i || decide (hits dir ids[i] ids[k] e)) := by
  have hpu := (posOf_mem hs hu).1
  have hpv := (posOf_mem hs hv).1
  have a1 := posOf_iff hs hu hi
  have a2 := posOf_iff hs hv hk
  have a3 := posOf_iff hs hv hi
  have a4 := posOf_iff hs hu hk
  unfold layE hits
  cases dir
  · simp only [Bool.false_eq_true, if_false, true_and]
    constructor
    · rw [turnRow_has (turnRow_ok h1 (by omega)) _ _ _ _ _ (by rw [turnRow_length]; omega), turnRow_has h1 _ _ _ _ _ (by omega), Bool.or_assoc, ← Bool.decide_or]
      congr 1
      apply decide_eq_decide.2
      rw [a1, a2, a3, a4]
      constructor
      · rintro (⟨h, k⟩ | ⟨h, k⟩)
        · exact .inl ⟨h, k⟩
        · exact .inr ⟨k, h⟩
      · rintro (⟨h, k⟩ | ⟨h, k⟩)
        · exact .inl ⟨h, k⟩
        · exact .inr ⟨k, h⟩
    · rw [turnRow_has (turnRow_ok h2 (by omega)) _ _ _ _ _ (by rw [turnRow_length]; omega), turnRow_has h2 _ _ _ _ _ (by omega), Bool.or_assoc, ← Bool.decide_or]
      congr 1
      apply decide_eq_decide.2
      rw [a1, a2, a3, a4]
      constructor
      · rintro (⟨h, k⟩ | ⟨h, k⟩)
        · exact .inl ⟨k, h⟩
        · exact .inr ⟨h, k⟩
      · rintro (⟨h, k⟩ | ⟨h, k⟩)
        · exact .inl ⟨k, h⟩
        · exact .inr ⟨h, k⟩
  · simp only [if_true, Bool.true_eq_false, false_and, or_false]
    constructor
    · rw [turnRow_has h1 _ _ _ _ _ (by omega)]
      congr 1
      apply decide_eq_decide.2
      rw [a1, a2]
    · rw [turnRow_has h2 _ _ _ _ _ (by omega)]
      congr 1
      apply decide_eq_decide.2
      rw [a1, a2]
      exact ⟨fun ⟨h, k⟩ => ⟨k, h⟩, fun ⟨h, k⟩ => ⟨k, h⟩⟩

structure TabsOk (ids : List Int) (dir : Bool) (es : List (Int × Int × Int)) (t : List (List Arc) × List (List Arc)) : Prop where
  l1 : t.1.length = ids.length
  l2 : t.2.length = ids.length
  r1 : ∀ l ∈ t.1, RowOk ids.length l
  r2 : ∀ l ∈ t.2, RowOk ids.length l
  out : ∀ (i k : Nat) (hi : i < ids.length) (hk : k < ids.length), arcHas (t.1.getD i []) k = es.any fun e => decide (hits dir ids[i] ids[k] e)
  inn : ∀ (i k : Nat) (hi : i < ids.length) (hk : k < ids.length), arcHas (t.2.getD k []) i = es.any fun e => decide (hits dir ids[i] ids[k] e)

theorem tabs_ok (bits : Int → Nat) (ids : List Int) (dir : Bool) (es : List (Int × Int × Int)) (hs : ids.Pairwise (· < ·)) (he : ∀ e ∈ es, e.1 ∈ ids ∧ e.2.1 ∈ ids) : ∀ k, k ≤ es.length → TabsOk ids dir (es.take k) (tabs bits ids dir (es.take k)) := by
  intro k
  induction k with
  | zero =>
    intro _
    refine ⟨by simp [tabs], by simp [tabs], ?_, ?_, ?_, ?_⟩
    · intro l hl; simp [tabs] at hl; rw [hl.2]; exact RowOk.nil _
    · intro l hl; simp [tabs] at hl; rw [hl.2]; exact RowOk.nil _
    · intro i k hi hk; simp [tabs, hi, arcHas]
    · intro i k hi hk; simp [tabs, hk, arcHas]
  | succ k ih =>
    intro hk
    have h := ih (by omega)
    have hlt : k < es.length := by omega
    obtain ⟨hu, hv⟩ := he es[k] (List.getElem_mem hlt)
    have hpu := (posOf_mem hs hu).1
    have hpv := (posOf_mem hs hv).1
    have hr := layE_ok (bits := bits) (ids := ids) (dir := dir) (e := es[k]) h.r1 h.r2 hpu hpv
    rw [tabs_step bits ids dir es k hlt]
    refine ⟨?_, ?_, hr.1, hr.2, ?_, ?_⟩
    · unfold layE; split <;> simp [turnRow_length, h.l1]
    · unfold layE; split <;> simp [turnRow_length, h.l2]
    · intro i j hi hj
      rw [(layE_has hs rfl h.r1 h.r2 h.l1 h.l2 hu hv i j hi hj).1, h.out i j hi hj, List.take_succ_eq_append_getElem hlt, List.any_append]
      simp
    · intro i j hi hj
      rw [(layE_has hs rfl h.r1 h.r2 h.l1 h.l2 hu hv i j hi hj).2, h.inn i j hi hj, List.take_succ_eq_append_getElem hlt, List.any_append]
      simp

/-- The tables of a graph that is not bad. -/
theorem graph_tabs {g : Gr} (h : okGraph g = true) : TabsOk (asc g.nodes) g.dir g.edges (tabs bitsOf (asc g.nodes) g.dir g.edges) := by
  unfold okGraph at h
  rw [Bool.and_eq_true, List.all_eq_true] at h
  have := tabs_ok bitsOf (asc g.nodes) g.dir g.edges (asc_incr (of_decide_eq_true h.1)) (fun e he => by
    have := of_decide_eq_true (h.2 e he)
    exact ⟨asc_mem.2 this.2.1, asc_mem.2 this.2.2.1⟩) g.edges.length (Nat.le_refl _)
  rwa [List.take_length] at this
end Go.Proofs.YthpjmjohdliohaaGreat

namespace Go.Proofs.YthpjmjohdliohaaGreat
open Go.RowKit

theorem cell_keep {w : World} {p q : Addr} {v u0 : Value} (hp : w.cell? p = some v) (hq : w.cell? q = some u0) (hn : v ≠ u0) (u : Value) : (w.setCell q u).cell? p = some v := by
  have hne : q ≠ p := fun e => by
    subst e
    rw [hq] at hp
    injection hp with hp
    exact hn hp.symm
  rw [World.cell?_setCell_other _ _ _ _ hne]; exact hp

theorem Cells.keep {w : World} {a : Option Addr} {cs : List Value} {q : Addr} {u0 : Value} (h : Cells w a cs) (hq : w.cell? q = some u0) (hn : ∀ v ∈ cs, v ≠ u0) (u : Value) : Cells (w.setCell q u) a cs := by
  rcases h with h | ⟨b, o, ha, hlt, hr⟩
  · exact .inl h
  · exact .inr ⟨b, o, ha, by simp [World.setCell]; exact hlt, fun j v hj => cell_keep (hr j v hj) hq (hn v (List.mem_of_getElem? hj)) u⟩

theorem ints_nptr (zs : List Int) (p : Option Addr) : ∀ v ∈ ints zs, v ≠ .pointer p := fun v hv e => by
  obtain ⟨x, _, rfl⟩ := List.mem_map.1 hv
  cases e

theorem arcs_nptr (l : List Arc) (p : Option Addr) : ∀ v ∈ arcCells l, v ≠ .pointer p := fun v hv e => by
  unfold arcCells at hv
  obtain ⟨x, _, hx⟩ := List.mem_flatMap.1 hv
  subst e
  simp at hx

theorem TableAt.keep {w : World} {pb f n : Nat} {ls : List (List Arc)} {q : Addr} {p : Option Addr} (h : TableAt w pb f n ls) (hq : w.cell? q = some (.pointer p)) (u : Value) : TableAt (w.setCell q u) pb f n ls := by
  obtain ⟨g, h1, h2, h3⟩ := h
  refine ⟨g, cell_keep h1 hq (fun e => by cases e) u, h2, fun j l hl => ?_⟩
  obtain ⟨a, c, h4, h5⟩ := h3 j l hl
  exact ⟨a, c, cell_keep h4 hq (fun e => by cases e) u, h5.keep hq (arcs_nptr l p) u⟩

theorem PlainAt.keep {w : World} {pb : Nat} {ids : List Int} {outs ins : List (List Arc)} {q : Addr} {p : Option Addr} (h : PlainAt w pb ids outs ins) (hq : w.cell? q = some (.pointer p)) (u : Value) : PlainAt (w.setCell q u) pb ids outs ins := by
  obtain ⟨a, c, h1, h2⟩ := h.row
  exact ⟨⟨a, c, cell_keep h1 hq (fun e => by cases e) u, h2.keep hq (ints_nptr ids p) u⟩, h.up, h.out.keep hq u, h.inn.keep hq u, h.okOut, h.okIn⟩
end Go.Proofs.YthpjmjohdliohaaGreat

namespace Go.Proofs.YthpjmjohdliohaaGreat
open Go.RowKit

/-- The successors in a plain graph. -/
def succOf (ids : List Int) (outs : List (List Arc)) (x : Int) : List Int := endsOf ids (outs.getD (posOf ids x) [])

theorem succ_mem {w : World} {pb : Nat} {ids : List Int} {outs ins : List (List Arc)} (h : PlainAt w pb ids outs ins) (x : Int) : ∀ y ∈ succOf ids outs x, y ∈ ids := by
  intro y hy
  obtain ⟨a, ha, rfl⟩ := List.mem_map.1 hy
  have : a.1 < ids.length := by
    rcases Nat.lt_or_ge (posOf ids x) outs.length with hl | hl
    · have hm : outs.getD (posOf ids x) [] ∈ outs := by
        simp [hl]
      exact (h.okOut _ hm).2 a ha
    · rw [List.getD_eq_getElem?_getD, List.getElem?_eq_none hl] at ha; simp at ha
  simp [this]
theorem succ_len {w : World} {pb : Nat} {ids : List Int} {outs ins : List (List Arc)} (h : PlainAt w pb ids outs ins) (x : Int) : (succOf ids outs x).length ≤ ids.length := by
  unfold succOf endsOf
  rw [List.length_map]
  rcases Nat.lt_or_ge (posOf ids x) outs.length with hl | hl
  · have hm : outs.getD (posOf ids x) [] ∈ outs := by simp [hl]
    exact asc_short (h.okOut _ hm)
  · rw [List.getD_eq_getElem?_getD, List.getElem?_eq_none hl]; simp
end Go.Proofs.YthpjmjohdliohaaGreat

namespace Go.Proofs.YthpjmjohdliohaaGreat

/-- The tables of a graph. -/
def outsOf (g : Gr) : List (List Arc) := (tabs bitsOf (asc g.nodes) g.dir g.edges).1
def gSucc (g : Gr) (x : Int) : List Int := succOf (asc g.nodes) (outsOf g) x

theorem gSucc_mem {g : Gr} (hok : okGraph g = true) {x y : Int} (hx : x ∈ g.nodes) : y ∈ gSucc g x ↔ y ∈ g.nodes ∧ arcB g x y = true := by
  have ht := graph_tabs hok
  have hup : (asc g.nodes).Pairwise (· < ·) := asc_incr (by
    unfold okGraph at hok
    rw [Bool.and_eq_true] at hok
    exact of_decide_eq_true hok.1)
  obtain ⟨hp, hpe⟩ := posOf_mem hup (asc_mem.2 hx)
  have hlen : posOf (asc g.nodes) x < (outsOf g).length := by rw [show (outsOf g).length = (asc g.nodes).length from ht.l1]; exact hp
  have hrow : RowOk (asc g.nodes).length ((outsOf g).getD (posOf (asc g.nodes) x) []) := by
    refine ht.r1 _ ?_
    show (outsOf g).getD _ [] ∈ outsOf g
    simp [hlen]
  unfold gSucc succOf endsOf
  rw [List.mem_map]
  constructor
  · rintro ⟨a, ha, rfl⟩
    have hal := hrow.2 a ha
    have h1 := ht.out (posOf (asc g.nodes) x) a.1 hp hal
    have h2 : arcHas ((outsOf g).getD (posOf (asc g.nodes) x) []) a.1 = true := List.any_eq_true.2 ⟨a, ha, by simp⟩
    have e : (asc g.nodes).getD a.1 0 = (asc g.nodes)[a.1] := by simp [hal]
    rw [e]
    refine ⟨asc_mem.1 (List.getElem_mem _), ?_⟩
    rw [show arcHas ((tabs bitsOf (asc g.nodes) g.dir g.edges).1.getD (posOf (asc g.nodes) x) []) a.1 = true from h2, hpe] at h1
    exact h1.symm
  · rintro ⟨hy, harc⟩
    obtain ⟨hq, hqe⟩ := posOf_mem hup (asc_mem.2 hy)
    have h1 := ht.out (posOf (asc g.nodes) x) (posOf (asc g.nodes) y) hp hq
    rw [hpe, hqe] at h1
    have h2 : arcHas ((outsOf g).getD (posOf (asc g.nodes) x) []) (posOf (asc g.nodes) y) = true := h1.trans harc
    obtain ⟨a, ha, hae⟩ := List.any_eq_true.1 h2
    refine ⟨a, ha, ?_⟩
    have : a.1 = posOf (asc g.nodes) y := by simpa using hae
    rw [this]
    simp [hq, hqe]
end Go.Proofs.YthpjmjohdliohaaGreat

namespace Go.Proofs.YthpjmjohdliohaaGreat
open Go.RowKit

set_option maxHeartbeats 1000000 in
theorem succClo_any (gb pb : Nat) (ids : List Int) (outs ins : List (List Arc)) (x : Int) (W : World) (hids : ids.length ≤ 1000) (hg : W.cell? ⟨gb, 0, none⟩ = some (.iface 47 (.agg #[.pointer (some ⟨pb, 0, none⟩)]))) (hp : PlainAt W pb ids outs ins) (hx : x ∈ ids) :
    Calls Tryz.prog 67 #[.int .i64 x, .pointer (some ⟨gb, 0, none⟩)] W
      fun e w' => ∃ a c, e = .returned (.slice a (succOf ids outs x).length c) ∧ w'.ownsRow W.heap.size 85 1 (.slice a (succOf ids outs x).length c) (succOf ids outs x).length (nodes (succOf ids outs x)) ∧ Below W.heap.size W w' := by
  have hfrom := Lib.hid (fromDir_any pb ids outs ins x W (by omega) hp hx)
  have hl := succ_len hp x
  have hb : Hid (succOf ids outs x = endsOf ids (outs.getD (posOf ids x) [])) := rfl
  clear hp hx
  go_enter Tryz.func67, Tryz.ntmps67
  go_wp2_with (go_at_call 166; refine (unhide hfrom).mono ?_; rintro e w1 ⟨ib, rfl, hit, hb1⟩)
  rw [← hb.out] at hit
  have hno := Lib.hid (nodesOf_any W.heap.size w1.heap.size ib (succOf ids outs x) w1 (by omega) hit)
  have hib : W.heap.size ≤ ib := hit.1
  have hb1h := Lib.hid hb1
  clear hit hb1 hfrom
  refine (unhide hno).mono ?_
  rintro e w2 ⟨a, c, rfl, hown, _, hg2⟩
  have hfin : Hid (Below W.heap.size W w2) := hb1h.out.grown hg2 hb1h.out.size (fun k hk => by injection hk with hk; omega)
  have hownh := Lib.hid hown
  clear hno hown hg2
  go_wp2_with fail
  go_ret
  exact ⟨a, c, rfl, hownh.out, hfin.out⟩

theorem succOf_ids {w : World} {pb : Nat} {ids : List Int} {outs ins : List (List Arc)} (h : PlainAt w pb ids outs ins) : ∀ x ∈ ids, ∀ y ∈ succOf ids outs x, y ∈ ids := fun x _ => succ_mem h x

/-- Tarjan's state as it is made. -/
theorem tar_new {w : World} {ids : List Int} {A tb m1 m2 m3 : Nat} {fn : Value} (h0 : w.heap[tb]? = some (.cells #[fn, .int .i64 0, .map (some m1), .map (some m2), .map (some m3), .slice none 0 0, .slice none 0 0] 143 (0, 0)))
    (h1 : w.heap[m1]? = some (.map #[] 0)) (h2 : w.heap[m2]? = some (.map #[] 0)) (h3 : w.heap[m3]? = some (.map #[] 0)) (ht : A ≤ tb) (l1 : A ≤ m1) (l2 : A ≤ m2) (l3 : A ≤ m3) (n1 : m1 ≠ m2) (n2 : m1 ≠ m3) (n3 : m2 ≠ m3) :
    TarAt w ids A w.heap.size tb m1 m2 m3 fn tStart.tm (.slice none 0 0) (.slice none 0 0) [] := by
  have k0 := lt_of_block h0
  have hm : ∀ m, w.heap[m]? = some (.map #[] 0) → m < w.heap.size := fun m hm => (Array.getElem?_eq_some_iff.1 hm).1
  have hne : ∀ m, w.heap[m]? = some (.map #[] 0) → tb ≠ m := fun m hm e => by rw [← e, h0] at hm; cases hm
  have hmap : ∀ m, w.heap[m]? = some (.map #[] 0) → IMapAt w ids m (fun _ => 0) := fun m hm => by
    obtain ⟨D, ⟨es, clock, hb, r⟩, hD⟩ := imap_new w ids
    have e := (MapKept.heap_alloc w (.map #[] 0)).1
    exact ⟨D, ⟨es, clock, hm.trans (e.symm.trans hb), r⟩, hD⟩
  have hset : ISetAt w ids m3 [] := by
    obtain ⟨D, ⟨es, clock, hb, r⟩, hD⟩ := iset_new w ids
    have e := (MapKept.heap_alloc w (.map #[] 0)).1
    exact ⟨D, ⟨es, clock, h3.trans (e.symm.trans hb), r⟩, hD⟩
  have q1 := hm m1 h1
  have q2 := hm m2 h2
  have q3 := hm m3 h3
  exact ⟨h0, hmap m1 h1, hmap m2 h2, hset, World.ownsRow_nil _ _ _ _, World.ownsRow_nil _ _ _ _, ⟨rfl, fun k v c hv => by simp at hv⟩, ⟨k0, q1, q2, q3, Nat.le_refl _⟩, ⟨ht, l1, l2, l3, by omega⟩, ⟨hne m1 h1, hne m2 h2, hne m3 h3, n1, n2, n3⟩, by simp [Value.ownBlock], by simp [blks], by simp [blks]⟩

theorem tAll_succ (succ : Int → List Int) (f : Nat) (l : List Int) {k : Nat} (hk : k < l.length) : tAll succ f (l.take (k + 1)) tStart = if (tAll succ f (l.take k) tStart).idx l[k] = 0 then sc succ f (tAll succ f (l.take k) tStart) l[k] else tAll succ f (l.take k) tStart := by
  unfold tAll
  rw [List.take_succ_eq_append_getElem hk, List.foldl_append]; rfl

theorem tAll_part {ids : List Int} {succ : Int → List Int} (hs : ∀ x ∈ ids, ∀ y ∈ succ x, y ∈ ids) (k : Nat) : TInv ids succ (tAll succ ids.length (ids.take k) tStart) ∧ (tAll succ ids.length (ids.take k) tStart).stack = [] := by
  obtain ⟨a, b, _⟩ := tAll_inv hs (ids.take k) (fun x hx => List.mem_of_mem_take hx) tStart (tStart_inv ids succ) rfl
  exact ⟨a, b⟩

/-- Four new blocks and a draw. -/
theorem four_new (w : World) (a b c d : Obj) : ((((w.alloc a).alloc b).alloc c).alloc d).drew.heap[w.heap.size]? = some a ∧ ((((w.alloc a).alloc b).alloc c).alloc d).drew.heap[w.heap.size + 1]? = some b ∧
    ((((w.alloc a).alloc b).alloc c).alloc d).drew.heap[w.heap.size + 1 + 1]? = some c ∧ ((((w.alloc a).alloc b).alloc c).alloc d).drew.heap[w.heap.size + 1 + 1 + 1]? = some d ∧ Below w.heap.size w ((((w.alloc a).alloc b).alloc c).alloc d).drew := by
  have e : ∀ (v : World) (o : Obj), (v.alloc o).heap.size = v.heap.size + 1 := fun v o => by simp
  have n1 := heap_alloc_new w a
  have n2 := heap_alloc_new (w.alloc a) b
  have n3 := heap_alloc_new ((w.alloc a).alloc b) c
  have n4 := heap_alloc_new (((w.alloc a).alloc b).alloc c) d
  simp only [e] at n2 n3 n4
  refine ⟨?_, ?_, ?_, n4, ((((Below.refl _ _).alloc (Nat.le_refl _) a).alloc (by simp) b).alloc (by simp; omega) c).alloc (by simp; omega) d |>.drew⟩
  · show ((((w.alloc a).alloc b).alloc c).alloc d).heap[w.heap.size]? = _
    rw [Below.heap_alloc _ _ _ (by simp only [e]; omega), Below.heap_alloc _ _ _ (by simp only [e]; omega), Below.heap_alloc _ _ _ (by simp only [e]; omega)]; exact n1
  · show ((((w.alloc a).alloc b).alloc c).alloc d).heap[w.heap.size + 1]? = _
    rw [Below.heap_alloc _ _ _ (by simp only [e]; omega), Below.heap_alloc _ _ _ (by simp only [e]; omega)]; exact n2
  · show ((((w.alloc a).alloc b).alloc c).alloc d).heap[w.heap.size + 1 + 1]? = _
    rw [Below.heap_alloc _ _ _ (by simp only [e]; omega)]; exact n3
end Go.Proofs.YthpjmjohdliohaaGreat
