/- impl.open and impl.from (with one node).
   Node, ID, and From of both kinds of graph.
   The closure of PathExistsIn; the set of numbers; the queue's Len.
   What a walk breadth first finds: plain law, no program in sight.
   Tarjan's algorithm on plain lists: what its list of components is. No program in sight.
   What a call leaves alone that writes into blocks of its own: the blocks may move to new places.
   A map from int64 to int that the call has made: looked up, written.
   A set of nodes' numbers that the call has made: asked, added to, taken from. -/
import Derived.Test.YthpjmjohdliohaaGreatRead
import Derived.Test.YthpjmjohdliohaaGreatIter
import Derived.Handy
import Derived.Maps.OwnSet
import Derived.Test.YthpjmjohdliohaaGreatBase
import Derived.Maps.Ext
namespace Go.Proofs.YthpjmjohdliohaaGreat
open Go.RowKit

/-- The value of an opened graph. -/
def openv (dir : Bool) (pb : Nat) : Value := if dir then .iface 47 (.agg #[.pointer (some ⟨pb, 0, none⟩)]) else .iface 62 (.agg #[.pointer (some ⟨pb, 0, none⟩)])

/-- What open leaves. -/
def OpenPost (w : World) (g : Gr) (ok : Bool) (e : Ending) (w' : World) : Prop :=
  ∃ pb b, e = .returned (.tuple #[openv g.dir pb, .pointer (some ⟨pb, 0, none⟩), .bool b]) ∧ b = ok ∧ Below w.heap.size w w' ∧ w.heap.size ≤ pb ∧ pb < w'.heap.size ∧
    (okGraph g = true → PlainAt w' pb (asc g.nodes) (tabs bitsOf (asc g.nodes) g.dir g.edges).1 (tabs bitsOf (asc g.nodes) g.dir g.edges).2) ∧
    (okGraph g = true → FarAt w.heap.size w' pb (asc g.nodes) (tabs bitsOf (asc g.nodes) g.dir g.edges).1 (tabs bitsOf (asc g.nodes) g.dir g.edges).2)

theorem open_post {g : Gr} {w w1 : World} {o : Obj} {d : Bool} {q : Nat} (hd : g.dir = d) (hb : Below (w.alloc o).heap.size (w.alloc o) w1) (hq : (w.alloc o).heap.size + 1 = q)
    (hlt : (w.alloc o).heap.size + 1 < w1.heap.size)
    (hp : okGraph g = true → FarAt (w.alloc o).heap.size w1 ((w.alloc o).heap.size + 1) (asc g.nodes) (tabs bitsOf (asc g.nodes) g.dir g.edges).1 (tabs bitsOf (asc g.nodes) g.dir g.edges).2) :
    OpenPost w g (okGraph g) (.returned (.tuple #[openv d q, .pointer (some ⟨q, 0, none⟩), .bool (okGraph g)])) w1 := by
  subst hd
  subst hq
  exact ⟨_, _, rfl, rfl, (alloc_below w o).trans (hb.mono (by simp)), by simp; omega, hlt, fun h => (hp h).plain, fun h => (hp h).low (by simp)⟩

set_option maxHeartbeats 1000000 in
theorem open_any (g : Gr) (an : Option Addr) (cn : Nat) (ae : Option Addr) (ce : Nat) (w : World) (hn : g.nodes.length ≤ 1048575) (he : g.edges.length ≤ 1048576) (hg : GrAt w g an cn ae) :
    Calls Tryz.prog 32 #[.agg #[.bool g.dir, .slice an g.nodes.length cn, .slice ae g.edges.length ce]] w (OpenPost w g (okGraph g)) := by
  have hr := Lib.hid (read_any g an cn ae ce (w.alloc (.cells #[.bool g.dir, .slice an g.nodes.length cn, .slice ae g.edges.length ce] 25)) hn he (hg.below (alloc_below w _)))
  clear hg
  rcases hdir : g.dir with _ | _
  · rw [hdir] at hr
    go_enter Tryz.func32, Tryz.ntmps32
    go_wp2_with fail
    refine (unhide hr).mono ?_
    rintro e w1 ⟨_, rfl, rfl, hb, hlt, hp⟩
    have k0 : w1.cell? ⟨w.heap.size, 0, none⟩ = some (.bool false) := by rw [hb.cell (by simp)]; simp
    have hfin := Lib.hid (open_post (d := false) (q := w.heap.size + 1 + 1) hdir hb (by simp) hlt hp)
    clear hp hr hb hlt
    go_wp2_with fail
    go_ret3
    exact hfin.out
  · rw [hdir] at hr
    go_enter Tryz.func32, Tryz.ntmps32
    go_wp2_with fail
    refine (unhide hr).mono ?_
    rintro e w1 ⟨_, rfl, rfl, hb, hlt, hp⟩
    have k0 : w1.cell? ⟨w.heap.size, 0, none⟩ = some (.bool true) := by rw [hb.cell (by simp)]; simp
    have hfin := Lib.hid (open_post (d := true) (q := w.heap.size + 1 + 1) hdir hb (by simp) hlt hp)
    clear hp hr hb hlt
    go_wp2_with fail
    go_ret3
    exact hfin.out
end Go.Proofs.YthpjmjohdliohaaGreat

namespace Go.Proofs.YthpjmjohdliohaaGreat
open Go.RowKit

theorem id_any (x : Int) (w : World) : Calls Tryz.prog 184 #[.int .i64 x] w fun e w' => e = .returned (.int .i64 x) ∧ w = w' := by
  go_enter Tryz.func184, Tryz.ntmps184
  go_wp2
  go_ret
  exact ⟨rfl, rfl⟩

set_option maxHeartbeats 1000000 in
theorem node_any (B E ib k : Nat) (ns : List Int) (w : World) (hk : k < ns.length) (hn : ns.length ≤ 1048576) (hi : IterAt w B E ib (k + 1) ns) :
    Calls Tryz.prog 199 #[.pointer (some ⟨ib, 0, none⟩)] w
      fun e w' => e = .returned (.iface 127 (.int .i64 ns[k])) ∧ ∃ q, w' = w.drewN q := by
  obtain ⟨hB, hE, a, c, hrE, hb, hown, hne⟩ := hi
  rw [show ((k + 1 : Nat) : Int) - 1 = (k : Int) by omega] at hb
  have c0 : w.cell? ⟨ib, 0, none⟩ = some (.int .i64 (k : Int)) := by simp [World.cell?, hb]
  have c1 : w.cell? ⟨ib, 1, none⟩ = some (.slice a ns.length c) := by simp [World.cell?, hb]
  obtain ⟨g, rfl, _, _, _⟩ := owns_at hown (by omega)
  have c2 : w.cell? ⟨g, k, none⟩ = some (.iface 127 (.int .i64 ns[k])) := owns_cell hown (nodes_get ns k hk)
  have d1 : decide ((ns.length : Int) ≤ (k : Int)) = false := decide_eq_false (by omega)
  have d2 : decide (ns.length ≤ k) = false := decide_eq_false (by omega)
  have d3 : decide ((k : Int) < 0) = false := decide_eq_false (by omega)
  clear hb hown hne
  go_enter Tryz.func199, Tryz.ntmps199
  go_wp2
  go_quiet (fail)
  go_wp2
  go_quiet (fail)
  go_wp2
  go_ret
  exact ⟨rfl, _, World.drewN_drewN _ _ _⟩

theorem IterAt.mono {w : World} {B A E ib k : Nat} {ns : List Int} (h : IterAt w B E ib k ns) (hA : A ≤ B) : IterAt w A E ib k ns := by
  obtain ⟨hB, hE, a, c, hr, hb, hown, hne⟩ := h
  exact ⟨Nat.le_trans hA hB, hE, a, c, hr, hb, owns_base hown hA, hne⟩

/-- Its blocks lie from B on, ahead of E: where these stay it stays. -/
theorem IterAt.same {w w' : World} {B E ib k : Nat} {ns : List Int} (h : IterAt w B E ib k ns) (hs : ∀ j, B ≤ j → j < E → w'.heap[j]? = w.heap[j]?) : IterAt w' B E ib k ns := by
  obtain ⟨hB, hE, a, c, hr, hb, hown, hne⟩ := h
  exact ⟨hB, hE, a, c, hr, (hs ib hB hE).trans hb, owns_same hown (fun j hj => hs j (hown.lt j hj).1 (hr j hj)), hne⟩

/-- What From leaves: an iterator of the ends of a row. -/
def FromPost (w : World) (ids : List Int) (outs : List (List Arc)) (x : Int) (e : Ending) (w' : World) : Prop :=
  ∃ ib, e = .returned (.iface 248 (.pointer (some ⟨ib, 0, none⟩))) ∧ IterAt w' w.heap.size w'.heap.size ib 0 (endsOf ids (outs.getD (posOf ids x) [])) ∧ Below w.heap.size w w'

set_option maxHeartbeats 1000000 in
theorem fromDir_any (pb : Nat) (ids : List Int) (outs ins : List (List Arc)) (x : Int) (w : World) (hids : ids.length ≤ 1048575) (hp : PlainAt w pb ids outs ins) (hx : x ∈ ids) :
    Calls Tryz.prog 166 #[.agg #[.pointer (some ⟨pb, 0, none⟩)], .int .i64 x] w (FromPost w ids outs x) := by
  have hp1 := hp.below (alloc_below w (.cells #[.pointer (some ⟨pb, 0, none⟩)] 47))
  obtain ⟨ai, ci, h0, hc0⟩ := hp1.row
  obtain ⟨gt, h1, hlen, hrow⟩ := hp1.out
  obtain ⟨hpl, hpe⟩ := posOf_mem hp1.up hx
  have hl : outs[posOf ids x]? = some (outs.getD (posOf ids x) []) := by simp [hlen, hpl]
  obtain ⟨a, c, h2, hc2⟩ := hrow _ _ hl
  have hro := hp1.okOut _ (List.mem_of_getElem? hl)
  have hsh := asc_short hro
  have hpi := Lib.hid (pindex_any pb ai ids.length ci ids x _ h0 rfl (by omega) hc0 hp1.up)
  have hd : decide (x ∈ ids) = true := decide_eq_true hx
  unfold FromPost
  generalize outs.getD (posOf ids x) [] = l at *
  have hen := Lib.hid (ends_any pb ids ai ci a l.length c l (w.alloc (.cells #[.pointer (some ⟨pb, 0, none⟩)] 47)).drew rfl (by omega) (by omega) h0 (show Cells (w.alloc _).drew _ _ from hc0.drewN 1) (show Cells (w.alloc _).drew _ _ from hc2.drewN 1) hro.2)
  clear hrow hl hp1 hp hc0 hc2 hro hpe hx
  go_enter Tryz.func166, Tryz.ntmps166
  go_wp2_with (go_at_call 64; refine (unhide hpi).mono ?_; rintro e w' ⟨rfl, rfl⟩)
  go_region_law (go_simp; go_at_call 172; refine (unhide hen).mono ?_; rintro e w2 ⟨ib, rfl, hit, hb⟩)
  all_goals
    have hfin : Hid (IterAt w2 w.heap.size w2.heap.size ib 0 (endsOf ids l) ∧ Below w.heap.size w w2) := by
      exact ⟨hit.mono (show _ ≤ (w.alloc _).heap.size by simp), ((alloc_below w _).trans ((drew_below (w.alloc _)).mono (by simp))).trans (hb.mono (show _ ≤ (w.alloc _).heap.size by simp))⟩
    clear hit hb
    go_wp2
    go_ret
    exact ⟨ib, rfl, hfin.out.1, hfin.out.2⟩

set_option maxHeartbeats 1000000 in
theorem fromUnd_any (pb : Nat) (ids : List Int) (outs ins : List (List Arc)) (x : Int) (w : World) (hids : ids.length ≤ 1048575) (hp : PlainAt w pb ids outs ins) (hx : x ∈ ids) :
    Calls Tryz.prog 179 #[.agg #[.pointer (some ⟨pb, 0, none⟩)], .int .i64 x] w (FromPost w ids outs x) := by
  have hp1 := hp.below (alloc_below w (.cells #[.pointer (some ⟨pb, 0, none⟩)] 62))
  obtain ⟨ai, ci, h0, hc0⟩ := hp1.row
  obtain ⟨gt, h1, hlen, hrow⟩ := hp1.out
  obtain ⟨hpl, hpe⟩ := posOf_mem hp1.up hx
  have hl : outs[posOf ids x]? = some (outs.getD (posOf ids x) []) := by simp [hlen, hpl]
  obtain ⟨a, c, h2, hc2⟩ := hrow _ _ hl
  have hro := hp1.okOut _ (List.mem_of_getElem? hl)
  have hsh := asc_short hro
  have hpi := Lib.hid (pindex_any pb ai ids.length ci ids x _ h0 rfl (by omega) hc0 hp1.up)
  have hd : decide (x ∈ ids) = true := decide_eq_true hx
  unfold FromPost
  generalize outs.getD (posOf ids x) [] = l at *
  have hen := Lib.hid (ends_any pb ids ai ci a l.length c l (w.alloc (.cells #[.pointer (some ⟨pb, 0, none⟩)] 62)).drew rfl (by omega) (by omega) h0 (show Cells (w.alloc _).drew _ _ from hc0.drewN 1) (show Cells (w.alloc _).drew _ _ from hc2.drewN 1) hro.2)
  clear hrow hl hp1 hp hc0 hc2 hro hpe hx
  go_enter Tryz.func179, Tryz.ntmps179
  go_wp2_with (go_at_call 64; refine (unhide hpi).mono ?_; rintro e w' ⟨rfl, rfl⟩)
  go_region_law (go_simp; go_at_call 172; refine (unhide hen).mono ?_; rintro e w2 ⟨ib, rfl, hit, hb⟩)
  all_goals
    have hfin : Hid (IterAt w2 w.heap.size w2.heap.size ib 0 (endsOf ids l) ∧ Below w.heap.size w w2) := by
      exact ⟨hit.mono (show _ ≤ (w.alloc _).heap.size by simp), ((alloc_below w _).trans ((drew_below (w.alloc _)).mono (by simp))).trans (hb.mono (show _ ≤ (w.alloc _).heap.size by simp))⟩
    clear hit hb
    go_wp2
    go_ret
    exact ⟨ib, rfl, hfin.out.1, hfin.out.2⟩
end Go.Proofs.YthpjmjohdliohaaGreat

namespace Go.Proofs.YthpjmjohdliohaaGreat
open Go.RowKit

/-- Whether a number is one of Go's int64. -/
def In64 (x : Int) : Prop := (Lit.int .i64 x).wf = true

/-- A set of numbers in memory. -/
def SetAt (w : World) (mb N : Nat) (s : List Int) : Prop :=
  ∃ D : DataW Unit, w.ownsMap Tryz.prog 2 unitElem mb N D ∧ ∀ x, Maps.has D (.int .i64 x) = decide (x ∈ s)

theorem keyed64 : Maps.Keyed Tryz.prog 2 := Maps.int_keyed Tryz.underlying2

theorem setAt_new (w : World) : SetAt (w.alloc (.map #[] 0)) w.heap.size 0 [] := ⟨.map [], World.ownsMap_made w _ _ _, fun x => by simp [Maps.has]⟩

theorem setHas_any (mb N : Nat) (s : List Int) (x : Int) (w : World) (hx : In64 x) (hs : SetAt w mb N s) :
    Calls Tryz.prog 52 #[.map (some mb), .int .i64 x] w
      fun e w' => e = .returned (.bool (decide (x ∈ s))) ∧ ∃ o, w' = w.alloc o := by
  obtain ⟨D, hown, hD⟩ := hs
  have hkey : keyOf Tryz.prog 2 (.int .i64 x) = some (.int .i64 x) := Maps.keyOf_int_mk Tryz.underlying2 hx
  have hDx := hD x
  go_enter Tryz.func52, Tryz.ntmps52
  go_wp2_with (at_lookup; refine wpList_lookup_own_unit _ rfl _ _ 103 rfl 2 162 keyed64 Tryz.underlying103 (Tryz.zeroValue162 _) mb N D rfl hown _ _ rfl hkey ?_)
  go_ret
  exact ⟨rfl, _, rfl⟩

theorem setAdd_any (mb N : Nat) (s : List Int) (x : Int) (w : World) (hx : In64 x) (hN : N ≤ 1048576) (hs : SetAt w mb N s) :
    Calls Tryz.prog 53 #[.map (some mb), .int .i64 x] w
      fun e w' => e = .returned (.tuple #[]) ∧ SetAt w' mb (N + 1) (x :: s) ∧ w.grownBy w' (some mb) := by
  obtain ⟨D, hown, hD⟩ := hs
  have hkey : keyOf Tryz.prog 2 (.int .i64 x) = some (.int .i64 x) := Maps.keyOf_int_mk Tryz.underlying2 hx
  have hput : ∀ y, Maps.has (D.put (.int .i64 x) (.agg [])) (.int .i64 y) = decide (y ∈ x :: s) := fun y => by
    by_cases h : y = x
    · subst h
      rw [Maps.has_put_same hown.isMap (by simp [WideAt.IsKeyLit]) _]; simp
    · rw [Maps.has_put_other (by simpa using h), hD y]
      simp [h]
  have hput' := Lib.hid hput
  clear hput hD
  go_enter Tryz.func53, Tryz.ntmps53
  go_wp2_with (at_mapUpdate; refine wpList_mapUpdate_own _ rfl _ _ _ 103 rfl 2 162 keyed64 Tryz.underlying103 (unitElem (H := Unit)) mb N D rfl hown (by unfold maxLen; omega) _ _ _ rfl rfl hkey _ [] unitElem_mk ?_; intro w1 hown1 hgrow1)
  go_end0
  exact ⟨rfl, ⟨_, hown1, hput'.out⟩, hgrow1⟩

/-- What a walk breadth first doesn't turn of its record: Visit, Traverse, the set. -/
structure BF where
  fv : Value
  ft : Value
  m : Value

end Go.Proofs.YthpjmjohdliohaaGreat

namespace Go.Proofs.YthpjmjohdliohaaGreat

/-- What can be come to. -/
inductive Reach (succ : Int → List Int) (u : Int) : Int → Prop
  | refl : Reach succ u u
  | step {y z : Int} : Reach succ u y → z ∈ succ y → Reach succ u z

theorem Reach.head {succ : Int → List Int} {u y z : Int} (h : y ∈ succ u) (r : Reach succ y z) : Reach succ u z := by
  induction r with
  | refl => exact .step .refl h
  | step _ h' ih => exact .step ih h'

/-- A path from u to another node begins with an edge. -/
theorem reach_step {succ : Int → List Int} {u v : Int} (hne : u ≠ v) : Reach succ u v ↔ ∃ y ∈ succ u, Reach succ y v := by
  constructor
  · intro r
    have : v = u ∨ ∃ y ∈ succ u, Reach succ y v := by
      clear hne
      induction r with
      | refl => exact .inl rfl
      | @step y z r' h ih =>
        right
        rcases ih with e | ⟨x, hx, hr⟩
        · subst e
          exact ⟨z, h, .refl⟩
        · exact ⟨x, hx, .step hr h⟩
    rcases this with e | h
    · exact absurd e.symm hne
    · exact h
  · rintro ⟨y, hy, hr⟩
    exact hr.head hy

/-- Between two nodes: s have been visited, q wait. -/
structure BInv (succ : Int → List Int) (ids : List Int) (u v : Int) (s q : List Int) : Prop where
  sub : ∀ y ∈ s, y ∈ ids
  once : s.Nodup
  reach : ∀ y ∈ s, Reach succ u y
  wait : ∀ y ∈ q, y ∈ s
  done : ∀ y ∈ s, y ∉ q → y ≠ v ∧ ∀ z ∈ succ y, z ∈ s
  start : u ∈ s

/-- Within the successors of t: k of them have been looked at. -/
structure IInv (succ : Int → List Int) (ids : List Int) (u v t : Int) (k : Nat) (s q : List Int) : Prop where
  sub : ∀ y ∈ s, y ∈ ids
  once : s.Nodup
  reach : ∀ y ∈ s, Reach succ u y
  wait : ∀ y ∈ q, y ∈ s
  done : ∀ y ∈ s, y ∉ q → y ≠ t → y ≠ v ∧ ∀ z ∈ succ y, z ∈ s
  start : u ∈ s
  here : t ∈ s
  tv : t ≠ v
  some : ∀ z ∈ (succ t).take k, z ∈ s

theorem BInv.new {succ : Int → List Int} {ids : List Int} {u v : Int} (hu : u ∈ ids) : BInv succ ids u v [u] [u] :=
  ⟨fun y hy => by rw [List.mem_singleton] at hy; exact hy ▸ hu, by simp, fun y hy => by rw [List.mem_singleton] at hy; exact hy ▸ .refl, fun y hy => hy, fun y hy hn => absurd hy hn, by simp⟩

theorem BInv.take {succ : Int → List Int} {ids : List Int} {u v t : Int} {s q : List Int} (h : BInv succ ids u v s (t :: q)) (hv : t ≠ v) : IInv succ ids u v t 0 s q :=
  ⟨h.sub, h.once, h.reach, fun y hy => h.wait y (List.mem_cons_of_mem _ hy), fun y hy hn ht => h.done y hy (fun e => by
    rcases List.mem_cons.1 e with e | e
    · exact ht e
    · exact hn e), h.start, h.wait t List.mem_cons_self, hv, fun z hz => by simp at hz⟩

theorem IInv.old {succ : Int → List Int} {ids : List Int} {u v t : Int} {k : Nat} {s q : List Int} (h : IInv succ ids u v t k s q) (hk : k < (succ t).length) (hx : (succ t)[k] ∈ s) : IInv succ ids u v t (k + 1) s q :=
  ⟨h.sub, h.once, h.reach, h.wait, h.done, h.start, h.here, h.tv, fun z hz => by
    rw [List.take_succ_eq_append_getElem hk] at hz
    rcases List.mem_append.1 hz with hz | hz
    · exact h.some z hz
    · rw [List.mem_singleton] at hz; exact hz ▸ hx⟩

theorem IInv.new {succ : Int → List Int} {ids : List Int} {u v t : Int} {k : Nat} {s q : List Int} (h : IInv succ ids u v t k s q) (hk : k < (succ t).length) (hx : (succ t)[k] ∉ s) (hi : (succ t)[k] ∈ ids) :
    IInv succ ids u v t (k + 1) ((succ t)[k] :: s) (q ++ [(succ t)[k]]) where
  sub := fun y hy => by
    rcases List.mem_cons.1 hy with e | e
    · exact e ▸ hi
    · exact h.sub y e
  once := List.nodup_cons.2 ⟨hx, h.once⟩
  reach := fun y hy => by
    rcases List.mem_cons.1 hy with e | e
    · exact e ▸ .step (h.reach t h.here) (List.getElem_mem hk)
    · exact h.reach y e
  wait := fun y hy => by
    rcases List.mem_append.1 hy with e | e
    · exact List.mem_cons_of_mem _ (h.wait y e)
    · rw [List.mem_singleton] at e; rw [e]; exact List.mem_cons_self
  done := fun y hy hn ht => by
    have hne : y ≠ (succ t)[k] := fun e => hn (List.mem_append.2 (.inr (by rw [e]; simp)))
    rcases List.mem_cons.1 hy with e | e
    · exact absurd e hne
    · obtain ⟨h1, h2⟩ := h.done y e (fun e' => hn (List.mem_append.2 (.inl e'))) ht
      exact ⟨h1, fun z hz => List.mem_cons_of_mem _ (h2 z hz)⟩
  start := List.mem_cons_of_mem _ h.start
  here := List.mem_cons_of_mem _ h.here
  tv := h.tv
  some := fun z hz => by
    rw [List.take_succ_eq_append_getElem hk] at hz
    rcases List.mem_append.1 hz with hz | hz
    · exact List.mem_cons_of_mem _ (h.some z hz)
    · rw [List.mem_singleton] at hz; rw [hz]; exact List.mem_cons_self

theorem IInv.all {succ : Int → List Int} {ids : List Int} {u v t : Int} {k : Nat} {s q : List Int} (h : IInv succ ids u v t k s q) (hk : (succ t).length ≤ k) : BInv succ ids u v s q :=
  ⟨h.sub, h.once, h.reach, h.wait, fun y hy hn => by
    by_cases e : y = t
    · subst e
      exact ⟨h.tv, fun z hz => h.some z (by rw [List.take_of_length_le hk]; exact hz)⟩
    · exact h.done y hy hn e, h.start⟩

/-- Nothing waits: what has not been visited can not be come to. -/
theorem BInv.none {succ : Int → List Int} {ids : List Int} {u v : Int} {s : List Int} (h : BInv succ ids u v s []) : ¬ Reach succ u v := by
  intro r
  have hs : ∀ y, Reach succ u y → y ∈ s := by
    intro y r
    induction r with
    | refl => exact h.start
    | step _ h' ih => exact (h.done _ ih (by simp)).2 _ h'
  exact (h.done v (hs v r) (by simp)).1 rfl

theorem nodup_le {s ids : List Int} (h : s.Nodup) (hs : ∀ y ∈ s, y ∈ ids) : s.length ≤ ids.length := by
  induction s generalizing ids with
  | nil => simp
  | cons a s ih =>
    rw [List.nodup_cons] at h
    have ha := hs a List.mem_cons_self
    have := ih (ids := ids.erase a) h.2 (fun y hy => (List.mem_erase_of_ne (fun e => h.1 (by rw [← e]; exact hy))).2 (hs y (List.mem_cons_of_mem _ hy)))
    rw [List.length_erase_of_mem ha] at this
    have := List.length_pos_of_mem ha
    rw [List.length_cons]; omega

theorem BInv.le {succ : Int → List Int} {ids : List Int} {u v : Int} {s q : List Int} (h : BInv succ ids u v s q) : s.length ≤ ids.length := nodup_le h.once h.sub
theorem IInv.le {succ : Int → List Int} {ids : List Int} {u v t : Int} {k : Nat} {s q : List Int} (h : IInv succ ids u v t k s q) : s.length ≤ ids.length := nodup_le h.once h.sub
end Go.Proofs.YthpjmjohdliohaaGreat

namespace Go.Proofs.YthpjmjohdliohaaGreat

/-- The state: how many nodes have a number, the numbers, the low links, the stack (its top first), the components (in their order). -/
structure TS where
  n : Nat
  idx : Int → Nat
  low : Int → Nat
  stack : List Int
  sccs : List (List Int)

def upd (f : Int → Nat) (x : Int) (v : Nat) : Int → Nat := fun y => if y = x then v else f y
theorem upd_self (f : Int → Nat) (x : Int) (v : Nat) : upd f x v x = v := by simp [upd]
theorem upd_other (f : Int → Nat) {x y : Int} (v : Nat) (h : y ≠ x) : upd f x v y = f y := by simp [upd, h]

def TS.push (st : TS) (v : Int) : TS := ⟨st.n + 1, upd st.idx v (st.n + 1), upd st.low v (st.n + 1), v :: st.stack, st.sccs⟩
def TS.setLow (st : TS) (v : Int) (m : Nat) : TS := ⟨st.n, st.idx, upd st.low v m, st.stack, st.sccs⟩

/-- What is taken off the stack down to v, and what stays. -/
def cutAt (v : Int) : List Int → List Int × List Int
  | [] => ([], [])
  | x :: r => if x = v then ([x], r) else (x :: (cutAt v r).1, (cutAt v r).2)

theorem cutAt_app {v : Int} {S r : List Int} (h : v ∉ S) : cutAt v (S ++ v :: r) = (S ++ [v], r) := by
  induction S with
  | nil => simp [cutAt]
  | cons a S ih =>
    have h1 : a ≠ v := fun e => h (by simp [e])
    have h2 : v ∉ S := fun e => h (by simp [e])
    simp [cutAt, h1, ih h2]

def TS.fin (st : TS) (v : Int) : TS :=
  if st.low v = st.idx v then ⟨st.n, st.idx, st.low, (cutAt v st.stack).2, st.sccs ++ [(cutAt v st.stack).1]⟩ else st

def scStep (rec : TS → Int → TS) (v : Int) (st : TS) (w : Int) : TS :=
  if st.idx w = 0 then (rec st w).setLow v (min ((rec st w).low v) ((rec st w).low w))
  else if w ∈ st.stack then st.setLow v (min (st.low v) (st.idx w)) else st

def sc (succ : Int → List Int) : Nat → TS → Int → TS
  | 0, st, _ => st
  | f + 1, st, v => ((succ v).foldl (scStep (sc succ f) v) (st.push v)).fin v

theorem sc_succ (succ : Int → List Int) (f : Nat) (st : TS) (v : Int) : sc succ (f + 1) st v = ((succ v).foldl (scStep (sc succ f) v) (st.push v)).fin v := rfl

theorem reach_append {succ : Int → List Int} {u v w : Int} (h : Reach succ u v) (k : Reach succ v w) : Reach succ u w := by
  induction k with
  | refl => exact h
  | step _ h' ih => exact .step ih h'

structure TInv (ids : List Int) (succ : Int → List Int) (st : TS) : Prop where
  vis : ∀ x, st.idx x ≠ 0 ↔ x ∈ st.stack ∨ x ∈ st.sccs.flatten
  le : ∀ x, st.idx x ≤ st.n
  lowle : ∀ x, st.low x ≤ st.n
  nd : (st.stack ++ st.sccs.flatten).Nodup
  desc : st.stack.Pairwise (fun a b => st.idx b < st.idx a)
  sub : ∀ x ∈ st.stack ++ st.sccs.flatten, x ∈ ids
  cnt : st.n = (st.stack ++ st.sccs.flatten).length
  closed : ∀ k, k < st.sccs.length → ∀ x ∈ st.sccs.getD k [], ∀ y ∈ succ x, y ∈ (st.sccs.take (k + 1)).flatten
  strong : ∀ c ∈ st.sccs, ∀ x ∈ c, ∀ y ∈ c, Reach succ x y
  ne : ∀ c ∈ st.sccs, c ≠ []

theorem nodup_len {l m : List Int} (h : l.Nodup) (hs : ∀ x ∈ l, x ∈ m) : l.length ≤ m.length := by
  induction l generalizing m with
  | nil => simp
  | cons a l ih =>
    have hn := List.nodup_cons.1 h
    have ha := hs a List.mem_cons_self
    have := ih (m := m.erase a) hn.2 (fun x hx => by
      have hne : x ≠ a := fun e => hn.1 (e ▸ hx)
      exact (List.mem_erase_of_ne hne).2 (hs x (List.mem_cons_of_mem _ hx)))
    rw [List.length_erase_of_mem ha] at this
    have := List.length_pos_of_mem ha
    simp only [List.length_cons]; omega

theorem flatten_len {l : List (List Int)} (h : ∀ c ∈ l, c ≠ []) : l.length ≤ l.flatten.length := by
  induction l with
  | nil => simp
  | cons c l ih =>
    have h1 := ih fun d hd => h d (List.mem_cons_of_mem _ hd)
    have h2 := List.length_pos_iff.2 (h c List.mem_cons_self)
    simp only [List.flatten_cons, List.length_append, List.length_cons]; omega

theorem TInv.nle {ids : List Int} {succ : Int → List Int} {st : TS} (h : TInv ids succ st) : st.n ≤ ids.length := by
  rw [h.cnt]; exact nodup_len h.nd h.sub

theorem TInv.nlt {ids : List Int} {succ : Int → List Int} {st : TS} (h : TInv ids succ st) {v : Int} (hv : v ∈ ids) (h0 : st.idx v = 0) : st.n < ids.length := by
  have hn : v ∉ st.stack ++ st.sccs.flatten := fun e => (h.vis v).2 (List.mem_append.1 e) h0
  have := nodup_len (l := v :: (st.stack ++ st.sccs.flatten)) (m := ids) (List.nodup_cons.2 ⟨hn, h.nd⟩) (fun x hx => by
    rcases List.mem_cons.1 hx with e | e
    · exact e ▸ hv
    · exact h.sub x e)
  rw [List.length_cons, ← h.cnt] at this
  omega

theorem TInv.apart {ids : List Int} {succ : Int → List Int} {st : TS} (h : TInv ids succ st) {x : Int} (h1 : x ∈ st.stack) (h2 : x ∈ st.sccs.flatten) : False :=
  (List.nodup_append.1 h.nd).2.2 x h1 x h2 rfl

/-- What a call for v leaves. -/
structure TPost (ids : List Int) (succ : Int → List Int) (v : Int) (st st' : TS) : Prop where
  inv : TInv ids succ st'
  old : ∀ x, st.idx x ≠ 0 → st'.idx x = st.idx x ∧ st'.low x = st.low x
  new : ∀ x, st.idx x = 0 → st'.idx x ≠ 0 → st.n < st'.idx x
  grow : st.sccs <+: st'.sccs
  here : st'.idx v ≠ 0
  n : st.n < st'.n
  rest : ∃ S, st'.stack = S ++ st.stack ∧ (∀ x ∈ S, st.idx x = 0 ∧ Reach succ v x) ∧ (∀ x ∈ S, ∀ y ∈ succ x, st'.idx y ≠ 0) ∧
    (∀ x ∈ S, ∀ y ∈ succ x, y ∈ st'.stack → st'.low v ≤ st'.idx y) ∧ (∀ x ∈ S, ∃ y ∈ st'.stack, st'.idx y < st'.idx x ∧ Reach succ x y) ∧
    ((S = [] ∧ st.n < st'.low v) ∨ (v ∈ S ∧ st'.low v < st'.idx v ∧ ∃ y ∈ st.stack, Reach succ v y ∧ st'.idx y = st'.low v))

/-- Within a call for v: some successors have been looked at. -/
structure TMid (ids : List Int) (succ : Int → List Int) (v : Int) (st st' : TS) (pre : List Int) : Prop where
  inv : TInv ids succ st'
  old : ∀ x, st.idx x ≠ 0 → st'.idx x = st.idx x ∧ st'.low x = st.low x
  new : ∀ x, st.idx x = 0 → st'.idx x ≠ 0 → st.n < st'.idx x
  grow : st.sccs <+: st'.sccs
  own : st'.idx v = st.n + 1
  n : st.n < st'.n
  seen : ∀ y ∈ pre, st'.idx y ≠ 0 ∧ (y ∈ st'.stack → st'.low v ≤ st'.idx y)
  lowv : st'.low v ≤ st'.idx v ∧ ∃ y ∈ v :: st.stack, Reach succ v y ∧ st'.idx y = st'.low v
  rest : ∃ S, st'.stack = S ++ v :: st.stack ∧ (∀ x ∈ S, st.idx x = 0 ∧ Reach succ v x) ∧ (∀ x ∈ S, ∀ y ∈ succ x, st'.idx y ≠ 0) ∧
    (∀ x ∈ S, ∀ y ∈ succ x, y ∈ st'.stack → st'.low v ≤ st'.idx y) ∧ (∀ x ∈ S, ∃ y ∈ st'.stack, st'.idx y < st'.idx x ∧ Reach succ x y)

theorem prefix_flatten {l m : List (List Int)} (h : l <+: m) {x : Int} (hx : x ∈ l.flatten) : x ∈ m.flatten := by
  obtain ⟨r, rfl⟩ := h
  rw [List.flatten_append]; exact List.mem_append.2 (.inl hx)

theorem TMid.start {ids : List Int} {succ : Int → List Int} {v : Int} {st : TS} (h : TInv ids succ st) (hv : v ∈ ids) (h0 : st.idx v = 0) : TMid ids succ v st (st.push v) [] := by
  have hn : v ∉ st.stack ++ st.sccs.flatten := fun e => (h.vis v).2 (List.mem_append.1 e) h0
  have hne : ∀ x, st.idx x ≠ 0 → x ≠ v := fun x hx e => hx (e ▸ h0)
  have hstk : ∀ x ∈ st.stack, x ≠ v := fun x hx => hne x ((h.vis x).2 (.inl hx))
  refine ⟨⟨fun x => ?_, fun x => ?_, fun x => ?_, ?_, ?_, fun x hx => ?_, ?_, h.closed, h.strong, h.ne⟩, fun x hx => ?_, fun x hx hx' => ?_, List.prefix_refl _, upd_self _ _ _, Nat.lt_succ_self _, by simp, ⟨?_, v, List.mem_cons_self, .refl, ?_⟩, [], rfl, by simp, by simp, by simp, by simp⟩
  · show upd st.idx v (st.n + 1) x ≠ 0 ↔ x ∈ v :: st.stack ∨ _
    by_cases hx : x = v
    · subst hx; rw [upd_self]; simp
    · rw [upd_other _ _ hx, h.vis x]; simp [hx, TS.push]
  · show upd st.idx v (st.n + 1) x ≤ st.n + 1
    by_cases hx : x = v
    · subst hx; rw [upd_self]; exact Nat.le_refl _
    · rw [upd_other _ _ hx]; have := h.le x; omega
  · show upd st.low v (st.n + 1) x ≤ st.n + 1
    by_cases hx : x = v
    · subst hx; rw [upd_self]; exact Nat.le_refl _
    · rw [upd_other _ _ hx]; have := h.lowle x; omega
  · exact List.nodup_cons.2 ⟨hn, h.nd⟩
  · refine List.pairwise_cons.2 ⟨fun x hx => ?_, ?_⟩
    · show upd st.idx v (st.n + 1) x < upd st.idx v (st.n + 1) v
      rw [upd_self, upd_other _ _ (hstk x hx)]; have := h.le x; omega
    · refine h.desc.imp_of_mem fun {a b} ha hb hab => ?_
      show upd st.idx v (st.n + 1) b < upd st.idx v (st.n + 1) a
      rw [upd_other _ _ (hstk a ha), upd_other _ _ (hstk b hb)]; exact hab
  · rcases List.mem_cons.1 hx with e | e
    · exact e ▸ hv
    · exact h.sub x e
  · show st.n + 1 = (v :: (st.stack ++ st.sccs.flatten)).length
    rw [List.length_cons, ← h.cnt]
  · exact ⟨upd_other _ _ (hne x hx), upd_other _ _ (hne x hx)⟩
  · have hx2 : upd st.idx v (st.n + 1) x ≠ 0 := hx'
    show st.n < upd st.idx v (st.n + 1) x
    by_cases hxv : x = v
    · subst hxv; rw [upd_self]; omega
    · rw [upd_other _ _ hxv] at hx2; exact absurd hx hx2
  · show upd st.low v (st.n + 1) v ≤ upd st.idx v (st.n + 1) v
    rw [upd_self, upd_self]; exact Nat.le_refl _
  · show upd st.idx v (st.n + 1) v = upd st.low v (st.n + 1) v
    rw [upd_self, upd_self]

theorem TInv.setLow {ids : List Int} {succ : Int → List Int} {st : TS} (h : TInv ids succ st) (v : Int) (m : Nat) (hm : m ≤ st.n) : TInv ids succ (st.setLow v m) := by
  refine ⟨h.vis, h.le, fun x => ?_, h.nd, h.desc, h.sub, h.cnt, h.closed, h.strong, h.ne⟩
  show upd st.low v m x ≤ st.n
  by_cases hx : x = v
  · subst hx; rw [upd_self]; exact hm
  · rw [upd_other _ _ hx]; exact h.lowle x

/-- The step where the successor has a number. -/
theorem TMid.seenStep {ids : List Int} {succ : Int → List Int} {v w : Int} {st st' : TS} {pre : List Int} (h : TMid ids succ v st st' pre) (h0 : st.idx v = 0) (hw : w ∈ succ v) (hi : st'.idx w ≠ 0) (m : Nat)
    (hm : m = if w ∈ st'.stack then min (st'.low v) (st'.idx w) else st'.low v) : TMid ids succ v st (st'.setLow v m) (pre ++ [w]) := by
  obtain ⟨S, hS, s1, s2, s3, s4⟩ := h.rest
  obtain ⟨l1, y, hy, hr, hl⟩ := h.lowv
  have hml : m ≤ st'.low v := by rw [hm]; split <;> omega
  have hmw : w ∈ st'.stack → m ≤ st'.idx w := fun e => by rw [hm, if_pos e]; omega
  have hlv : (st'.setLow v m).low v = m := upd_self _ _ _
  have hSv : ∀ x ∈ S, st'.idx v < st'.idx x := by
    have := h.inv.desc
    rw [hS, List.pairwise_append] at this
    exact fun x hx => this.2.2 x hx v List.mem_cons_self
  refine ⟨h.inv.setLow v m (by have := h.inv.lowle v; omega), fun x hx => ⟨(h.old x hx).1, ?_⟩, h.new, h.grow, h.own, h.n, fun z hz => ?_, ⟨by rw [hlv]; show m ≤ st'.idx v; omega, ?_⟩, S, hS, s1, s2, fun x hx z hz hzs => by rw [hlv]; exact Nat.le_trans hml (s3 x hx z hz hzs), s4⟩
  · show upd st'.low v m x = st.low x
    rw [upd_other _ _ (fun e => hx (by rw [e]; exact h0))]; exact (h.old x hx).2
  · rw [hlv]
    rcases List.mem_append.1 hz with hz | hz
    · exact ⟨(h.seen z hz).1, fun e => Nat.le_trans hml ((h.seen z hz).2 e)⟩
    · rw [List.mem_singleton] at hz
      subst hz
      exact ⟨hi, hmw⟩
  · rw [hlv]
    by_cases hwm : w ∈ st'.stack ∧ st'.idx w < st'.low v
    · refine ⟨w, ?_, .step .refl hw, ?_⟩
      · have := hwm.1
        rw [hS] at this
        rcases List.mem_append.1 this with e | e
        · have := hSv w e; omega
        · exact e
      · show st'.idx w = m
        rw [hm, if_pos hwm.1]; omega
    · refine ⟨y, hy, hr, ?_⟩
      show st'.idx y = m
      rw [hl, hm]
      split
      · rename_i e
        have : ¬ st'.idx w < st'.low v := fun e' => hwm ⟨e, e'⟩
        omega
      · rfl

/-- The step where the successor has none: behind the call for it. -/
theorem TMid.callStep {ids : List Int} {succ : Int → List Int} {v w : Int} {st st' st2 : TS} {pre : List Int} (h : TMid ids succ v st st' pre) (h0 : st.idx v = 0) (hw : w ∈ succ v) (hi : st'.idx w = 0) (hp : TPost ids succ w st' st2) :
    TMid ids succ v st (st2.setLow v (min (st2.low v) (st2.low w))) (pre ++ [w]) := by
  obtain ⟨S, hS, s1, s2, s3, s4⟩ := h.rest
  obtain ⟨l1, y, hy, hr, hl⟩ := h.lowv
  obtain ⟨S', hS', p1, p2, p3, p4, p5⟩ := hp.rest
  have hv' : st'.idx v ≠ 0 := by rw [h.own]; omega
  have hv2 := hp.old v hv'
  have hstk : ∀ x ∈ st'.stack, st'.idx x ≠ 0 := fun x hx => (h.inv.vis x).2 (.inl hx)
  have hlv : (st2.setLow v (min (st2.low v) (st2.low w))).low v = min (st2.low v) (st2.low w) := upd_self _ _ _
  have hst : st2.stack = (S' ++ S) ++ v :: st.stack := by rw [hS', hS, List.append_assoc]
  have back : ∀ z, st'.idx z ≠ 0 → z ∈ st2.stack → z ∈ st'.stack := fun z hz hzs => by
    rcases (h.inv.vis z).1 hz with e | e
    · exact e
    · exact (hp.inv.apart hzs (prefix_flatten hp.grow e)).elim
  have hSv : ∀ x ∈ S, st'.idx v < st'.idx x := by
    have := h.inv.desc
    rw [hS, List.pairwise_append] at this
    exact fun x hx => this.2.2 x hx v List.mem_cons_self
  have hnew : ∀ x, st.idx x ≠ 0 → st'.idx x ≠ 0 := fun x hx => by rw [(h.old x hx).1]; exact hx
  have hwr : Reach succ v w := .step .refl hw
  have hn2 := hp.n
  refine ⟨hp.inv.setLow v _ (by have := hp.inv.lowle v; omega), fun x hx => ⟨(hp.old x (hnew x hx)).1.trans (h.old x hx).1, ?_⟩, fun x hx hx2 => ?_, h.grow.trans hp.grow, hv2.1.trans h.own, by have := h.n; show st.n < st2.n; omega, fun z hz => ?_, ⟨?_, ?_⟩, S' ++ S, hst, fun x hx => ?_, fun x hx => ?_, fun x hx z hz hzs => ?_, fun x hx => ?_⟩
  · show upd st2.low v _ x = st.low x
    rw [upd_other _ _ (fun e => hx (by rw [e]; exact h0))]; exact (hp.old x (hnew x hx)).2.trans (h.old x hx).2
  · have hx3 : st2.idx x ≠ 0 := hx2
    show st.n < st2.idx x
    by_cases e : st'.idx x = 0
    · have := hp.new x e hx3; have := h.n; omega
    · rw [(hp.old x e).1]; exact h.new x hx e
  · rw [hlv]
    rcases List.mem_append.1 hz with hz | hz
    · obtain ⟨a, b⟩ := h.seen z hz
      refine ⟨by show st2.idx z ≠ 0; rw [(hp.old z a).1]; exact a, fun e => ?_⟩
      have := b (back z a e)
      show _ ≤ st2.idx z
      rw [(hp.old z a).1, hv2.2]; omega
    · rw [List.mem_singleton] at hz
      subst hz
      refine ⟨hp.here, fun e => ?_⟩
      have e' : z ∈ st2.stack := e
      rw [hS'] at e'
      rcases List.mem_append.1 e' with e' | e'
      · rcases p5 with ⟨p5, _⟩ | ⟨_, p5, _⟩
        · rw [p5] at e'; cases e'
        · show _ ≤ st2.idx z; omega
      · exact absurd hi (hstk z e')
  · rw [hlv]
    show min (st2.low v) (st2.low w) ≤ st2.idx v
    rw [hv2.2, hv2.1]; omega
  · rw [hlv]
    by_cases hlt : st2.low w < st2.low v
    · rw [hv2.2] at hlt
      rcases p5 with ⟨_, p5⟩ | ⟨_, _, z, hz, hzr, hzi⟩
      · have := h.inv.le v; omega
      · have hzv := hstk z hz
        refine ⟨z, ?_, ?_, ?_⟩
        · rw [hS] at hz
          rcases List.mem_append.1 hz with e | e
          · have := hSv z e
            rw [(hp.old z hzv).1] at hzi
            omega
          · exact e
        · exact reach_append hwr hzr
        · show st2.idx z = _
          rw [hzi, hv2.2]; omega
    · refine ⟨y, hy, hr, ?_⟩
      have hyn : st'.idx y ≠ 0 := by
        rcases List.mem_cons.1 hy with e | e
        · rw [e]; exact hv'
        · exact hstk y (by rw [hS]; simp [e])
      show st2.idx y = _
      rw [(hp.old y hyn).1, hl, hv2.2]
      rw [hv2.2] at hlt
      omega
  · rcases List.mem_append.1 hx with e | e
    · refine ⟨?_, reach_append hwr (p1 x e).2⟩
      exact Classical.byContradiction fun hc => hnew x hc (p1 x e).1
    · exact s1 x e
  · rcases List.mem_append.1 hx with e | e
    · exact p2 x e
    · intro z hz
      have := s2 x e z hz
      show st2.idx z ≠ 0
      rw [(hp.old z this).1]; exact this
  · rw [hlv]
    show _ ≤ st2.idx z
    rcases List.mem_append.1 hx with e | e
    · have := p3 x e z hz hzs; omega
    · have a := s2 x e z hz
      have := s3 x e z hz (back z a hzs)
      rw [(hp.old z a).1, hv2.2]; omega
  · rcases List.mem_append.1 hx with e | e
    · exact p4 x e
    · obtain ⟨z, hz, h1, h2⟩ := s4 x e
      refine ⟨z, ?_, ?_, h2⟩
      · show z ∈ st2.stack
        rw [hS']; exact List.mem_append.2 (.inr hz)
      · show st2.idx z < st2.idx x
        rw [(hp.old z (hstk z hz)).1, (hp.old x (hstk x (by rw [hS]; simp [e]))).1]; exact h1

/-- The end of a call. -/
theorem TMid.finish {ids : List Int} {succ : Int → List Int} {v : Int} {st st' : TS} (h : TMid ids succ v st st' (succ v)) (h0 : st.idx v = 0) : TPost ids succ v st (st'.fin v) := by
  obtain ⟨S, hS, s1, s2, s3, s4⟩ := h.rest
  obtain ⟨l1, y, hy, hr, hl⟩ := h.lowv
  have hI := h.inv
  have hnd := hI.nd
  have hdesc := hI.desc
  rw [hS, List.pairwise_append, List.pairwise_cons] at hdesc
  have hvS : v ∉ S := fun e => by have := hdesc.2.2 v e v List.mem_cons_self; omega
  have hown := h.own
  unfold TS.fin
  by_cases hlow : st'.low v = st'.idx v
  · rw [if_pos hlow]
    have hcut : cutAt v st'.stack = (S ++ [v], st.stack) := by rw [hS]; exact cutAt_app hvS
    rw [hcut]
    have inC : ∀ x ∈ S ++ [v], ∀ z ∈ succ x, z ∈ S ++ [v] ∨ z ∈ st'.sccs.flatten := by
      intro x hx z hz
      have a : st'.idx z ≠ 0 ∧ (z ∈ st'.stack → st'.low v ≤ st'.idx z) := by
        rcases List.mem_append.1 hx with e | e
        · exact ⟨s2 x e z hz, s3 x e z hz⟩
        · rw [List.mem_singleton] at e
          subst e
          exact h.seen z hz
      rcases (hI.vis z).1 a.1 with e | e
      · left
        have hle := a.2 e
        rw [hS] at e
        rcases List.mem_append.1 e with e | e
        · simp [e]
        · rcases List.mem_cons.1 e with e | e
          · simp [e]
          · have := hdesc.2.1.1 z e; omega
      · exact .inr e
    have fl : ∀ x ∈ st'.sccs.flatten, ∀ z ∈ succ x, z ∈ st'.sccs.flatten := by
      intro x hx z hz
      obtain ⟨c, hc, hxc⟩ := List.mem_flatten.1 hx
      obtain ⟨k, hk, rfl⟩ := List.mem_iff_getElem.1 hc
      have := hI.closed k hk x (by simpa [hk] using hxc) z hz
      exact prefix_flatten (List.take_prefix _ _) this
    have cl : ∀ x z, Reach succ x z → x ∈ S ++ [v] → z ∈ S ++ [v] ∨ z ∈ st'.sccs.flatten := by
      intro x z hxz hx
      induction hxz with
      | refl => exact .inl hx
      | step _ h' ih =>
        rcases ih with e | e
        · exact inC _ e _ h'
        · exact .inr (fl _ e _ h')
    have back : ∀ m x, st'.idx x ≤ m → x ∈ S → Reach succ x v := by
      intro m
      induction m with
      | zero =>
        intro x hm hx
        obtain ⟨z, _, hlt, _⟩ := s4 x hx
        omega
      | succ m ih =>
        intro x hm hx
        obtain ⟨z, hz, hlt, hxz⟩ := s4 x hx
        rcases cl x z hxz (List.mem_append.2 (.inl hx)) with e | e
        · rcases List.mem_append.1 e with e | e
          · exact reach_append hxz (ih z (by omega) e)
          · rw [List.mem_singleton] at e; exact e ▸ hxz
        · exact (hI.apart hz e).elim
    have hmem : ∀ z, z ∈ st.stack ∨ z ∈ (st'.sccs ++ [S ++ [v]]).flatten ↔ z ∈ st'.stack ∨ z ∈ st'.sccs.flatten := by
      intro z
      rw [hS]
      simp only [List.flatten_append, List.flatten_cons, List.flatten_nil, List.append_nil, List.mem_append, List.mem_cons, List.not_mem_nil, or_false]
      constructor
      · rintro (h | h | h | h) <;> simp [h]
      · rintro ((h | h | h) | h) <;> simp [h]
    have hperm : (st.stack ++ (st'.sccs ++ [S ++ [v]]).flatten).Perm (st'.stack ++ st'.sccs.flatten) := by
      rw [hS, List.flatten_append]
      simp only [List.flatten_cons, List.flatten_nil, List.append_nil]
      have e1 : S ++ v :: st.stack = (S ++ [v]) ++ st.stack := by simp
      rw [e1]
      refine (List.Perm.append_left _ List.perm_append_comm).trans ?_
      rw [← List.append_assoc]
      exact List.Perm.append_right _ List.perm_append_comm
    refine ⟨⟨fun x => ?_, hI.le, hI.lowle, hperm.nodup_iff.2 hnd, hdesc.2.1.2, fun x hx => hI.sub x (hperm.mem_iff.1 hx), hI.cnt.trans hperm.length_eq.symm, fun k hk x hx z hz => ?_, fun c hc x hx z hz => ?_, fun c hc => ?_⟩, h.old, h.new, h.grow.trans (List.prefix_append _ _), by show st'.idx v ≠ 0; omega, h.n, [], rfl, by simp, by simp, by simp, by simp, .inl ⟨rfl, by show st.n < st'.low v; omega⟩⟩
    · exact (hI.vis x).trans (hmem x).symm
    · have hk' : k < st'.sccs.length ∨ k = st'.sccs.length := by
        have : k < (st'.sccs ++ [S ++ [v]]).length := hk
        rw [List.length_append] at this
        simp at this; omega
      show z ∈ ((st'.sccs ++ [S ++ [v]]).take (k + 1)).flatten
      have hx2 : x ∈ (st'.sccs ++ [S ++ [v]]).getD k [] := hx
      rcases hk' with hk' | hk'
      · rw [List.take_append_of_le_length (by omega)]
        refine hI.closed k hk' x ?_ z hz
        rw [List.getD_eq_getElem?_getD, List.getElem?_append_left hk'] at hx2
        rwa [List.getD_eq_getElem?_getD]
      · subst hk'
        rw [List.take_of_length_le (by simp)]
        rw [List.getD_eq_getElem?_getD, List.getElem?_append_right (Nat.le_refl _)] at hx2
        simp only [Nat.sub_self, List.getElem?_cons_zero, Option.getD_some] at hx2
        rw [List.flatten_append]
        rcases inC x hx2 z hz with e | e
        · exact List.mem_append.2 (.inr (by simpa using e))
        · exact List.mem_append.2 (.inl e)
    · rcases List.mem_append.1 hc with hc | hc
      · exact hI.strong c hc x hx z hz
      · rw [List.mem_singleton] at hc
        subst hc
        have a : Reach succ x v := by
          rcases List.mem_append.1 hx with e | e
          · exact back _ x (Nat.le_refl _) e
          · rw [List.mem_singleton] at e; rw [e]; exact .refl
        have b : Reach succ v z := by
          rcases List.mem_append.1 hz with e | e
          · exact (s1 z e).2
          · rw [List.mem_singleton] at e; rw [e]; exact .refl
        exact reach_append a b
    · rcases List.mem_append.1 hc with hc | hc
      · exact hI.ne c hc
      · rw [List.mem_singleton] at hc
        rw [hc]; simp
  · rw [if_neg hlow]
    have hlt : st'.low v < st'.idx v := by omega
    have hyst : y ∈ st.stack := by
      rcases List.mem_cons.1 hy with e | e
      · rw [e] at hl; omega
      · exact e
    refine ⟨hI, h.old, h.new, h.grow, by omega, h.n, S ++ [v], by rw [hS]; simp, fun x hx => ?_, fun x hx => ?_, fun x hx => ?_, fun x hx => ?_, .inr ⟨by simp, hlt, y, hyst, hr, hl⟩⟩
    · rcases List.mem_append.1 hx with e | e
      · exact s1 x e
      · rw [List.mem_singleton] at e; rw [e]; exact ⟨h0, .refl⟩
    · rcases List.mem_append.1 hx with e | e
      · exact s2 x e
      · rw [List.mem_singleton] at e; rw [e]; exact fun z hz => (h.seen z hz).1
    · rcases List.mem_append.1 hx with e | e
      · exact s3 x e
      · rw [List.mem_singleton] at e; rw [e]; exact fun z hz => (h.seen z hz).2
    · rcases List.mem_append.1 hx with e | e
      · exact s4 x e
      · rw [List.mem_singleton] at e; rw [e]
        exact ⟨y, by rw [hS]; simp [hyst], by omega, hr⟩

/-- One successor looked at. -/
theorem scStep_mid {ids : List Int} {succ : Int → List Int} {f : Nat} (ih : ∀ (st : TS) (v : Int), TInv ids succ st → v ∈ ids → st.idx v = 0 → ids.length - st.n ≤ f → TPost ids succ v st (sc succ f st v))
    {v w : Int} {st st' : TS} {pre : List Int} (hm : TMid ids succ v st st' pre) (h0 : st.idx v = 0) (hw : w ∈ succ v) (hwi : w ∈ ids) (hf : ids.length - st.n ≤ f + 1) : TMid ids succ v st (scStep (sc succ f) v st' w) (pre ++ [w]) := by
  unfold scStep
  by_cases hi : st'.idx w = 0
  · rw [if_pos hi]
    exact hm.callStep h0 hw hi (ih st' w hm.inv hwi hi (by have := hm.n; omega))
  · rw [if_neg hi]
    have hself : ∀ m, m = st'.low v → TMid ids succ v st (st'.setLow v m) (pre ++ [w]) → TMid ids succ v st st' (pre ++ [w]) := by
      intro m hm' h'
      have : st'.setLow v m = st' := by
        unfold TS.setLow
        have : upd st'.low v m = st'.low := by
          funext x
          by_cases hx : x = v
          · rw [hx, upd_self, hm']
          · rw [upd_other _ _ hx]
        rw [this]
      rwa [this] at h'
    by_cases hk : w ∈ st'.stack
    · rw [if_pos hk]
      exact hm.seenStep h0 hw hi _ (by rw [if_pos hk])
    · rw [if_neg hk]
      exact hself _ rfl (hm.seenStep h0 hw hi _ (by rw [if_neg hk]))

/-- The state when k successors have been looked at. -/
def sFold (succ : Int → List Int) (f : Nat) (v : Int) (st : TS) (k : Nat) : TS := ((succ v).take k).foldl (scStep (sc succ f) v) (st.push v)
theorem sFold_succ (succ : Int → List Int) (f : Nat) (v : Int) (st : TS) {k : Nat} (hk : k < (succ v).length) : sFold succ f v st (k + 1) = scStep (sc succ f) v (sFold succ f v st k) (succ v)[k] := by
  unfold sFold
  rw [List.take_succ_eq_append_getElem hk, List.foldl_append]; rfl
theorem sFold_all (succ : Int → List Int) (f : Nat) (v : Int) (st : TS) : sc succ (f + 1) st v = (sFold succ f v st (succ v).length).fin v := by
  rw [sc_succ]; unfold sFold; rw [List.take_length]

/-- k successors looked at. -/
theorem mid_take {ids : List Int} {succ : Int → List Int} {f : Nat} (ih : ∀ (st : TS) (v : Int), TInv ids succ st → v ∈ ids → st.idx v = 0 → ids.length - st.n ≤ f → TPost ids succ v st (sc succ f st v))
    (hs : ∀ x ∈ ids, ∀ y ∈ succ x, y ∈ ids) {v : Int} {st : TS} (h : TInv ids succ st) (hv : v ∈ ids) (h0 : st.idx v = 0) (hf : ids.length - st.n ≤ f + 1) :
    ∀ k, k ≤ (succ v).length → TMid ids succ v st (sFold succ f v st k) ((succ v).take k) := by
  intro k
  unfold sFold
  induction k with
  | zero => intro _; exact TMid.start h hv h0
  | succ k ihk =>
    intro hk
    have hlt : k < (succ v).length := by omega
    have hw : (succ v)[k] ∈ succ v := List.getElem_mem hlt
    rw [List.take_succ_eq_append_getElem hlt, List.foldl_append]
    exact scStep_mid ih (ihk (by omega)) h0 hw (hs v hv _ hw) hf

/-- A call, by its number of further calls. -/
theorem sc_post {ids : List Int} {succ : Int → List Int} (hs : ∀ x ∈ ids, ∀ y ∈ succ x, y ∈ ids) : ∀ (f : Nat) (st : TS) (v : Int), TInv ids succ st → v ∈ ids → st.idx v = 0 → ids.length - st.n ≤ f → TPost ids succ v st (sc succ f st v) := by
  intro f
  induction f with
  | zero =>
    intro st v h hv h0 hf
    have := h.nlt hv h0
    omega
  | succ f ih =>
    intro st v h hv h0 hf
    rw [sc_succ]
    have := mid_take ih hs h hv h0 hf (succ v).length (Nat.le_refl _)
    unfold sFold at this
    rw [List.take_length] at this
    exact this.finish h0

def tStart : TS := ⟨0, fun _ => 0, fun _ => 0, [], []⟩
def tAll (succ : Int → List Int) (f : Nat) (l : List Int) (st : TS) : TS := l.foldl (fun st v => if st.idx v = 0 then sc succ f st v else st) st

theorem tStart_inv (ids : List Int) (succ : Int → List Int) : TInv ids succ tStart :=
  ⟨fun x => by simp [tStart], fun _ => Nat.le_refl _, fun _ => Nat.le_refl _, by simp [tStart], by simp [tStart], by simp [tStart], rfl, fun k hk => by simp [tStart] at hk, by simp [tStart], by simp [tStart]⟩

theorem sc_top {ids : List Int} {succ : Int → List Int} {v : Int} {st st' : TS} (h : TPost ids succ v st st') (he : st.stack = []) : st'.stack = [] := by
  obtain ⟨S, hS, _, _, _, _, p⟩ := h.rest
  rcases p with ⟨p, _⟩ | ⟨_, _, y, hy, _⟩
  · rw [hS, p, he]; rfl
  · rw [he] at hy; cases hy

theorem tAll_inv {ids : List Int} {succ : Int → List Int} (hs : ∀ x ∈ ids, ∀ y ∈ succ x, y ∈ ids) (l : List Int) (hl : ∀ x ∈ l, x ∈ ids) : ∀ st, TInv ids succ st → st.stack = [] → TInv ids succ (tAll succ ids.length l st) ∧ (tAll succ ids.length l st).stack = [] ∧ (∀ x, st.idx x ≠ 0 → (tAll succ ids.length l st).idx x ≠ 0) ∧ ∀ x ∈ l, (tAll succ ids.length l st).idx x ≠ 0 := by
  induction l with
  | nil => intro st h he; exact ⟨h, he, fun _ hx => hx, by simp⟩
  | cons v l ih =>
    intro st h he
    have hcons : tAll succ ids.length (v :: l) st = tAll succ ids.length l (if st.idx v = 0 then sc succ ids.length st v else st) := rfl
    rw [hcons]
    by_cases h0 : st.idx v = 0
    · rw [if_pos h0]
      have hp := sc_post hs ids.length st v h (hl v List.mem_cons_self) h0 (by omega)
      obtain ⟨a, b, c, d⟩ := ih (fun x hx => hl x (List.mem_cons_of_mem _ hx)) _ hp.inv (sc_top hp he)
      refine ⟨a, b, fun x hx => c x (by rw [(hp.old x hx).1]; exact hx), fun x hx => ?_⟩
      rcases List.mem_cons.1 hx with e | e
      · rw [e]; exact c v hp.here
      · exact d x e
    · rw [if_neg h0]
      obtain ⟨a, b, c, d⟩ := ih (fun x hx => hl x (List.mem_cons_of_mem _ hx)) st h he
      refine ⟨a, b, c, fun x hx => ?_⟩
      rcases List.mem_cons.1 hx with e | e
      · rw [e]; exact c v h0
      · exact d x e

/-- The components. -/
def sccsOf (succ : Int → List Int) (ids : List Int) : List (List Int) := (tAll succ ids.length ids tStart).sccs

structure SccOk (ids : List Int) (succ : Int → List Int) (l : List (List Int)) : Prop where
  nd : l.flatten.Nodup
  mem : ∀ x, x ∈ l.flatten ↔ x ∈ ids
  closed : ∀ k, k < l.length → ∀ x ∈ l.getD k [], ∀ y ∈ succ x, y ∈ (l.take (k + 1)).flatten
  strong : ∀ c ∈ l, ∀ x ∈ c, ∀ y ∈ c, Reach succ x y
  ne : ∀ c ∈ l, c ≠ []

theorem sccs_ok {ids : List Int} {succ : Int → List Int} (hs : ∀ x ∈ ids, ∀ y ∈ succ x, y ∈ ids) : SccOk ids succ (sccsOf succ ids) := by
  obtain ⟨a, b, _, d⟩ := tAll_inv hs ids (fun _ h => h) tStart (tStart_inv ids succ) rfl
  have hnd := a.nd
  have hsub := a.sub
  have hvis := a.vis
  rw [b, List.nil_append] at hnd hsub
  refine ⟨hnd, fun x => ⟨hsub x, fun hx => ?_⟩, a.closed, a.strong, a.ne⟩
  rcases (hvis x).1 (d x hx) with e | e
  · rw [b] at e; cases e
  · exact e
end Go.Proofs.YthpjmjohdliohaaGreat

namespace Go.Proofs.YthpjmjohdliohaaGreat
open Go.RowKit

/-- All old blocks but those of S stay; those of S' are of S, or new. -/
structure Moves (S : List Nat) (w : World) (S' : List Nat) (w' : World) : Prop where
  os : w'.os = w.os
  tape : w'.tape = w.tape
  output : w'.output = w.output
  size : w.heap.size ≤ w'.heap.size
  block : ∀ k, k < w.heap.size → k ∉ S → w'.heap[k]? = w.heap[k]?
  row : ∀ k ∈ S', k ∈ S ∨ w.heap.size ≤ k

theorem Moves.refl (S : List Nat) (w : World) : Moves S w S w := ⟨rfl, rfl, rfl, Nat.le_refl _, fun _ _ _ => rfl, fun _ h => .inl h⟩

theorem Moves.apart {S S' : List Nat} {w w' : World} (h : Moves S w S' w') {k : Nat} (hk : k < w.heap.size) (hn : k ∉ S) : k ∉ S' := fun e => by
  rcases h.row k e with h' | h'
  · exact hn h'
  · omega

theorem Moves.trans {S S' S'' : List Nat} {w w' w'' : World} (h : Moves S w S' w') (k : Moves S' w' S'' w'') : Moves S w S'' w'' where
  os := k.os.trans h.os
  tape := k.tape.trans h.tape
  output := k.output.trans h.output
  size := Nat.le_trans h.size k.size
  block := fun i hi hn => (k.block i (Nat.lt_of_lt_of_le hi h.size) (h.apart hi hn)).trans (h.block i hi hn)
  row := fun i hi => by
    rcases k.row i hi with h' | h'
    · exact h.row i h'
    · exact .inr (Nat.le_trans h.size h')

/-- The same for a smaller set behind. -/
theorem Moves.sub {S S' T' : List Nat} {w w' : World} (h : Moves S w S' w') (hs : ∀ k ∈ T', k ∈ S' ∨ k ∈ S ∨ w.heap.size ≤ k) : Moves S w T' w' :=
  ⟨h.os, h.tape, h.output, h.size, h.block, fun k hk => by
    rcases hs k hk with e | e | e
    · exact h.row k e
    · exact .inl e
    · exact .inr e⟩

theorem Moves.wide {S T S' : List Nat} {w w' : World} (h : Moves S w S' w') (hs : ∀ k ∈ S, k ∈ T) : Moves T w S' w' :=
  ⟨h.os, h.tape, h.output, h.size, fun k hk hn => h.block k hk (fun e => hn (hs k e)), fun k hk => by
    rcases h.row k hk with e | e
    · exact .inl (hs k e)
    · exact .inr e⟩

theorem Moves.of_below {w w' : World} (S : List Nat) (hb : Below w.heap.size w w') : Moves S w S w' :=
  ⟨hb.os, hb.tape, hb.output, hb.size, fun k hk _ => hb.block k hk, fun _ h => .inl h⟩
theorem Moves.of_drewN (S : List Nat) (w : World) (q : Nat) : Moves S w S (w.drewN q) := Moves.of_below S (drewN_below w q)
theorem Moves.of_drew (S : List Nat) (w : World) : Moves S w S w.drew := Moves.of_below S (drew_below w)
theorem Moves.of_alloc (S : List Nat) (w : World) (o : Obj) : Moves S w S (w.alloc o) := Moves.of_below S (alloc_below w o)
theorem Moves.of_grown {w w' : World} {S : List Nat} {r : Nat} (hg : w.grownBy w' (some r)) (hr : r ∈ S) : Moves S w S w' :=
  ⟨hg.os, hg.tape, hg.output, hg.size, fun k hk hn => hg.block k hk (fun e => by injection e with e; exact hn (e ▸ hr)), fun _ h => .inl h⟩
theorem Moves.of_setCell {S : List Nat} (w : World) {b o : Nat} (v : Value) (hb : b ∈ S) : Moves S w S (w.setCell ⟨b, o, none⟩ v) :=
  ⟨rfl, rfl, rfl, by simp [World.setCell], fun k _ hn => Below.heap_setCell _ _ _ _ (fun e => hn (by rw [e]; exact hb)), fun _ h => .inl h⟩

theorem Moves.below {S S' : List Nat} {w0 w w' : World} {A : Nat} (h : Moves S w S' w') (hb : Below A w0 w) (hS : ∀ k ∈ S, A ≤ k) (hA : A ≤ w.heap.size) : Below A w0 w' :=
  hb.trans ⟨h.os, h.tape, h.output, h.size, fun k hk => h.block k (by omega) (fun e => by have := hS k e; omega)⟩

theorem Moves.low {S S' : List Nat} {w w' : World} {A : Nat} (h : Moves S w S' w') (hS : ∀ k ∈ S, A ≤ k) (hA : A ≤ w.heap.size) : ∀ k ∈ S', A ≤ k := fun k hk => by
  rcases h.row k hk with e | e
  · exact hS k e
  · omega

theorem Moves.cell {S S' : List Nat} {w w' : World} (h : Moves S w S' w') {p : Addr} {v : Value} (hp : w.cell? p = some v) (hn : p.block ∉ S) : w'.cell? p = some v := by
  rw [World.cell?_of_block (w := w) (h.block _ (cell_lt hp) hn)]; exact hp

theorem Moves.cells {S S' : List Nat} {w w' : World} (h : Moves S w S' w') {b o : Nat} {cs : List Value} (hp : Cells w (some ⟨b, o, none⟩) cs) (hn : b ∉ S) : Cells w' (some ⟨b, o, none⟩) cs := by
  rcases hp with hp | ⟨b', o', e, hlt, hr⟩
  · exact .inl hp
  · injection e with e
    injection e with e1 e2 _
    subst e1; subst e2
    exact .inr ⟨b, o, rfl, Nat.lt_of_lt_of_le hlt h.size, fun j u hj => h.cell (hr j u hj) hn⟩

/-- A new block written. -/
theorem Moves.grown {S S' : List Nat} {w w' w'' : World} {r : Option Nat} (h : Moves S w S' w') (hg : w'.grownBy w'' r) (hr : ∀ q, r = some q → w.heap.size ≤ q) : Moves S w S' w'' :=
  ⟨hg.os.trans h.os, hg.tape.trans h.tape, hg.output.trans h.output, Nat.le_trans h.size hg.size, fun k hk hn => (hg.block k (Nat.lt_of_lt_of_le hk h.size) (fun e => by have := hr k e.symm; omega)).trans (h.block k hk hn), h.row⟩
end Go.Proofs.YthpjmjohdliohaaGreat

namespace Go.Proofs.YthpjmjohdliohaaGreat
open Go.RowKit Go.Maps

/-- Block mb is a map of numbers; only nodes are its keys; what is absent counts as 0. -/
def IMapAt (w : World) (ids : List Int) (mb : Nat) (f : Int → Nat) : Prop :=
  ∃ D : DataW Unit, w.ownsMap Tryz.prog 2 (plainElem Tryz.prog 3) mb ids.length D ∧ (∀ l, Maps.has D l = true → ∃ x ∈ ids, l = .int .i64 x) ∧ ∀ x, D.atKey (.int .i64 x) (.lit (.int .i64 0)) = .lit (.int .i64 (f x))

/-- The bound on the entries by what the keys are. -/
theorem ownsMap_bound {ids : List Int} {w : World} {R : Value → Option (DataW Unit × List MemPlace)} {mb N : Nat} {D : DataW Unit} (h : w.ownsMap Tryz.prog 2 R mb N D) (hk : ∀ l, Maps.has D l = true → ∃ x ∈ ids, l = .int .i64 x) :
    w.ownsMap Tryz.prog 2 R mb ids.length D := by
  obtain ⟨es0, e0, hp, hkl⟩ := h.canon keyed64
  obtain ⟨es, clock, hb, F, hs, hD⟩ := h
  refine ⟨es, clock, hb, F, ?_, hD⟩
  have hes : es0 = (es.toList.map (WideElems.rg Tryz.prog 2 R)).foldr DataW.insert [] := by rw [hD] at e0; injection e0 with e0; exact e0.symm
  have hlen : es.size = es0.length := by rw [hes, length_sorted]; simp
  have hkey : ∀ p ∈ es0, ∃ x ∈ ids, p.1 = Lit.int .i64 x := fun p hp' => by
    refine hk _ ?_
    rw [e0, has_eq, List.any_eq_true]
    exact ⟨p, hp', WideAt.sameKey_self (hkl p hp')⟩
  have hap := apart_of_rising hp
  let num : Lit × DataW Unit → Int := fun p => match p.1 with | .int _ x => x | _ => 0
  have hnum : ∀ p ∈ es0, p.1 = Lit.int .i64 (num p) ∧ num p ∈ ids := fun p hp' => by
    obtain ⟨x, hx, e⟩ := hkey p hp'
    have : num p = x := by show (match p.1 with | .int _ x => x | _ => 0) = x; rw [e]
    rw [this]; exact ⟨e, hx⟩
  have hnd : (es0.map num).Nodup := by
    unfold List.Nodup
    rw [List.pairwise_map]
    refine hap.imp_of_mem fun {a b} ha hb' hab e => hab ?_
    rw [(hnum a ha).1, (hnum b hb').1, e]
  have := nodup_len hnd (m := ids) (fun x hx => by
    obtain ⟨p, hp', rfl⟩ := List.mem_map.1 hx
    exact (hnum p hp').2)
  rw [List.length_map] at this
  omega

theorem imap_new (w : World) (ids : List Int) : IMapAt (w.alloc (.map #[] 0)) ids w.heap.size (fun _ => 0) :=
  ⟨.map [], (World.ownsMap_made w _ _ _).mono (Nat.zero_le _), fun l h => by simp [Maps.has] at h, fun x => atKey_of_not_has (by simp [Maps.has]) _⟩

theorem IMapAt.lt {w : World} {ids : List Int} {mb : Nat} {f : Int → Nat} (h : IMapAt w ids mb f) : mb < w.heap.size := by
  obtain ⟨D, hown, _⟩ := h; exact hown.lt
theorem IMapAt.same {w w' : World} {ids : List Int} {mb : Nat} {f : Int → Nat} (h : IMapAt w ids mb f) (h1 : w'.heap[mb]? = w.heap[mb]?) : IMapAt w' ids mb f := by
  obtain ⟨D, ⟨es, clock, hb, r⟩, hD⟩ := h
  exact ⟨D, ⟨es, clock, h1.trans hb, r⟩, hD⟩

theorem imap_look {w : World} {ids : List Int} {mb : Nat} {f : Int → Nat} (h : IMapAt w ids mb f) {x : Int} (hx : In64 x) :
    (Instr.lookup 141 (.map (some mb)) (.int .i64 x) false).run Tryz.prog w = .ok (.int .i64 (f x)) w := by
  obtain ⟨D, hown, _, hat⟩ := h
  have hkey : keyOf Tryz.prog 2 (.int .i64 x) = some (.int .i64 x) := Maps.keyOf_int_mk Tryz.underlying2 hx
  obtain ⟨c, hrun, hc, _⟩ := hown.lookup_int keyed64 Tryz.underlying141 Tryz.underlying3 (Tryz.zeroValue3 w) hkey
  rw [hat x] at hc
  have h2 := (Lit.int.inj (DataW.lit.inj hc)).2
  rw [hrun, h2]

theorem imap_put {w : World} {ids : List Int} {mb : Nat} {f : Int → Nat} (h : IMapAt w ids mb f) {x : Int} (hx : In64 x) (hm : x ∈ ids) (hids : ids.length ≤ 1048576) (v : Nat) (hv : v ≤ 1048576) :
    ∃ w', (Instr.mapUpdate 141 (.map (some mb)) (.int .i64 x) (.int .i64 v)).run Tryz.prog w = .ok () w' ∧ IMapAt w' ids mb (upd f x v) ∧ w.grownBy w' (some mb) := by
  obtain ⟨D, hown, hk, hat⟩ := h
  have hkey : keyOf Tryz.prog 2 (.int .i64 x) = some (.int .i64 x) := Maps.keyOf_int_mk Tryz.underlying2 hx
  have hwf : (Lit.int .i64 (v : Int)).wf = true := WalkArith.wf_i64 (by omega)
  obtain ⟨w', hrun, ho, hg⟩ := hown.update keyed64 Tryz.underlying141 (by unfold maxLen; omega) hkey (plainElem_int Tryz.underlying3 hwf)
  have hkl : WideAt.IsKeyLit (.int .i64 x) := by simp [WideAt.IsKeyLit]
  have hk' : ∀ l, Maps.has (D.put (.int .i64 x) (.lit (.int .i64 v))) l = true → ∃ y ∈ ids, l = .int .i64 y := fun l hl => by
    by_cases e : l = .int .i64 x
    · exact ⟨x, hm, e⟩
    · rw [has_put_other e] at hl; exact hk l hl
  refine ⟨w', hrun, ⟨_, ownsMap_bound ho hk', hk', fun y => ?_⟩, hg⟩
  by_cases e : y = x
  · subst e
    rw [atKey_put_same (hown.canon keyed64 |> fun ⟨es, e, _⟩ => ⟨es, e⟩) hkl, upd_self]
  · rw [atKey_put_other (fun e' => e (Lit.int.inj e').2), hat y, upd_other _ _ e]

/-- m[x] = k at the operation, for the walk. -/
theorem wpList_imap_put (w : World) {ops : Array Oper} {rest : List Oper} {o : Oper} {a : Act} {Q : Exit → Act → World → Prop} (hg : o.guard = none) (m x v : Operand) (hop : o.op = Op.mapUpdate 141 m x v)
    {ids : List Int} {mb : Nat} {f : Int → Nat} (hm : a.eval m = .map (some mb)) (h : IMapAt w ids mb f) (y : Int) (hx : a.eval x = .int .i64 y) (hy : In64 y) (hmem : y ∈ ids) (hids : ids.length ≤ 1048576) (k : Nat) (hk : k ≤ 1048576) (hv : a.eval v = .int .i64 k)
    (hK : ∀ w', IMapAt w' ids mb (upd f y k) → w.grownBy w' (some mb) → wpList Tryz.prog ops Q rest (a.put o.dst undef) w') : wpList Tryz.prog ops Q (o :: rest) a w := by
  refine wpList_plain hg fun K' hK' => ?_
  obtain ⟨w', hrun, r1, r2⟩ := imap_put h hy hmem hids k hk
  unfold Oper.wp
  simp [execOp, hop, hm, hx, hv, hrun, Result.andThen]
  exact hK' _ _ (hK w' r1 r2)
end Go.Proofs.YthpjmjohdliohaaGreat

namespace Go.Proofs.YthpjmjohdliohaaGreat
open Go.RowKit Go.Maps

/-- Block mb is a set of numbers, of nodes alone. -/
def ISetAt (w : World) (ids : List Int) (mb : Nat) (s : List Int) : Prop :=
  ∃ D : DataW Unit, w.ownsMap Tryz.prog 2 unitElem mb ids.length D ∧ (∀ l, Maps.has D l = true → ∃ x ∈ ids, l = .int .i64 x) ∧ ∀ x, Maps.has D (.int .i64 x) = decide (x ∈ s)

theorem iset_new (w : World) (ids : List Int) : ISetAt (w.alloc (.map #[] 0)) ids w.heap.size [] :=
  ⟨.map [], (World.ownsMap_made w _ _ _).mono (Nat.zero_le _), fun l h => by simp [Maps.has] at h, fun x => by simp [Maps.has]⟩

theorem ISetAt.lt {w : World} {ids : List Int} {mb : Nat} {s : List Int} (h : ISetAt w ids mb s) : mb < w.heap.size := by
  obtain ⟨D, hown, _⟩ := h; exact hown.lt
theorem ISetAt.same {w w' : World} {ids : List Int} {mb : Nat} {s : List Int} (h : ISetAt w ids mb s) (h1 : w'.heap[mb]? = w.heap[mb]?) : ISetAt w' ids mb s := by
  obtain ⟨D, ⟨es, clock, hb, r⟩, hD⟩ := h
  exact ⟨D, ⟨es, clock, h1.trans hb, r⟩, hD⟩
theorem ISetAt.ext {w : World} {ids : List Int} {mb : Nat} {s t : List Int} (h : ISetAt w ids mb s) (e : ∀ x, x ∈ s ↔ x ∈ t) : ISetAt w ids mb t := by
  obtain ⟨D, ho, hk, hD⟩ := h
  exact ⟨D, ho, hk, fun x => by rw [hD x]; exact decide_eq_decide.2 (e x)⟩

theorem isetHas_any (ids : List Int) (mb : Nat) (s : List Int) (x : Int) (w : World) (hx : In64 x) (hs : ISetAt w ids mb s) :
    Calls Tryz.prog 52 #[.map (some mb), .int .i64 x] w
      fun e w' => e = .returned (.bool (decide (x ∈ s))) ∧ ∃ o, w' = w.alloc o := by
  obtain ⟨D, hown, _, hD⟩ := hs
  exact setHas_any mb ids.length s x w hx ⟨D, hown, hD⟩

theorem isetAdd_any (ids : List Int) (mb : Nat) (s : List Int) (x : Int) (w : World) (hx : In64 x) (hm : x ∈ ids) (hids : ids.length ≤ 1048576) (hs : ISetAt w ids mb s) :
    Calls Tryz.prog 53 #[.map (some mb), .int .i64 x] w
      fun e w' => e = .returned (.tuple #[]) ∧ ISetAt w' ids mb (x :: s) ∧ w.grownBy w' (some mb) := by
  obtain ⟨D, hown, hk, hD⟩ := hs
  have hkey : keyOf Tryz.prog 2 (.int .i64 x) = some (.int .i64 x) := Maps.keyOf_int_mk Tryz.underlying2 hx
  have hput : ∀ y, Maps.has (D.put (.int .i64 x) (.agg [])) (.int .i64 y) = decide (y ∈ x :: s) := fun y => by
    by_cases h : y = x
    · subst h
      rw [Maps.has_put_same hown.isMap (by simp [WideAt.IsKeyLit]) _]; simp
    · rw [Maps.has_put_other (by simpa using h), hD y]
      simp [h]
  have hk' : ∀ l, Maps.has (D.put (.int .i64 x) (.agg [])) l = true → ∃ y ∈ ids, l = .int .i64 y := fun l hl => by
    by_cases e : l = .int .i64 x
    · exact ⟨x, hm, e⟩
    · rw [has_put_other e] at hl; exact hk l hl
  have hput' := Lib.hid hput
  have hkh := Lib.hid hk'
  clear hput hD hk hk'
  go_enter Tryz.func53, Tryz.ntmps53
  go_wp2_with (at_mapUpdate; refine wpList_mapUpdate_own _ rfl _ _ _ 103 rfl 2 162 keyed64 Tryz.underlying103 (unitElem (H := Unit)) mb ids.length D rfl hown (by unfold maxLen; omega) _ _ _ rfl rfl hkey _ [] unitElem_mk ?_; intro w1 hown1 hgrow1)
  go_end0
  exact ⟨rfl, ⟨_, ownsMap_bound hown1 hkh.out, hkh.out, hput'.out⟩, hgrow1⟩

/-- One number less. -/
def remI (s : List Int) (x : Int) : List Int := s.filter fun y => decide (y ≠ x)
theorem mem_remI {s : List Int} {x y : Int} : y ∈ remI s x ↔ y ∈ s ∧ y ≠ x := by simp [remI]

theorem isetRemove_any (ids : List Int) (mb : Nat) (s : List Int) (x : Int) (w : World) (hx : In64 x) (hs : ISetAt w ids mb s) :
    Calls Tryz.prog 93 #[.map (some mb), .int .i64 x] w
      fun e w' => e = .returned (.tuple #[]) ∧ ISetAt w' ids mb (remI s x) ∧ w.grownBy w' (some mb) := by
  obtain ⟨D, hown, hk, hD⟩ := hs
  have hkey : keyOf Tryz.prog 2 (.int .i64 x) = some (.int .i64 x) := Maps.keyOf_int_mk Tryz.underlying2 hx
  have hdel : ∀ y, Maps.has (D.del (.int .i64 x)) (.int .i64 y) = decide (y ∈ remI s x) := fun y => by
    unfold remI
    by_cases h : y = x
    · subst h
      rw [Maps.has_del_same]; simp
    · rw [Maps.has_del_other (by simpa using h), hD y]
      simp [h]
  have hk' : ∀ l, Maps.has (D.del (.int .i64 x)) l = true → ∃ y ∈ ids, l = .int .i64 y := fun l hl => by
    by_cases e : l = .int .i64 x
    · rw [e, Maps.has_del_same] at hl; cases hl
    · rw [Maps.has_del_other e] at hl; exact hk l hl
  have hdel' := Lib.hid hdel
  have hkh := Lib.hid hk'
  clear hdel hD hk hk'
  go_enter Tryz.func93, Tryz.ntmps93
  go_wp2_with (at_delete; refine wpList_delete_own _ rfl _ _ 103 2 rfl 162 keyed64 Tryz.underlying103 (unitElem (H := Unit)) mb ids.length D rfl hown _ _ rfl hkey ?_; intro w1 hown1 hgrow1)
  go_end0
  exact ⟨rfl, ⟨_, hown1, hkh.out, hdel'.out⟩, hgrow1.grown⟩
end Go.Proofs.YthpjmjohdliohaaGreat
