/- A map of booleans by numbers; OrderedNodes.Reset; what a filtered iterator is.
   graph.newNodeFilterIterator.
   graph.nodeFilterIterator: Next and Node. -/
import Derived.Test.YtanbhibllilccaaGreatISet
import Derived.Test.YtanbhibllilccaaGreatNodes
import Derived.Deep.LoopGhost
import Derived.BigRegion
namespace Go.Proofs.YtanbhibllilccaaGreat
open Go.RowKit Go.Maps

/-- Block mb is a map of numbers, of nodes alone; the ones of s are true. -/
def BMapAt (w : World) (ids : List Int) (mb : Nat) (s : List Int) : Prop :=
  ∃ D : DataW Unit, w.ownsMap Tryz.prog 2 (plainElem Tryz.prog 4) mb ids.length D ∧ (∀ l, Maps.has D l = true → ∃ x ∈ ids, l = .int .i64 x) ∧ ∀ x, D.atKey (.int .i64 x) (.lit (.bool false)) = .lit (.bool (decide (x ∈ s)))

theorem bmap_new (w : World) (ids : List Int) : BMapAt (w.alloc (.map #[] 0)) ids w.heap.size [] :=
  ⟨.map [], (World.ownsMap_made w _ _ _).mono (Nat.zero_le _), fun l h => by simp [Maps.has] at h, fun x => (atKey_of_not_has (by simp [Maps.has]) _).trans (by simp)⟩

theorem BMapAt.lt {w : World} {ids : List Int} {mb : Nat} {s : List Int} (h : BMapAt w ids mb s) : mb < w.heap.size := by
  obtain ⟨D, hown, _⟩ := h; exact hown.lt
theorem BMapAt.same {w w' : World} {ids : List Int} {mb : Nat} {s : List Int} (h : BMapAt w ids mb s) (h1 : w'.heap[mb]? = w.heap[mb]?) : BMapAt w' ids mb s := by
  obtain ⟨D, ⟨es, clock, hb, r⟩, hD⟩ := h
  exact ⟨D, ⟨es, clock, h1.trans hb, r⟩, hD⟩

theorem plainElem_bool_inv {P : Program} {e : TypeId} (he : P.underlying e = some .bool) {v : Value} {z : DataW Unit × List MemPlace} (h : plainElem P e v = some z) : ∃ b, v = .bool b ∧ z = (.lit (.bool b), []) := by
  unfold plainElem at h
  rw [he] at h
  cases v <;> simp at h
  exact ⟨_, rfl, h.symm⟩

theorem bmap_look {w : World} {ids : List Int} {mb : Nat} {s : List Int} (h : BMapAt w ids mb s) {x : Int} (hx : In64 x) :
    (Instr.lookup 247 (.map (some mb)) (.int .i64 x) false).run Tryz.prog w = .ok (.bool (decide (x ∈ s))) w := by
  obtain ⟨D, hown, _, hat⟩ := h
  have hkey : keyOf Tryz.prog 2 (.int .i64 x) = some (.int .i64 x) := Maps.keyOf_int_mk Tryz.underlying2 hx
  obtain ⟨v, ps, hrun, hv⟩ := hown.lookup keyed64 Tryz.underlying247 (Tryz.zeroValue4 w) (plainElem_bool Tryz.underlying4 false) hkey
  obtain ⟨b, rfl, hb⟩ := plainElem_bool_inv Tryz.underlying4 hv
  have h1 := (Prod.mk.inj hb).1
  rw [hat x] at h1
  have h2 := Lit.bool.inj (DataW.lit.inj h1)
  rw [hrun, h2]

theorem bmap_put {w : World} {ids : List Int} {mb : Nat} {s : List Int} (h : BMapAt w ids mb s) {x : Int} (hx : In64 x) (hm : x ∈ ids) (hids : ids.length ≤ 1048576) :
    ∃ w', (Instr.mapUpdate 247 (.map (some mb)) (.int .i64 x) (.bool true)).run Tryz.prog w = .ok () w' ∧ BMapAt w' ids mb (x :: s) ∧ w.grownBy w' (some mb) := by
  obtain ⟨D, hown, hk, hat⟩ := h
  have hkey : keyOf Tryz.prog 2 (.int .i64 x) = some (.int .i64 x) := Maps.keyOf_int_mk Tryz.underlying2 hx
  obtain ⟨w', hrun, ho, hg⟩ := hown.update keyed64 Tryz.underlying247 (by unfold maxLen; omega) hkey (plainElem_bool Tryz.underlying4 true)
  have hkl : WideAt.IsKeyLit (.int .i64 x) := by simp [WideAt.IsKeyLit]
  have hk' : ∀ l, Maps.has (D.put (.int .i64 x) (.lit (.bool true))) l = true → ∃ y ∈ ids, l = .int .i64 y := fun l hl => by
    by_cases e : l = .int .i64 x
    · exact ⟨x, hm, e⟩
    · rw [has_put_other e] at hl; exact hk l hl
  refine ⟨w', hrun, ⟨_, ownsMap_bound ho hk', hk', fun y => ?_⟩, hg⟩
  by_cases e : y = x
  · subst e
    rw [atKey_put_same (hown.canon keyed64 |> fun ⟨es, e, _⟩ => ⟨es, e⟩) hkl]
    simp
  · rw [atKey_put_other (fun e' => e (Lit.int.inj e').2), hat y]
    simp [e]

/-- m[x] = true at the operation, for the walk. -/
theorem wpList_bmap_put (w : World) {ops : Array Oper} {rest : List Oper} {o : Oper} {a : Act} {Q : Exit → Act → World → Prop} (hg : o.guard = none) (m x v : Operand) (hop : o.op = Op.mapUpdate 247 m x v ∨ o.op = Op.insert 247 m x v)
    {ids : List Int} {mb : Nat} {s : List Int} (hm : a.eval m = .map (some mb)) (h : BMapAt w ids mb s) (y : Int) (hx : a.eval x = .int .i64 y) (hy : In64 y) (hmem : y ∈ ids) (hids : ids.length ≤ 1048576) (hv : a.eval v = .bool true)
    (hK : ∀ w', BMapAt w' ids mb (y :: s) → w.grownBy w' (some mb) → wpList Tryz.prog ops Q rest (a.put o.dst undef) w') : wpList Tryz.prog ops Q (o :: rest) a w := by
  refine wpList_plain hg fun K' hK' => ?_
  obtain ⟨w', hrun, r1, r2⟩ := bmap_put h hy hmem hids
  unfold Oper.wp
  rcases hop with hop | hop
  · simp [execOp, hop, hm, hx, hv, hrun, Result.andThen]
    exact hK' _ _ (hK w' r1 r2)
  · simp [execOp, hop, hm, hx, hv, hrun, Result.andThen]
    exact hK' _ _ (hK w' r1 r2)

/-- The same within a region that is drawn. -/
theorem step_bmap_put {ops : Array Oper} {o : Oper} {a : Act} {w : World} {K : Act → World → Prop} {Q : Exit → Act → World → Prop} {E : Prop} (hg : o.guard = none) (m x v : Operand) (hop : o.op = Op.mapUpdate 247 m x v)
    {ids : List Int} {mb : Nat} {s : List Int} (hm : a.eval m = .map (some mb)) (h : BMapAt w ids mb s) (y : Int) (hx : a.eval x = .int .i64 y) (hy : In64 y) (hmem : y ∈ ids) (hids : ids.length ≤ 1048576) (hv : a.eval v = .bool true)
    (hK : ∀ w', BMapAt w' ids mb (y :: s) → w.grownBy w' (some mb) → K (a.put o.dst undef) w') : if Region.wanted o (yielded ops a.tmps) = true then Oper.wp Tryz.prog o a w K Q else E := by
  have hw : Region.wanted o (yielded ops a.tmps) = true := by simp [Region.wanted, hg]
  rw [if_pos hw]
  obtain ⟨w', hrun, r1, r2⟩ := bmap_put h hy hmem hids
  unfold Oper.wp
  simp [execOp, hop, hm, hx, hv, hrun, Result.andThen]
  exact hK w' r1 r2

theorem reset_any (B E ib k : Nat) (ns : List Int) (w : World) (hi : IterAt w B E ib k ns) :
    Calls Tryz.prog 234 #[.pointer (some ⟨ib, 0, none⟩)] w
      fun e w' => e = .returned (.tuple #[]) ∧ w.grownBy w' (some ib) ∧ IterAt w' B E ib 0 ns := by
  obtain ⟨hB, hE, a, c, hrE, hb, hown, hne⟩ := hi
  have f0 : w.frozen? ⟨ib, 0, none⟩ = false := by simp [World.frozen?, hb]
  have c0 : w.cell? ⟨ib, 0, none⟩ = some (.int .i64 ((k : Int) - 1)) := by simp [World.cell?, hb]
  have hg : ∀ v, w.grownBy (w.setCell ⟨ib, 0, none⟩ v) (some ib) := fun v =>
    ⟨rfl, rfl, rfl, by rw [size_setCell]; exact Nat.le_refl _, fun j _ hj => Below.heap_setCell w _ _ _ (by intro e; exact hj (by rw [e]))⟩
  have hit : Hid (w.grownBy (w.setCell ⟨ib, 0, none⟩ (.int .i64 (-1))) (some ib) ∧ IterAt (w.setCell ⟨ib, 0, none⟩ (.int .i64 (-1))) B E ib 0 ns) :=
    ⟨hg _, hB, hE, a, c, hrE, (heap_set_self hb 0 _).trans rfl, hown.kept (hg _) (.inr hne), hne⟩
  clear hb hown hg hrE hB hE
  go_enter Tryz.func234, Tryz.ntmps234
  go_wp2_with fail
  go_end0
  exact ⟨rfl, hit.out.1, hit.out.2⟩

/-- A filtered iterator: it lets those of fil by. -/
def FIterAt (w : World) (B E fb ib k : Nat) (ids fil : List Int) : Prop :=
  ∃ mb Bi Ei, B ≤ Bi ∧ Ei ≤ E ∧ IterAt w Bi Ei ib k ids ∧ B ≤ fb ∧ fb < E ∧ (fb < Bi ∨ Ei ≤ fb) ∧ B ≤ mb ∧ mb < E ∧ (mb < Bi ∨ Ei ≤ mb) ∧
    w.heap[fb]? = some (.cells #[.iface 256 (.pointer (some ⟨ib, 0, none⟩)), .map (some mb)] 249 (0, 0)) ∧ BMapAt w ids mb fil

theorem FIterAt.same {w w' : World} {B E fb ib k : Nat} {ids fil : List Int} (h : FIterAt w B E fb ib k ids fil) (hs : ∀ j, B ≤ j → j < E → w'.heap[j]? = w.heap[j]?) : FIterAt w' B E fb ib k ids fil := by
  obtain ⟨mb, Bi, Ei, h1, h2, h3, h4, h5, h6, h7, h8, h9, h10, h11⟩ := h
  exact ⟨mb, Bi, Ei, h1, h2, h3.same fun j hj hj' => hs j (by omega) (by omega), h4, h5, h6, h7, h8, h9, (hs fb h4 h5).trans h10, h11.same (hs mb h7 h8)⟩
end Go.Proofs.YtanbhibllilccaaGreat

namespace Go.Proofs.YtanbhibllilccaaGreat
open Go.RowKit Go.Maps

set_option maxHeartbeats 1000000 in
theorem nextEnd_any (B E ib : Nat) (ns : List Int) (w : World) (hn : ns.length ≤ 1048576) (hi : IterAt w B E ib ns.length ns) :
    Calls Tryz.prog 231 #[.pointer (some ⟨ib, 0, none⟩)] w
      fun e w' => e = .returned (.bool false) ∧ w.grownBy w' (some ib) ∧ IterAt w' B E ib (ns.length + 1) ns := by
  obtain ⟨hB, hE, a, c, hrE, hb, hown, hne⟩ := hi
  have c0 : w.cell? ⟨ib, 0, none⟩ = some (.int .i64 ((ns.length : Int) - 1)) := by simp [World.cell?, hb]
  have c1 : w.cell? ⟨ib, 1, none⟩ = some (.slice a ns.length c) := by simp [World.cell?, hb]
  have f0 : w.frozen? ⟨ib, 0, none⟩ = false := by simp [World.frozen?, hb]
  obtain ⟨t1, t2⟩ := nextTest ns.length ns.length (Nat.le_refl _) hn
  go_enter Tryz.func231, Tryz.ntmps231
  go_wp2
  go_quiet (fail)
  have hg : ∀ q v, w.grownBy ((w.drewN q).setCell ⟨ib, 0, none⟩ v) (some ib) := fun q v =>
    ⟨rfl, rfl, rfl, by rw [size_setCell]; exact Nat.le_refl _, fun j _ hj => Below.heap_setCell (w.drewN q) _ _ _ (by intro e; exact hj (by rw [e]))⟩
  have hit : ∀ q, IterAt ((w.drewN q).setCell ⟨ib, 0, none⟩ (.int .i64 (ns.length : Nat))) B E ib (ns.length + 1) ns := fun q => by
    refine ⟨hB, hE, a, c, hrE, ?_, hown.kept (hg q _) (.inr hne), hne⟩
    rw [show ((ns.length + 1 : Nat) : Int) - 1 = ((ns.length : Nat) : Int) by omega]
    have hb' : (w.drewN q).heap[ib]? = some (.cells #[.int .i64 ((ns.length : Int) - 1), .slice a ns.length c] 259 (0, 0)) := hb
    exact (heap_set_self hb' 0 _).trans rfl
  have hgh := Lib.hid hg
  have hih := Lib.hid hit
  clear hg hit hb hown hB hrE
  go_wp2
  go_ret
  exact ⟨rfl, hgh.out _ _, hih.out _⟩

theorem nid_method (n : Nat) (x : Int) (w : World) : (method (n + 1) 253 (.int .i64 x) "ID").run Tryz.prog w = .ok (225, .int .i64 x) w := by kernel_rfl
theorem onode_method (n : Nat) (a : Addr) (w : World) : (method (n + 1) 256 (.pointer (some a)) "Node").run Tryz.prog w = .ok (232, .pointer (some a)) w := by kernel_rfl

/-- Where the blocks lie. -/
structure NB (w : World) (lo B1 E1 ib1 B2 E2 ib2 mb fb : Nat) : Prop where
  l1 : lo ≤ B1
  l2 : lo ≤ B2
  e1 : E1 ≤ mb
  e2 : E2 ≤ mb
  s : mb = w.heap.size
  f : mb < fb
  d : E1 ≤ B2 ∨ E2 ≤ B1

/-- While the filter is filled. -/
structure NF (w0 w : World) (lo B1 E1 ib1 B2 E2 ib2 mb fb : Nat) (ids ns fil : List Int) (k : Nat) : Prop where
  nb : NB w0 lo B1 E1 ib1 B2 E2 ib2 mb fb
  i1 : IterAt w B1 E1 ib1 0 ids
  i2 : IterAt w B2 E2 ib2 k ns
  blk : w.heap[fb]? = some (.cells #[.iface 256 (.pointer (some ⟨ib1, 0, none⟩)), .map (some mb)] 249 (0, 0))
  map : BMapAt w ids mb fil
  bel : Below lo w0 w

section
variable {w0 w w' : World} {lo B1 E1 ib1 B2 E2 ib2 mb fb k k' : Nat} {ids ns fil fil' : List Int}

theorem NF.next (h : NF w0 w lo B1 E1 ib1 B2 E2 ib2 mb fb ids ns fil k) (hg : w.grownBy w' (some ib2)) (hi : IterAt w' B2 E2 ib2 k' ns) : NF w0 w' lo B1 E1 ib1 B2 E2 ib2 mb fb ids ns fil k' := by
  have hb := h.nb
  have h1 := hb.e2; have h2 := hb.f; have h3 := hb.l2; have h4 := hb.s; have h5 := hb.d; have h6 := hb.e1
  have q1 := hi.1; have q2 := hi.2.1
  have hz := h.map.lt
  have hfz : fb < w.heap.size := lt_of_block h.blk
  refine ⟨hb, h.i1.same fun j hj hj' => hg.block j (by omega) (fun e => by injection e with e; omega), hi, (hg.block fb hfz (fun e => by injection e with e; omega)).trans h.blk, h.map.same (hg.block mb hz (fun e => by injection e with e; omega)), ?_⟩
  exact h.bel.grown hg (by have := h.bel.size; omega) (fun j hj => by injection hj with hj; omega)

theorem NF.reset1 (h : NF w0 w lo B1 E1 ib1 B2 E2 ib2 mb fb ids ns fil k) (hg : w.grownBy w' (some ib1)) (hi : IterAt w' B1 E1 ib1 0 ids) : NF w0 w' lo B1 E1 ib1 B2 E2 ib2 mb fb ids ns fil k := by
  have hb := h.nb
  have h1 := hb.e1; have h2 := hb.f; have h3 := hb.l1; have h4 := hb.s; have h5 := hb.d; have h6 := hb.e2
  have q1 := hi.1; have q2 := hi.2.1
  have hz := h.map.lt
  have hfz : fb < w.heap.size := lt_of_block h.blk
  refine ⟨hb, hi, h.i2.same fun j hj hj' => hg.block j (by omega) (fun e => by injection e with e; omega), (hg.block fb hfz (fun e => by injection e with e; omega)).trans h.blk, h.map.same (hg.block mb hz (fun e => by injection e with e; omega)), ?_⟩
  exact h.bel.grown hg (by have := h.bel.size; omega) (fun j hj => by injection hj with hj; omega)

theorem NF.put (h : NF w0 w lo B1 E1 ib1 B2 E2 ib2 mb fb ids ns fil k) (hg : w.grownBy w' (some mb)) (hi : BMapAt w' ids mb fil') : NF w0 w' lo B1 E1 ib1 B2 E2 ib2 mb fb ids ns fil' k := by
  have hb := h.nb
  have h1 := hb.e1; have h2 := hb.f; have h3 := hb.l1; have h4 := hb.s; have h5 := hb.d; have h6 := hb.e2
  have q1 := h.i1.1; have q2 := h.i1.2.1
  have hz := h.map.lt
  have hfz : fb < w.heap.size := lt_of_block h.blk
  refine ⟨hb, h.i1.same fun j hj hj' => hg.block j (by omega) (fun e => by injection e with e; omega), h.i2.same fun j hj hj' => hg.block j (by omega) (fun e => by injection e with e; omega), (hg.block fb hfz (fun e => by injection e with e; omega)).trans h.blk, hi, ?_⟩
  exact h.bel.grown hg (by have := h.bel.size; omega) (fun j hj => by injection hj with hj; omega)

theorem NF.drewN (h : NF w0 w lo B1 E1 ib1 B2 E2 ib2 mb fb ids ns fil k) (q : Nat) : NF w0 (w.drewN q) lo B1 E1 ib1 B2 E2 ib2 mb fb ids ns fil k :=
  ⟨h.nb, h.i1.same fun _ _ _ => rfl, h.i2.same fun _ _ _ => rfl, h.blk, h.map.same rfl, below_draws h.bel q⟩

theorem NF.below (h : NF w0 w lo B1 E1 ib1 B2 E2 ib2 mb fb ids ns fil k) (hb : Below w.heap.size w w') : NF w0 w' lo B1 E1 ib1 B2 E2 ib2 mb fb ids ns fil k := by
  have hn := h.nb
  have h1 := hn.e1; have h2 := hn.f; have h3 := hn.l1; have h4 := hn.s; have h6 := hn.e2
  have q1 := h.i1.1; have q2 := h.i1.2.1
  have hz := h.map.lt
  exact ⟨hn, h.i1.same fun j _ hj => hb.block j (by omega), h.i2.same fun j _ hj => hb.block j (by omega), (hb.block fb (lt_of_block h.blk)).trans h.blk, h.map.same (hb.block mb hz), h.bel.trans (hb.mono (by omega))⟩
theorem NF.c0 (h : NF w0 w lo B1 E1 ib1 B2 E2 ib2 mb fb ids ns fil k) : w.cell? ⟨fb, 0, none⟩ = some (.iface 256 (.pointer (some ⟨ib1, 0, none⟩))) := by have := h.blk; simp [World.cell?, this]
theorem NF.c1 (h : NF w0 w lo B1 E1 ib1 B2 E2 ib2 mb fb ids ns fil k) : w.cell? ⟨fb, 1, none⟩ = some (.map (some mb)) := by have := h.blk; simp [World.cell?, this]

theorem NF.done (h : NF w0 w lo B1 E1 ib1 B2 E2 ib2 mb fb ids ns fil k) : FIterAt w lo w.heap.size fb ib1 0 ids fil := by
  have hb := h.nb
  have h1 := hb.e1; have h2 := hb.f; have h3 := hb.l1; have h4 := hb.s
  have q1 := h.i1.1; have q2 := h.i1.2.1
  have hfz : fb < w.heap.size := lt_of_block h.blk
  exact ⟨mb, B1, E1, h3, by omega, h.i1, by omega, hfz, by omega, by omega, h.map.lt, by omega, h.blk, h.map⟩
end

/-- What newNodeFilterIterator gives. -/
def NewFPost (w : World) (lo ib1 : Nat) (ids ns : List Int) (x : Int) (e : Ending) (w' : World) : Prop :=
  ∃ (fb : Nat) (fil : List Int), e = .returned (.pointer (some ⟨fb, 0, none⟩)) ∧ FIterAt w' lo w'.heap.size fb ib1 0 ids fil ∧ (∀ y, y ∈ fil ↔ y = x ∨ y ∈ ns) ∧ Below lo w w'

set_option maxRecDepth 100000 in
set_option maxHeartbeats 2000000 in
theorem newFilter_any (lo B1 E1 ib1 B2 E2 ib2 : Nat) (ids ns : List Int) (x : Int) (w : World) (hids : ids.length ≤ 1000) (h64 : ∀ y ∈ ids, In64 y) (hx : x ∈ ids) (hns : ∀ y ∈ ns, y ∈ ids) (hnl : ns.length ≤ 1048576)
    (h1 : IterAt w B1 E1 ib1 0 ids) (h2 : IterAt w B2 E2 ib2 0 ns) (hlo : lo ≤ B1 ∧ lo ≤ B2) (hE : E1 ≤ w.heap.size ∧ E2 ≤ w.heap.size) (hd : E1 ≤ B2 ∨ E2 ≤ B1) :
    Calls Tryz.prog 160 #[.iface 256 (.pointer (some ⟨ib1, 0, none⟩)), .iface 256 (.pointer (some ⟨ib2, 0, none⟩)), .int .i64 x] w (NewFPost w lo ib1 ids ns x) := by
  obtain ⟨w1, hw1⟩ : ∃ w1, w1 = w.alloc (.map #[] 0) := ⟨_, rfl⟩
  have hm1 : BMapAt w1 ids w.heap.size [] := by rw [hw1]; exact bmap_new w ids
  have hb1 : Below w.heap.size w w1 := by rw [hw1]; exact alloc_below _ _
  have hz1 : w1.heap.size = w.heap.size + 1 := by rw [hw1]; simp
  have q11 := h1.1; have q12 := h1.2.1; have q21 := h2.1; have q22 := h2.2.1
  have hx64 := h64 x hx
  obtain ⟨w2, hrun, hm2, hg2⟩ := bmap_put hm1 hx64 hx (by omega)
  have hz2 := hg2.size
  obtain ⟨w3, hw3⟩ : ∃ w3, w3 = w2.alloc (.cells #[.iface 256 (.pointer (some ⟨ib1, 0, none⟩)), .map (some w.heap.size)] 249) := ⟨_, rfl⟩
  obtain ⟨fb, hfb⟩ : ∃ fb, fb = w2.heap.size := ⟨_, rfl⟩
  have hF0 : NF w w3 lo B1 E1 ib1 B2 E2 ib2 w.heap.size fb ids ns [x] 0 := by
    have b3 : Below w2.heap.size w2 w3 := by rw [hw3]; exact alloc_below _ _
    have hold : ∀ j, j < w.heap.size → w3.heap[j]? = w.heap[j]? := fun j hj => by
      rw [b3.block j (by omega), hg2.block j (by omega) (fun e => by injection e with e; omega), hb1.block j hj]
    refine ⟨⟨hlo.1, hlo.2, hE.1, hE.2, rfl, by omega, hd⟩, h1.same fun j _ hj => hold j (by omega), h2.same fun j _ hj => hold j (by omega), ?_, hm2.same (b3.block _ (by omega)), ?_⟩
    · rw [hw3, hfb]; exact heap_alloc_new _ _
    · refine ⟨b3.os.trans (hg2.os.trans hb1.os), b3.tape.trans (hg2.tape.trans hb1.tape), b3.output.trans (hg2.output.trans hb1.output), by have := b3.size; omega, fun j hj => hold j (by omega)⟩
  rw [hw1] at hrun
  have hF0h := Lib.hid hF0
  have h64h := Lib.hid h64
  have hnsh := Lib.hid hns
  have hw3h : Hid (w2.alloc (.cells #[.iface 256 (.pointer (some ⟨ib1, 0, none⟩)), .map (some w.heap.size)] 249) = w3) := hw3.symm
  have hfbh := Lib.hid hfb
  obtain ⟨mb, hmb⟩ : ∃ mb, mb = w.heap.size := ⟨_, rfl⟩
  have hmm := @run_makeMap Tryz.prog
  clear h64 hns h1 h2 hm1 hb1 hz1 hw1 hd hE hlo q11 q12 q21 q22 hF0 hw3 hfb hm2 hg2 hz2 hx
  go_enter Tryz.func160, Tryz.ntmps160
  go_wp2_with fail
  clear hrun hmm
  rw [hw3h.out, ← hfbh.out]
  rw [← hmb] at hF0h hw3h ⊢
  clear hw3h hfbh hmb
  go_loopg [14] (ns.length) (fun gk _ wr => ∃ (k : Nat) (fil : List Int), gk = ns.length - k ∧ k ≤ ns.length ∧ NF w wr lo B1 E1 ib1 B2 E2 ib2 mb fb ids ns fil k ∧ ∀ y, y ∈ fil ↔ y = x ∨ y ∈ ns.take k)
  case atStart => exact ⟨0, [x], rfl, Nat.zero_le _, hF0h.out, fun y => by simp⟩
  case round =>
    clear hF0h
    obtain ⟨k, fil, hgk, hk, hF, hfil⟩ := hrel
    have hgkh := Lib.hid hgk
    have hFh := Lib.hid hF
    have hfilh := Lib.hid hfil
    clear hgk hfil
    by_cases hlt : k < ns.length
    · have hnx := Lib.hid (next_any B2 E2 ib2 k ns wr hk hnl hF.i2)
      obtain ⟨y, hy⟩ : ∃ y, y = ns[k] := ⟨_, rfl⟩
      have hym : y ∈ ids := hnsh.out y (by rw [hy]; exact List.getElem_mem hlt)
      have hy64 := h64h.out y hym
      have htk : Hid (ns.take (k + 1) = ns.take k ++ [y]) := by unfold Hid; rw [List.take_succ_eq_append_getElem hlt, ← hy]
      have hnd := Lib.hid (fun (W : World) (hi : IterAt W B2 E2 ib2 (k + 1) ns) => node_any B2 E2 ib2 k ns W hlt hnl hi)
      rw [← hy] at hnd
      have hd : decide (k < ns.length) = true := decide_eq_true hlt
      rw [hd] at hnx
      clear hF hd hy
      go_wp2_with fail
      refine (unhide hnx).mono ?_
      rintro e w5 ⟨rfl, hg5, hi5⟩
      have hF5 := hFh.out.next hg5 (hi5 hlt)
      have c1 := hF5.c1
      have hA : Hid (∀ W, Below w5.heap.size w5 W → NF w W lo B1 E1 ib1 B2 E2 ib2 mb fb ids ns fil (k + 1)) := fun W hW => hF5.below hW
      have hnd2 : Hid (∀ W, Below w5.heap.size w5 W → Calls Tryz.prog 232 #[.pointer (some ⟨ib2, 0, none⟩)] W fun e w' => e = .returned (.iface 253 (.int .i64 y)) ∧ Below w5.heap.size w5 w' ∧ w'.cell? ⟨fb, 1, none⟩ = some (.map (some mb))) := fun W hW =>
        (hnd.out W (hF5.below hW).i2).mono fun e w' ⟨h1, q, h2⟩ => by
          have hb : Below w5.heap.size w5 w' := by rw [h2]; exact below_draws hW q
          exact ⟨h1, hb, (hF5.below hb).c1⟩
      have hnext : Hid (∀ z, z ∈ y :: fil ↔ z = x ∨ z ∈ ns.take (k + 1)) := fun z => by
        rw [htk.out, List.mem_cons, hfilh.out z, List.mem_append, List.mem_singleton]
        constructor
        · rintro (h | h | h)
          · exact .inr (.inr h)
          · exact .inl h
          · exact .inr (.inl h)
        · rintro (h | h | h)
          · exact .inr (.inl h)
          · exact .inr (.inr h)
          · exact .inl h
      clear hg5 hi5 hF5 hnx hFh hnd htk
      go_wp2_with fail
      have hmi := nid_method
      have hmn := onode_method
      go_region_law (first
        | (go_simp; go_at_call 232; ((with_reducible refine (hnd2.out _ (by repeat (first | exact Below.refl _ _ | refine Below.drew ?_))).mono ?_)); rintro e w6 ⟨rfl, hb6, c6⟩; obtain ⟨w7, hrun7, hm7, hg7⟩ := bmap_put (hA.out _ hb6).map hy64 hym (by omega); have hF7 := Lib.hid ((hA.out _ hb6).put hg7 hm7); clear hm7 hg7)
        | (go_simp; go_at_call 225; refine (id_any _ _).mono ?_; rintro e w' ⟨rfl, rfl⟩))
      all_goals
        go_wp2_with fail
        go_roundg (ns.length - (k + 1))
        case measure => have := hgkh.out; omega
        case rel => exact ⟨k + 1, y :: fil, rfl, by omega, hF7.out, hnext.out⟩
    · have hkn : k = ns.length := by omega
      subst hkn
      have hnx := Lib.hid (nextEnd_any B2 E2 ib2 ns wr hnl hF.i2)
      clear hF hk
      go_wp2_with fail
      refine (unhide hnx).mono ?_
      rintro e w5 ⟨rfl, hg5, hi5⟩
      have hF5 := hFh.out.next hg5 hi5
      have hrs := Lib.hid (reset_any B2 E2 ib2 _ ns w5 hF5.i2)
      have hF5h := Lib.hid hF5
      clear hg5 hi5 hF5 hnx hFh
      go_wp2_with fail
      refine (unhide hrs).mono ?_
      rintro e w6 ⟨rfl, hg6, hi6⟩
      have hF6 := hF5h.out.next hg6 hi6
      have c0 := hF6.c0
      have hrs2 := Lib.hid (reset_any B1 E1 ib1 _ ids w6 hF6.i1)
      have hF6h := Lib.hid hF6
      clear hg6 hi6 hF6 hrs hF5h
      go_wp2_with fail
      refine (unhide hrs2).mono ?_
      rintro e w7 ⟨rfl, hg7, hi7⟩
      have hF7 := hF6h.out.reset1 hg7 hi7
      have hfin : Hid (NewFPost w lo ib1 ids ns x (.returned (.pointer (some ⟨fb, 0, none⟩))) w7) :=
        ⟨fb, fil, rfl, hF7.done, fun y => by have := hfilh.out y; rwa [List.take_length] at this, hF7.bel⟩
      clear hg7 hi7 hF7 hrs2 hF6h c0
      go_wp2_with fail
      go_ret
      exact hfin.out
end Go.Proofs.YtanbhibllilccaaGreat

namespace Go.Proofs.YtanbhibllilccaaGreat
open Go.RowKit Go.Maps

theorem fnext_method (n : Nat) (a : Addr) (w : World) : (method (n + 1) 245 (.pointer (some a)) "Next").run Tryz.prog w = .ok (222, .pointer (some a)) w := by kernel_rfl
theorem fnode_method (n : Nat) (a : Addr) (w : World) : (method (n + 1) 245 (.pointer (some a)) "Node").run Tryz.prog w = .ok (223, .pointer (some a)) w := by kernel_rfl

/-- What is let by. -/
def offF (fil ids : List Int) : List Int := ids.filter fun y => !decide (y ∈ fil)

/-- What Next of a filtered iterator does. -/
def NextFPost (w : World) (B E fb ib k : Nat) (ids fil : List Int) (e : Ending) (w' : World) : Prop :=
  w.grownBy w' (some ib) ∧ ((e = .returned (.bool false) ∧ offF fil (ids.drop k) = []) ∨
    ∃ (j : Nat) (hj : j < ids.length), e = .returned (.bool true) ∧ offF fil (ids.drop k) = ids[j] :: offF fil (ids.drop (j + 1)) ∧ FIterAt w' B E fb ib (j + 1) ids fil)

theorem FIterAt.next {w w' : World} {B E fb ib k k' mb Bi Ei : Nat} {ids fil : List Int} (h1 : B ≤ Bi) (h2 : Ei ≤ E) (hit : IterAt w Bi Ei ib k ids) (h4 : B ≤ fb) (h5 : fb < E) (h6 : fb < Bi ∨ Ei ≤ fb) (h7 : B ≤ mb) (h8 : mb < E) (h9 : mb < Bi ∨ Ei ≤ mb)
    (hblk : w.heap[fb]? = some (.cells #[.iface 256 (.pointer (some ⟨ib, 0, none⟩)), .map (some mb)] 249 (0, 0))) (hmap : BMapAt w ids mb fil) (hg : w.grownBy w' (some ib)) (hi : IterAt w' Bi Ei ib k' ids) :
    FIterAt w' B E fb ib k' ids fil := by
  have q1 := hit.1
  have q2 := hit.2.1
  exact ⟨mb, Bi, Ei, h1, h2, hi, h4, h5, h6, h7, h8, h9, (hg.block fb (lt_of_block hblk) (fun e => by injection e with e; omega)).trans hblk, hmap.same (hg.block mb hmap.lt (fun e => by injection e with e; omega))⟩

set_option maxRecDepth 100000 in
set_option maxHeartbeats 2000000 in
theorem nextF_any (B E fb ib k : Nat) (ids fil : List Int) (w : World) (hids : ids.length ≤ 1000) (h64 : ∀ y ∈ ids, In64 y) (hk : k ≤ ids.length) (hi : FIterAt w B E fb ib k ids fil) :
    Calls Tryz.prog 222 #[.pointer (some ⟨fb, 0, none⟩)] w (NextFPost w B E fb ib k ids fil) := by
  have h64h := Lib.hid h64
  have hih := Lib.hid hi
  clear hi h64
  go_enter Tryz.func222, Tryz.ntmps222
  go_wp2_with fail
  go_loopg [] (ids.length - k) (fun gk wr => ∃ (j : Nat), gk = ids.length - j ∧ j ≤ ids.length ∧ offF fil (ids.drop j) = offF fil (ids.drop k) ∧ FIterAt wr B E fb ib j ids fil ∧ w.grownBy wr (some ib))
  case atStart => exact ⟨k, rfl, hk, rfl, hih.out, World.grownBy.refl _ _⟩
  case round =>
    clear hih hk
    obtain ⟨j, hgk, hj, hoff, ⟨mb, Bi, Ei, h1, h2, hit, h4, h5, h6, h7, h8, h9, hblk, hmap⟩, hg⟩ := hrel
    have hgkh := Lib.hid hgk
    have hoffh := Lib.hid hoff
    have hgh := Lib.hid hg
    have c0 : wr.cell? ⟨fb, 0, none⟩ = some (.iface 256 (.pointer (some ⟨ib, 0, none⟩))) := by simp [World.cell?, hblk]
    have hF := Lib.hid (fun (w' : World) k' => FIterAt.next (w' := w') (k' := k') h1 h2 hit h4 h5 h6 h7 h8 h9 hblk hmap)
    clear hgk hoff hg
    have hpl : Hid (fb ≠ ib ∧ mb ≠ ib) := by
      have q1 := hit.1
      have q2 := hit.2.1
      exact ⟨by omega, by omega⟩
    have hmi := nid_method
    have hmn := onode_method
    by_cases hlt : j < ids.length
    · have hnx := Lib.hid (next_any Bi Ei ib j ids wr hj (by omega) hit)
      obtain ⟨y, hy⟩ : ∃ y, y = ids[j] := ⟨_, rfl⟩
      have hym : y ∈ ids := by rw [hy]; exact List.getElem_mem hlt
      have hy64 := h64h.out y hym
      have hnd := Lib.hid (fun (W : World) (hi : IterAt W Bi Ei ib (j + 1) ids) => node_any Bi Ei ib j ids W hlt (by omega) hi)
      rw [← hy] at hnd
      have hd : decide (j < ids.length) = true := decide_eq_true hlt
      rw [hd] at hnx
      have hdrop : Hid (offF fil (ids.drop j) = if decide (y ∈ fil) then offF fil (ids.drop (j + 1)) else y :: offF fil (ids.drop (j + 1))) := by
        unfold Hid offF
        rw [List.drop_eq_getElem_cons hlt, ← hy]
        by_cases e : y ∈ fil
        · rw [if_pos (decide_eq_true e), List.filter_cons_of_neg (by simp [e])]
        · rw [if_neg (by simp [e]), List.filter_cons_of_pos (by simp [e])]
      have hyh := Lib.hid hy
      have hbh := Lib.hid hblk
      have hmh := Lib.hid hmap
      clear hit hd hy hym h1 h2 h4 h5 h6 h7 h8 h9 hblk hmap
      go_wp2_with fail
      refine (unhide hnx).mono ?_
      rintro e w5 ⟨rfl, hg5, hi5⟩
      have hi5' := hi5 hlt
      have hF5 := Lib.hid (hF.out w5 (j + 1) hg5 hi5')
      have hg05 : Hid (w.grownBy w5 (some ib)) := grown_trans hgh.out hg5
      have hblk5 : w5.heap[fb]? = some (.cells #[.iface 256 (.pointer (some ⟨ib, 0, none⟩)), .map (some mb)] 249 (0, 0)) := (hg5.block fb (lt_of_block hbh.out) (fun e => by injection e with e; exact hpl.out.1 e)).trans hbh.out
      have hm5 : BMapAt w5 ids mb fil := hmh.out.same (hg5.block mb hmh.out.lt (fun e => by injection e with e; exact hpl.out.2 e))
      have c50 : w5.cell? ⟨fb, 0, none⟩ = some (.iface 256 (.pointer (some ⟨ib, 0, none⟩))) := by simp [World.cell?, hblk5]
      have c51 : w5.cell? ⟨fb, 1, none⟩ = some (.map (some mb)) := by simp [World.cell?, hblk5]
      have hW : Hid (∀ W, (∃ q, W = w5.drewN q) → FIterAt W B E fb ib (j + 1) ids fil ∧ w.grownBy W (some ib)) := fun W ⟨q, hq⟩ => by
        rw [hq]
        exact ⟨hF5.out.same fun _ _ _ => rfl, grown_trans hg05.out ⟨rfl, rfl, rfl, Nat.le_refl _, fun _ _ _ => rfl⟩⟩
      obtain ⟨b, hb⟩ : ∃ b, b = decide (y ∈ fil) := ⟨_, rfl⟩
      have hnd5 : Hid (∀ W, (∃ q, W = w5.drewN q) → Calls Tryz.prog 232 #[.pointer (some ⟨ib, 0, none⟩)] W fun e w' => e = .returned (.iface 253 (.int .i64 y)) ∧ (∃ q, w' = w5.drewN q) ∧ w'.cell? ⟨fb, 1, none⟩ = some (.map (some mb)) ∧
          (Instr.lookup 247 (.map (some mb)) (.int .i64 y) false).run Tryz.prog w' = .ok (.bool b) w') := fun W ⟨q, hq⟩ =>
        (hnd.out W (by rw [hq]; exact hi5'.same fun _ _ _ => rfl)).mono fun e w' ⟨k1, q', k2⟩ => by
          have e1 : w' = w5.drewN (q + q') := by rw [k2, hq, World.drewN_drewN]
          exact ⟨k1, ⟨_, e1⟩, by rw [e1]; exact c51, by rw [e1, hb]; exact bmap_look (hm5.same (w' := w5.drewN (q + q')) rfl) hy64⟩
      rw [← hb] at hdrop
      clear hg5 hi5 hi5' hm5 hblk5 hnx hnd hF hgh c0 hb hmh hbh
      go_wp2_with fail
      go_region_law (first
        | (go_simp; go_at_call 232; ((with_reducible refine (hnd5.out _ (by first | exact ⟨0, rfl⟩ | exact ⟨1, rfl⟩ | exact ⟨2, rfl⟩)).mono ?_)); rintro e w6 ⟨rfl, hD6, c61, hl6⟩)
        | (go_simp; go_at_call 225; refine (id_any _ _).mono ?_; rintro e w' ⟨rfl, rfl⟩))
      all_goals
        obtain ⟨hF6, hg6⟩ := hW.out w6 hD6
        cases b
        · have hfin : Hid (NextFPost w B E fb ib k ids fil (.returned (.bool true)) w6) :=
            ⟨hg6, .inr ⟨j, hlt, rfl, by rw [← hoffh.out, hdrop.out, if_neg (by simp), hyh.out], hF6⟩⟩
          clear hF6 hg6 hF5 hg05 hnd5 hW hD6 c61 hl6 c50 c51
          go_wp2_with fail
          go_ret
          exact hfin.out
        · have hfin : Hid (offF fil (ids.drop (j + 1)) = offF fil (ids.drop k) ∧ FIterAt w6 B E fb ib (j + 1) ids fil ∧ w.grownBy w6 (some ib)) :=
            ⟨by rw [← hoffh.out, hdrop.out, if_pos rfl], hF6, hg6⟩
          clear hF6 hg6 hF5 hg05 hnd5 hW hD6 c61 hl6 c50 c51 hdrop
          go_wp2_with fail
          go_roundg (ids.length - (j + 1))
          case measure => have := hgkh.out; omega
          case rel => exact ⟨j + 1, rfl, by omega, hfin.out.1, hfin.out.2.1, hfin.out.2.2⟩
    · have hjn : j = ids.length := by omega
      subst hjn
      have hnx := Lib.hid (nextEnd_any Bi Ei ib ids wr (by omega) hit)
      clear hit h1 h2 h4 h5 h6 h7 h8 h9 hblk hmap hF
      go_wp2_with fail
      refine (unhide hnx).mono ?_
      rintro e w5 ⟨rfl, hg5, hi5⟩
      have hfin : Hid (NextFPost w B E fb ib k ids fil (.returned (.bool false)) w5) :=
        ⟨grown_trans hgh.out hg5, .inl ⟨rfl, by rw [← hoffh.out, List.drop_length]; rfl⟩⟩
      clear hg5 hi5 hnx hgh
      go_wp2_with fail
      go_ret
      exact hfin.out

set_option maxRecDepth 100000 in
set_option maxHeartbeats 1000000 in
theorem nodeF_any (B E fb ib j : Nat) (ids fil : List Int) (w : World) (hids : ids.length ≤ 1000) (hj : j < ids.length) (hi : FIterAt w B E fb ib (j + 1) ids fil) :
    Calls Tryz.prog 223 #[.pointer (some ⟨fb, 0, none⟩)] w
      fun e w' => e = .returned (.iface 253 (.int .i64 ids[j])) ∧ ∃ q, w' = w.drewN q := by
  obtain ⟨mb, Bi, Ei, h1, h2, hit, h4, h5, h6, h7, h8, h9, hblk, hmap⟩ := hi
  have c0 : w.cell? ⟨fb, 0, none⟩ = some (.iface 256 (.pointer (some ⟨ib, 0, none⟩))) := by simp [World.cell?, hblk]
  have hnd := Lib.hid (node_any Bi Ei ib j ids w hj (by omega) hit)
  have hmn := onode_method
  clear hit hblk hmap h1 h2 h4 h5 h6 h7 h8 h9
  go_enter Tryz.func223, Tryz.ntmps223
  go_wp2_with fail
  refine (unhide hnd).mono ?_
  rintro e w' ⟨rfl, q, rfl⟩
  clear hnd
  go_wp2_with fail
  go_ret
  exact ⟨rfl, q, rfl⟩
end Go.Proofs.YtanbhibllilccaaGreat
