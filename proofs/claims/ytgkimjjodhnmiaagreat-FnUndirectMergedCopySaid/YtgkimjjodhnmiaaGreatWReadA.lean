/- Iterators of nodes out of maps: NewNodes, NewNodesByWeightedEdge.
   Next and Node of the iterators out of maps.
   Nodes of simple graphs with weights.
   From and Weight of simple graphs with weights.
   impl.iterated over iterators out of maps. -/
import Derived.Test.YtgkimjjodhnmiaaGreatWSetA
import Derived.Deep.LoopGhost
import Derived.Deep.AppendLies
import Derived.Deep.RegionLaw
import Derived.Deep.QuietTactic
import Derived.BigRegion
import Derived.Test.YtgkimjjodhnmiaaGreatNumbers
namespace Go.Proofs.YtgkimjjodhnmiaaGreat
open Go.RowKit Go.Maps

theorem vmap_len {w : World} {ids : List Int} {mb : Nat} {f : Int → Option Value} {t e : TypeId} (h : VMap w ids mb f) (ht : Tryz.prog.underlying t = some (.map 2 e)) :
    ∃ n : Nat, (∀ ty, (Builtin.len_ #[t] ty #[.map (some mb)]).run Tryz.prog w = .ok (.int .i64 (n : Nat)) w) ∧ n ≤ ids.length ∧ (n = 0 ↔ ∀ x, f x = none) := by
  obtain ⟨D, hown, hk, hs⟩ := h
  refine ⟨Maps.size D, fun ty => hown.len ht ty, hown.size_le, ?_⟩
  obtain ⟨es, rfl, _, _⟩ := hown.entries keyed64
  constructor
  · intro h0 x
    have he : es = [] := List.eq_nil_of_length_eq_zero h0
    subst he
    have := saysOf_has (hs x)
    cases hf : f x with
    | none => rfl
    | some v => rw [hf] at this; simp [Maps.has] at this
  · intro h0
    cases es with
    | nil => rfl
    | cons p es =>
      exfalso
      have hh : Maps.has (DataW.map (p :: es)) p.1 = true := by
        rw [has_eq, List.any_eq_true]
        obtain ⟨es', e1, _, hkl⟩ := hown.canon keyed64
        injection e1 with e1
        exact ⟨p, List.mem_cons_self, WideAt.sameKey_self (hkl p (by rw [← e1]; exact List.mem_cons_self))⟩
      obtain ⟨x, hx, e⟩ := hk _ hh
      rw [e] at hh
      have := saysOf_has (hs x)
      rw [h0 x, hh] at this
      cases this

/-- An iterator over a list that it holds; k of its nodes have been handed out. -/
def MItAt (T : TypeId) (w : World) (B E ib k : Nat) (ns : List Int) : Prop :=
  B ≤ ib ∧ ib < E ∧ ∃ (a : Option Addr) (c : Nat) (cur : Value), (∀ j, (Value.slice a ns.length c).ownBlock = some j → j < E) ∧ w.heap[ib]? = some (.cells #[.slice a ns.length c, .int .i64 (k : Nat), cur] T (0, 0)) ∧ (∀ (h : 0 < k) (h2 : k ≤ ns.length), cur = nodev (ns[k - 1]'(by omega))) ∧
    w.ownsRow B 90 1 (.slice a ns.length c) ns.length (nodes ns) ∧ (Value.slice a ns.length c).ownBlock ≠ some ib

/-- What such a new iterator is. -/
def MItPost (T : TypeId) (w : World) (P : Int → Prop) (e : Ending) (w' : World) : Prop :=
  ∃ ib ns, e = .returned (.pointer (some ⟨ib, 0, none⟩)) ∧ MItAt T w' w.heap.size w'.heap.size ib 0 ns ∧ ns.Nodup ∧ (∀ x, x ∈ ns ↔ P x) ∧ Below w.heap.size w w'

theorem run_make0 (n : Nat) (hn : n ≤ 1000) (W : World) : (Instr.makeSlice 196 (.int .i64 0) (.int .i64 (n : Nat))).run Tryz.prog W = .ok (.slice (some ⟨W.heap.size, 0, none⟩) 0 n) (W.alloc (.cells (madeCells #[.nilIface] n) 90)) :=
  run_make_cap (P := Tryz.prog) 196 90 .nilIface 16 Tryz.underlying196 info_node rfl n (by omega) (by omega) W

theorem grow7 {w w' : World} {B : Nat} {row : Option Nat} (hg : w.grownBy w' row) (hr : ∀ j, row = some j → B ≤ j) (hB : B ≤ w.heap.size) : Below B w w' :=
  ⟨hg.os, hg.tape, hg.output, hg.size, fun k hk => hg.block k (by omega) (fun e => by have := hr k e.symm; omega)⟩

theorem nb_of_hat {w3 : World} {o : Obj} {a a' : Option Addr} {n n' c c' : Nat} (hat : a' = a ∨ a' = some ⟨(w3.alloc o).heap.size, 0, none⟩) :
    ∀ j, (Value.slice a' n' c').ownBlock = some j → (Value.slice a n c).ownBlock = some j ∨ w3.heap.size ≤ j := fun j hj => by
  rcases hat with rfl | rfl
  · exact .inl (by cases a' with | none => simp [Value.ownBlock] at hj | some p => exact hj)
  · right
    simp only [Value.ownBlock] at hj
    injection hj with hj
    simp at hj
    omega

/-- An iterator in the making: ds, the nodes met so far. -/
structure MMake (T : TypeId) (w wr : World) (ids : List Int) (mb r ib : Nat) (f : Int → Option Value) (ds : List Int) (a : Option Addr) (c : Nat) : Prop where
  V : VRange wr ids mb r f ds
  blk : wr.heap[ib]? = some (.cells #[.slice a ds.length c, .int .i64 0, .nilIface] T (0, 0))
  row : wr.ownsRow w.heap.size 90 1 (.slice a ds.length c) ds.length (nodes ds)
  ni : (Value.slice a ds.length c).ownBlock ≠ some ib
  nr : (Value.slice a ds.length c).ownBlock ≠ some r
  bel : Below w.heap.size w wr
  ir : ib ≠ r
  lo : w.heap.size ≤ ib
  lr : w.heap.size ≤ r
  mlt : mb < w.heap.size

section
variable {T : TypeId} {w wr : World} {ids : List Int} {mb r ib : Nat} {f : Int → Option Value} {ds : List Int} {a : Option Addr} {c : Nat}

theorem MMake.next (h : MMake T w wr ids mb r ib f ds a c) {w3 : World} (hg : wr.grownBy w3 (some r)) : w3.heap[ib]? = some (.cells #[.slice a ds.length c, .int .i64 0, .nilIface] T (0, 0)) ∧ w3.ownsRow w.heap.size 90 1 (.slice a ds.length c) ds.length (nodes ds) ∧ Below w.heap.size w w3 := by
  refine ⟨(hg.block ib (lt_of_block h.blk) (fun e => h.ir (by injection e))).trans h.blk, owns_same h.row fun j hj => hg.block j (h.row.lt j hj).2 (fun e => h.nr (by rw [hj, e])), h.bel.trans (grow_below hg h.lr h.bel.size)⟩

theorem MMake.step (h : MMake T w wr ids mb r ib f ds a c) {w3 w7 : World} {x : Int} {o : Obj} {a' : Option Addr} {c' : Nat} (hg : wr.grownBy w3 (some r)) (hV : VRange w3 ids mb r f (ds ++ [x]))
    (hg7 : (w3.alloc o).grownBy w7 (Value.slice a ds.length c).ownBlock) (own : w7.ownsRow w.heap.size 90 1 (.slice a' (ds.length + 1) c') (ds.length + 1) (nodes ds ++ [nodev x])) (hnb : ∀ j, (Value.slice a' (ds.length + 1) c').ownBlock = some j → (Value.slice a ds.length c).ownBlock = some j ∨ w3.heap.size ≤ j) :
    w7.cell? ⟨ib, 0, none⟩ = some (.slice a ds.length c) ∧ w7.frozen? ⟨ib, 0, none⟩ = false ∧ Hid (MMake T w (w7.setCell ⟨ib, 0, none⟩ (.slice a' (ds.length + 1) c')) ids mb r ib f (ds ++ [x]) a' c') := by
  obtain ⟨hblk, hrow, hbel⟩ := h.next hg
  obtain ⟨hv1, hv2, hv3⟩ := hV.lt
  have hib := lt_of_block hblk
  have hg3 : w3.grownBy w7 (Value.slice a ds.length c).ownBlock :=
    ⟨hg7.os, hg7.tape, hg7.output, by have := hg7.size; simp at this; omega, fun k hk hn => by rw [hg7.block k (by simp; omega) hn, Below.heap_alloc _ _ _ hk]⟩
  have hblk7 : w7.heap[ib]? = some (.cells #[.slice a ds.length c, .int .i64 0, .nilIface] T (0, 0)) := (hg3.block ib hib (fun e => h.ni e.symm)).trans hblk
  have hl : (ds ++ [x]).length = ds.length + 1 := by simp
  refine ⟨by simp [World.cell?, hblk7], by simp [World.frozen?, hblk7], ⟨?_, ?_, ?_, ?_, ?_, ?_, h.ir, h.lo, h.lr, h.mlt⟩⟩
  · refine (hV.kept hg3 ?_ ?_).kept (row := some ib) ⟨rfl, rfl, rfl, Nat.le_of_eq (size_setCell _ _ _).symm, fun k hk hn => Below.heap_setCell _ _ _ _ (fun e => hn (by rw [e]))⟩ ?_ ?_
    · intro e
      have := (h.row.lt mb e).1
      have := h.mlt
      omega
    · intro e; exact h.nr e
    · intro e; injection e with e; have := h.mlt; have := h.lo; omega
    · intro e; injection e with e; exact h.ir e
  · rw [hl]
    have := heap_set_self hblk7 0 (.slice a' (ds.length + 1) c')
    rw [this]; rfl
  · rw [hl]
    have e : nodes (ds ++ [x]) = nodes ds ++ [nodev x] := by simp [nodes]
    rw [e]
    refine owns_same own fun j hj => Below.heap_setCell _ _ _ _ fun e => ?_
    rw [show j = ib from e] at hj
    rcases hnb ib hj with h1 | h1
    · exact h.ni h1
    · omega
  · rw [hl]
    intro e
    rcases hnb ib e with h1 | h1
    · exact h.ni h1
    · omega
  · rw [hl]
    intro e
    rcases hnb r e with h1 | h1
    · exact h.nr h1
    · omega
  · exact (hbel.trans (grow7 hg3 (fun j hj => (hrow.lt j hj).1) hbel.size)).setCell h.lo _

theorem MMake.done (h : MMake T w wr ids mb r ib f ds a c) (hd : ∀ x, f x ≠ none → x ∈ ds) : MItPost T w (fun x => f x ≠ none) (.returned (.pointer (some ⟨ib, 0, none⟩))) wr := by
  obtain ⟨n, D, left, cnt, hr, hn, hk, hs, h1, h2, h3, h4⟩ := h.V
  exact ⟨ib, ds, rfl, ⟨h.lo, lt_of_block h.blk, a, c, .nilIface, fun j hj => (h.row.lt j hj).2, h.blk, fun h0 => by omega, h.row, h.ni⟩, h3, fun x => ⟨fun hx => h4 x hx, fun hx => hd x hx⟩, h.bel⟩
end

set_option maxRecDepth 100000 in
set_option maxHeartbeats 4000000 in
theorem newNodes_any {w : World} {ids : List Int} {jn : Nat} {N : List Int} (h : VMap w ids jn (nfun N)) (hl : ids.length ≤ 1000) :
    Calls Tryz.prog 116 #[.map (some jn)] w (MItPost 199 w fun x => x ∈ N) := by
  obtain ⟨n, hlen, hnl, _⟩ := vmap_len h Tryz.underlying74
  have hlen' := hlen 3
  have hmk := run_make0 n (by omega)
  obtain ⟨w1, hw1⟩ : ∃ w1, w1 = (w.alloc (.cells (madeCells #[.nilIface] n) 90)).alloc (.cells #[.slice (some ⟨w.heap.size, 0, none⟩) 0 n, .int .i64 0, .nilIface] 199) := ⟨_, rfl⟩
  have hb1 : Below w.heap.size w w1 := by rw [hw1]; exact (alloc_below w _).trans ((alloc_below _ _).mono (by simp))
  have hz1 : w1.heap.size = w.heap.size + 1 + 1 := by rw [hw1]; simp
  have hblk1 : w1.heap[(w.heap.size + 1)]? = some (.cells #[.slice (some ⟨w.heap.size, 0, none⟩) 0 n, .int .i64 0, .nilIface] 199 (0, 0)) := by
    rw [hw1]
    exact heap_alloc2_new w _ _
  have hrow1 : w1.ownsRow w.heap.size 90 1 (.slice (some ⟨w.heap.size, 0, none⟩) 0 n) 0 (nodes []) := by
    refine ⟨rfl, .inr ⟨w.heap.size, n, madeCells #[.nilIface] n, rfl, Nat.le_refl _, ?_, Nat.zero_le _, by unfold maxLen; omega, by rw [size_madeCells, Nat.mul_one], by simp [nodes]⟩⟩
    rw [hw1]
    exact heap_alloc2_old w _ _
  have hV1 : VMap w1 ids jn (nfun N) := h.same (hb1.block _ h.lt)
  have hjn := h.lt
  have hw1h := Lib.hid hw1
  have hb1h := Lib.hid hb1
  have hblkh := Lib.hid hblk1
  have hrowh := Lib.hid hrow1
  have hVh := Lib.hid hV1
  clear h hlen hw1 hb1 hblk1 hrow1 hV1
  go_enter Tryz.func116, Tryz.ntmps116
  go_wp2_with (at_range; (try rw [← hw1h.out]); refine wpList_vrange rfl _ _ _ rfl Tryz.underlying74 (by rfl) hVh.out ?_; intro w2 hV2 hg2 hs2)
  go_frame
  have hM0 : Hid (MMake 199 w w2 ids jn w1.heap.size (w.heap.size + 1) (nfun N) [] (some ⟨w.heap.size, 0, none⟩) n) := by
    have hbel : Below w.heap.size w w2 := hb1h.out.trans ⟨hg2.os, hg2.tape, hg2.output, hg2.size, fun k hk => hg2.block k (by have := hb1h.out.size; omega) (by simp)⟩
    refine ⟨hV2, (hg2.block (w.heap.size + 1) (by omega) (by simp)).trans hblkh.out, owns_same hrowh.out fun j hj => hg2.block j (hrowh.out.lt j hj).2 (by simp), ?_, ?_, hbel, by omega, by omega, by omega, hjn⟩
    · intro e; simp only [Value.ownBlock] at e; injection e with e; omega
    · intro e; simp only [Value.ownBlock] at e; injection e with e; omega
  clear hV2 hg2 hs2 hmk hlen' hVh hrowh hblkh hb1h hw1h hz1
  go_loopg [5] ids.length (fun gk _ wr => ∃ (ds : List Int) (a : Option Addr) (c : Nat), gk = ids.length - ds.length ∧ MMake 199 w wr ids jn w1.heap.size (w.heap.size + 1) (nfun N) ds a c)
  case atStart => exact ⟨[], _, _, rfl, hM0.out⟩
  case round =>
    clear hM0
    obtain ⟨ds, a, c, hgk, hM⟩ := hrel
    have hMh := Lib.hid hM
    have hV := hM.V
    have hgkh := Lib.hid hgk
    clear hM hgk
    go_wp2_with (at_next; refine wpList_vnext rfl _ rfl (by rfl) hV ?_ ?_)
    · intro hdone
      have hfin := hMh.out.done hdone
      have hfin2 : Hid (MItPost 199 w (fun x => x ∈ N) (.returned (.pointer (some ⟨(w.heap.size + 1), 0, none⟩))) wr) := by
        obtain ⟨ib', ns, h1, h2, h3, h4, h5⟩ := hfin
        refine ⟨ib', ns, h1, h2, h3, fun x => ?_, h5⟩
        rw [h4 x]
        unfold nfun
        by_cases e : x ∈ N <;> simp [e]
      clear hfin hdone hV
      go_wp2_with fail
      go_ret
      exact hfin2.out
    · intro x v w3 hfx hxd hxm hx64 hV3 hg3 hs3 hen
      have hv : v = .iface 205 (.int .i64 x) := by
        unfold nfun at hfx
        by_cases e : x ∈ N
        · rw [if_pos e] at hfx; injection hfx with hfx; exact hfx.symm
        · rw [if_neg e] at hfx; cases hfx
      subst hv
      obtain ⟨hblk3, hrow3, hbel3⟩ := hMh.out.next hg3
      have k0 : w3.cell? ⟨(w.heap.size + 1), 0, none⟩ = some (.slice a ds.length c) := by simp [World.cell?, hblk3]
      have hlen3 := hV3.len
      rw [List.length_append, List.length_singleton] at hlen3
      have hsz3 := hbel3.size
      have hst := Lib.hid (fun o a' c' w7 hg7 own hat => hMh.out.step (o := o) (a' := a') (c' := c') (w7 := w7) hg3 hV3 hg7 own (nb_of_hat (o := o) hat))
      have ho := Lib.hid (fun o => hrow3.alloc o)
      obtain ⟨m, hm⟩ : ∃ m, m = ds.length := ⟨_, rfl⟩
      rw [← hm] at hst ho k0 hlen3
      have hmh := Lib.hid hm
      clear hblk3 hrow3 hbel3 hV hV3 hg3 hs3 hfx hm
      go_wp2_with (at_builtin; refine append_law 196 90 .nilIface 1 16 Tryz.underlying196 info_node rfl (by omega) (by omega) rfl _ _ rfl w.heap.size a m c (nodes ds) rfl (unhide ho _) ⟨w3.heap.size, 0, none⟩ 1 1 [nodev x] rfl rfl (new_one w3 _ _) (one_node _) (by omega) (by simp; omega) ?_; intro b2 c2 w7 hown7 hg7 hat7; obtain ⟨s1, s2, s3⟩ := unhide hst _ _ _ _ hg7 hown7 hat7; clear hown7 hg7 hat7 hst ho)
      go_roundg (ids.length - (m + 1))
      case measure => have := hgkh.out; have := hmh.out; omega
      case rel => exact ⟨ds ++ [x], b2, c2, by rw [List.length_append, List.length_singleton, ← hmh.out], s3.out⟩

set_option maxRecDepth 100000 in
set_option maxHeartbeats 4000000 in
theorem newByEdge_any {w : World} {ids : List Int} {jn jm : Nat} {N : List Int} {f : Int → Option Value} (hn : VMap w ids jn (nfun N)) (h : VMap w ids jm f) (hl : ids.length ≤ 1000) (hf : ∀ x, f x ≠ none → x ∈ N) :
    Calls Tryz.prog 115 #[.map (some jn), .map (some jm)] w (MItPost 198 w fun x => f x ≠ none) := by
  obtain ⟨n, hlen, hnl, _⟩ := vmap_len h Tryz.underlying102
  have hlen' := hlen 3
  have hmk := run_make0 n (by omega)
  obtain ⟨w1, hw1⟩ : ∃ w1, w1 = (w.alloc (.cells (madeCells #[.nilIface] n) 90)).alloc (.cells #[.slice (some ⟨w.heap.size, 0, none⟩) 0 n, .int .i64 0, .nilIface] 198) := ⟨_, rfl⟩
  have hb1 : Below w.heap.size w w1 := by rw [hw1]; exact (alloc_below w _).trans ((alloc_below _ _).mono (by simp))
  have hz1 : w1.heap.size = w.heap.size + 1 + 1 := by rw [hw1]; simp
  have hblk1 : w1.heap[(w.heap.size + 1)]? = some (.cells #[.slice (some ⟨w.heap.size, 0, none⟩) 0 n, .int .i64 0, .nilIface] 198 (0, 0)) := by
    rw [hw1]
    exact heap_alloc2_new w _ _
  have hrow1 : w1.ownsRow w.heap.size 90 1 (.slice (some ⟨w.heap.size, 0, none⟩) 0 n) 0 (nodes []) := by
    refine ⟨rfl, .inr ⟨w.heap.size, n, madeCells #[.nilIface] n, rfl, Nat.le_refl _, ?_, Nat.zero_le _, by unfold maxLen; omega, by rw [size_madeCells, Nat.mul_one], by simp [nodes]⟩⟩
    rw [hw1]
    exact heap_alloc2_old w _ _
  have hV1 : VMap w1 ids jm f := h.same (hb1.block _ h.lt)
  have hn0 : Hid (∀ W, Below w.heap.size w W → VMap W ids jn (nfun N)) := fun W hW => hn.same (hW.block _ hn.lt)
  have hjn := h.lt
  have hjnn := hn.lt
  have hw1h := Lib.hid hw1
  have hb1h := Lib.hid hb1
  have hblkh := Lib.hid hblk1
  have hrowh := Lib.hid hrow1
  have hVh := Lib.hid hV1
  clear h hn hlen hw1 hb1 hblk1 hrow1 hV1
  go_enter Tryz.func115, Tryz.ntmps115
  go_wp2_with (at_range; (try rw [← hw1h.out]); refine wpList_vrange rfl _ _ _ rfl Tryz.underlying102 (by rfl) hVh.out ?_; intro w2 hV2 hg2 hs2)
  go_frame
  have hM0 : Hid (MMake 198 w w2 ids jm w1.heap.size (w.heap.size + 1) f [] (some ⟨w.heap.size, 0, none⟩) n) := by
    have hbel : Below w.heap.size w w2 := hb1h.out.trans ⟨hg2.os, hg2.tape, hg2.output, hg2.size, fun k hk => hg2.block k (by have := hb1h.out.size; omega) (by simp)⟩
    refine ⟨hV2, (hg2.block (w.heap.size + 1) (by omega) (by simp)).trans hblkh.out, owns_same hrowh.out fun j hj => hg2.block j (hrowh.out.lt j hj).2 (by simp), ?_, ?_, hbel, by omega, by omega, by omega, hjn⟩
    · intro e; simp only [Value.ownBlock] at e; injection e with e; omega
    · intro e; simp only [Value.ownBlock] at e; injection e with e; omega
  have hNN : Hid (∀ W, Below w.heap.size w W → VMap W ids jn (nfun N)) := fun W hW => hn0.out W hW
  clear hV2 hg2 hs2 hmk hlen' hVh hrowh hblkh hb1h hw1h hz1
  go_loopg [6] ids.length (fun gk _ wr => ∃ (ds : List Int) (a : Option Addr) (c : Nat), gk = ids.length - ds.length ∧ MMake 198 w wr ids jm w1.heap.size (w.heap.size + 1) f ds a c)
  case atStart => exact ⟨[], _, _, rfl, hM0.out⟩
  case round =>
    clear hM0
    obtain ⟨ds, a, c, hgk, hM⟩ := hrel
    have hMh := Lib.hid hM
    have hV := hM.V
    have hgkh := Lib.hid hgk
    clear hM hgk
    go_wp2_with (at_next; refine wpList_vnext rfl _ rfl (by rfl) hV ?_ ?_)
    · intro hdone
      have hfin := hMh.out.done hdone
      have hfin2 := Lib.hid hfin
      clear hfin hdone hV
      go_wp2_with fail
      go_ret
      exact hfin2.out
    · intro x v w3 hfx hxd hxm hx64 hV3 hg3 hs3 hen
      have hxN : x ∈ N := hf x (by rw [hfx]; simp)
      obtain ⟨hblk3, hrow3, hbel3⟩ := hMh.out.next hg3
      have k0 : w3.cell? ⟨(w.heap.size + 1), 0, none⟩ = some (.slice a ds.length c) := by simp [World.cell?, hblk3]
      have hlen3 := hV3.len
      rw [List.length_append, List.length_singleton] at hlen3
      have hsz3 := hbel3.size
      have hVn := hNN.out w3.drew (hbel3.drew)
      have hlk := vmap_look hVn Tryz.underlying74 (Tryz.zeroValue90 w3.drew) hx64 (v := .iface 205 (.int .i64 x)) (by unfold nfun; rw [if_pos hxN]; rfl)
      have hst := Lib.hid (fun (a' : Option Addr) c' w7 (hg7 : ((w3.alloc (.cells #[.iface 205 (.int .i64 x)] 90)).drew).grownBy w7 (Value.slice a ds.length c).ownBlock) own hnb =>
        hMh.out.step (o := .cells #[.iface 205 (.int .i64 x)] 90) (a' := a') (c' := c') (w7 := w7) hg3 hV3 ⟨hg7.os, hg7.tape, hg7.output, hg7.size, hg7.block⟩ own hnb)
      have ho : Hid (((w3.alloc (.cells #[.iface 205 (.int .i64 x)] 90)).drew).ownsRow w.heap.size 90 1 (.slice a ds.length c) ds.length (nodes ds)) := hrow3.alloc _
      have k1 : (w3.alloc (.cells #[.iface 205 (.int .i64 x)] 90)).cell? ⟨(w.heap.size + 1), 0, none⟩ = some (.slice a ds.length c) := cell_alloc k0 _
      have hnew : Hid (∀ (j : Nat) u, [Value.iface 205 (.int .i64 x)][j]? = some u → ((w3.alloc (.cells #[.iface 205 (.int .i64 x)] 90)).drew).cell? ((⟨w3.heap.size, 0, none⟩ : Addr).add j) = some u) := new_one w3 _ _
      obtain ⟨i0, hi0, hz0, hz1, hz2⟩ := info_parts info_node
      obtain ⟨m, hm⟩ : ∃ m, m = ds.length := ⟨_, rfl⟩
      rw [← hm] at hst ho k0 k1 hlen3
      have hmh := Lib.hid hm
      clear hblk3 hrow3 hbel3 hV hV3 hg3 hs3 hfx hm hVn
      go_wp2_with fail
      go_region_law (refine step_append_lies _ rfl (.tmp 22) (.tmp 26) 196 rfl w.heap.size 90 i0 .nilIface 1 16 Tryz.underlying196 hi0 hz0 hz1 hz2 rfl (by omega) (.slice a m c) m (nodes ds) rfl ho.out ⟨w3.heap.size, 0, none⟩ 1 1 [.iface 205 (.int .i64 x)] rfl rfl hnew.out (one_node _) (by omega) (by unfold maxLen; omega) (by omega) (by show _ ≤ (w3.alloc _).heap.size; simp; omega) w3.heap.size.succ (by simp) ?_; intro g2 c2 w7 hown7 hg7 hat7 hlt7; obtain ⟨s1, s2, s3⟩ := hst.out _ _ _ hg7 hown7 (fun j hj => by have hj' : some g2 = some j := hj; injection hj' with hj'; subst hj'; rcases hat7 with h | h; exact .inl h; exact .inr (by rw [h]; omega)); clear hown7 hg7 hat7 hlt7)
      all_goals
        go_wp2_with fail
        go_roundg (ids.length - (m + 1))
        case measure => have := hgkh.out; have := hmh.out; omega
        case rel => exact ⟨ds ++ [x], some ⟨g2, 0, none⟩, c2, by rw [List.length_append, List.length_singleton, ← hmh.out], s3.out⟩
end Go.Proofs.YtgkimjjodhnmiaaGreat

namespace Go.Proofs.YtgkimjjodhnmiaaGreat
open Go.RowKit Go.Maps

set_option maxRecDepth 100000 in
set_option maxHeartbeats 2000000 in
theorem mnextN_any {w : World} {B E ib k : Nat} {ns : List Int} (h : MItAt 199 w B E ib k ns) (hk : k ≤ ns.length) (hn : ns.length ≤ 1000) :
    Calls Tryz.prog 175 #[.pointer (some ⟨ib, 0, none⟩)] w fun e w' => e = .returned (.bool (decide (k < ns.length))) ∧ w.grownBy w' (some ib) ∧
      (k < ns.length → MItAt 199 w' B E ib (k + 1) ns) := by
  obtain ⟨hB, hE, a, c, cur, hrE, hblk, hcur, hrow, hne⟩ := h
  have c0 : w.cell? ⟨ib, 0, none⟩ = some (.slice a ns.length c) := by simp [World.cell?, hblk]
  have c1 : w.cell? ⟨ib, 1, none⟩ = some (.int .i64 (k : Nat)) := by simp [World.cell?, hblk]
  have c2 : w.cell? ⟨ib, 2, none⟩ = some cur := by simp [World.cell?, hblk]
  have f1 : w.frozen? ⟨ib, 1, none⟩ = false := by simp [World.frozen?, hblk]
  have f2 : w.frozen? ⟨ib, 2, none⟩ = false := by simp [World.frozen?, hblk]
  by_cases hlt : k < ns.length
  · obtain ⟨g, rfl, _⟩ := owns_at hrow (by omega)
    have x0 := owns_cell hrow (nodes_get ns k hlt)
    obtain ⟨y, hy⟩ : ∃ y, y = ns[k] := ⟨_, rfl⟩
    rw [← hy] at x0
    unfold nodev at x0
    have hfin : Hid (∀ W, W.heap = ((w.setCell ⟨ib, 2, none⟩ (.iface 205 (.int .i64 y))).setCell ⟨ib, 1, none⟩ (.int .i64 ((k : Int) + 1))).heap → W.os = w.os → W.tape = w.tape → W.output = w.output → w.grownBy W (some ib) ∧ MItAt 199 W B E ib (k + 1) ns) := fun W hW h1 h2 h3 => by
      have hg : w.grownBy W (some ib) := by
        refine ⟨h1, h2, h3, by rw [hW]; simp [World.setCell], fun j hj hn => ?_⟩
        rw [hW, Below.heap_setCell _ _ _ _ (fun e => hn (by rw [e])), Below.heap_setCell _ _ _ _ (fun e => hn (by rw [e]))]
      refine ⟨hg, hB, hE, some ⟨g, 0, none⟩, c, .iface 205 (.int .i64 y), hrE, ?_, fun _ _ => ?_, owns_same hrow fun j hj => hg.block j (hrow.lt j hj).2 (fun e => hne (by rw [hj, e])), hne⟩
      · rw [hW]
        have := heap_set_self (heap_set_self hblk 2 (.iface 205 (.int .i64 y))) 1 (.int .i64 ((k : Int) + 1))
        rw [this]
        rfl
      · simp only [Nat.add_sub_cancel]
        rw [← hy]; rfl
    have hlt' : ¬ (ns.length : Int) ≤ (k : Int) := by omega
    have hd : decide (k < ns.length) = true := decide_eq_true hlt
    rw [hd]
    obtain ⟨n, hnn⟩ : ∃ n, n = ns.length := ⟨_, rfl⟩
    rw [← hnn] at c0 hlt' hlt hn
    have hge : decide ((n : Int) ≤ (k : Int)) = false := decide_eq_false hlt'
    have d1 : (w.setCell ⟨ib, 2, none⟩ (.iface 205 (.int .i64 y))).cell? ⟨ib, 1, none⟩ = some (.int .i64 (k : Nat)) := by simp [World.cell?, heap_set_self hblk 2]
    have d2 : (w.setCell ⟨ib, 2, none⟩ (.iface 205 (.int .i64 y))).frozen? ⟨ib, 1, none⟩ = false := by simp [World.frozen?, heap_set_self hblk 2]
    clear hrow hblk hcur hy hd hnn hk
    go_enter Tryz.func175, Tryz.ntmps175
    go_wp2_with fail
    go_quiet (fail)
    go_wp2_with fail
    go_region
    all_goals
      go_wp2_with fail
      go_ret
      exact ⟨rfl, (hfin.out _ (by rfl) (by rfl) (by rfl) (by rfl)).1, fun _ => (hfin.out _ (by rfl) (by rfl) (by rfl) (by rfl)).2⟩
  · have hkn : k = ns.length := by omega
    have hd : decide (k < ns.length) = false := decide_eq_false hlt
    rw [hd]
    have hfin : Hid (∀ q, w.grownBy (w.drewN q) (some ib)) := fun q => ⟨rfl, rfl, rfl, Nat.le_refl _, fun _ _ _ => rfl⟩
    obtain ⟨n, hnn⟩ : ∃ n, n = ns.length := ⟨_, rfl⟩
    rw [← hnn] at c0 hkn hn
    subst hkn
    have hlth := Lib.hid hlt
    clear hrow hblk hcur hd hk hlt hnn
    go_enter Tryz.func175, Tryz.ntmps175
    go_wp2_with fail
    go_quiet (fail)
    go_wp2_with fail
    go_ret
    exact ⟨rfl, hfin.out _, fun h => absurd h hlth.out⟩

set_option maxHeartbeats 1000000 in
theorem mnodeN_any {w : World} {B E ib k : Nat} {ns : List Int} (h : MItAt 199 w B E ib (k + 1) ns) (hk : k < ns.length) :
    Calls Tryz.prog 176 #[.pointer (some ⟨ib, 0, none⟩)] w fun e w' => e = .returned (.iface 205 (.int .i64 ns[k])) ∧ w = w' := by
  obtain ⟨hB, hE, a, c, cur, hrE, hblk, hcur, hrow, hne⟩ := h
  have e := hcur (by omega) (by omega)
  simp only [Nat.add_sub_cancel] at e
  subst e
  have c2 : w.cell? ⟨ib, 2, none⟩ = some (nodev ns[k]) := by simp [World.cell?, hblk]
  unfold nodev at c2
  clear hblk hcur hrow
  go_enter Tryz.func176, Tryz.ntmps176
  go_wp2_with fail
  go_ret
  exact ⟨rfl, rfl⟩

set_option maxRecDepth 100000 in
set_option maxHeartbeats 2000000 in
theorem mnextE_any {w : World} {B E ib k : Nat} {ns : List Int} (h : MItAt 198 w B E ib k ns) (hk : k ≤ ns.length) (hn : ns.length ≤ 1000) :
    Calls Tryz.prog 171 #[.pointer (some ⟨ib, 0, none⟩)] w fun e w' => e = .returned (.bool (decide (k < ns.length))) ∧ w.grownBy w' (some ib) ∧
      (k < ns.length → MItAt 198 w' B E ib (k + 1) ns) := by
  obtain ⟨hB, hE, a, c, cur, hrE, hblk, hcur, hrow, hne⟩ := h
  have c0 : w.cell? ⟨ib, 0, none⟩ = some (.slice a ns.length c) := by simp [World.cell?, hblk]
  have c1 : w.cell? ⟨ib, 1, none⟩ = some (.int .i64 (k : Nat)) := by simp [World.cell?, hblk]
  have c2 : w.cell? ⟨ib, 2, none⟩ = some cur := by simp [World.cell?, hblk]
  have f1 : w.frozen? ⟨ib, 1, none⟩ = false := by simp [World.frozen?, hblk]
  have f2 : w.frozen? ⟨ib, 2, none⟩ = false := by simp [World.frozen?, hblk]
  by_cases hlt : k < ns.length
  · obtain ⟨g, rfl, _⟩ := owns_at hrow (by omega)
    have x0 := owns_cell hrow (nodes_get ns k hlt)
    obtain ⟨y, hy⟩ : ∃ y, y = ns[k] := ⟨_, rfl⟩
    rw [← hy] at x0
    unfold nodev at x0
    have hfin : Hid (∀ W, W.heap = ((w.setCell ⟨ib, 2, none⟩ (.iface 205 (.int .i64 y))).setCell ⟨ib, 1, none⟩ (.int .i64 ((k : Int) + 1))).heap → W.os = w.os → W.tape = w.tape → W.output = w.output → w.grownBy W (some ib) ∧ MItAt 198 W B E ib (k + 1) ns) := fun W hW h1 h2 h3 => by
      have hg : w.grownBy W (some ib) := by
        refine ⟨h1, h2, h3, by rw [hW]; simp [World.setCell], fun j hj hn => ?_⟩
        rw [hW, Below.heap_setCell _ _ _ _ (fun e => hn (by rw [e])), Below.heap_setCell _ _ _ _ (fun e => hn (by rw [e]))]
      refine ⟨hg, hB, hE, some ⟨g, 0, none⟩, c, .iface 205 (.int .i64 y), hrE, ?_, fun _ _ => ?_, owns_same hrow fun j hj => hg.block j (hrow.lt j hj).2 (fun e => hne (by rw [hj, e])), hne⟩
      · rw [hW]
        have := heap_set_self (heap_set_self hblk 2 (.iface 205 (.int .i64 y))) 1 (.int .i64 ((k : Int) + 1))
        rw [this]
        rfl
      · simp only [Nat.add_sub_cancel]
        rw [← hy]; rfl
    have hlt' : ¬ (ns.length : Int) ≤ (k : Int) := by omega
    have hd : decide (k < ns.length) = true := decide_eq_true hlt
    rw [hd]
    obtain ⟨n, hnn⟩ : ∃ n, n = ns.length := ⟨_, rfl⟩
    rw [← hnn] at c0 hlt' hlt hn
    have hge : decide ((n : Int) ≤ (k : Int)) = false := decide_eq_false hlt'
    have d1 : (w.setCell ⟨ib, 2, none⟩ (.iface 205 (.int .i64 y))).cell? ⟨ib, 1, none⟩ = some (.int .i64 (k : Nat)) := by simp [World.cell?, heap_set_self hblk 2]
    have d2 : (w.setCell ⟨ib, 2, none⟩ (.iface 205 (.int .i64 y))).frozen? ⟨ib, 1, none⟩ = false := by simp [World.frozen?, heap_set_self hblk 2]
    clear hrow hblk hcur hy hd hnn hk
    go_enter Tryz.func171, Tryz.ntmps171
    go_wp2_with fail
    go_quiet (fail)
    go_wp2_with fail
    go_region
    all_goals
      go_wp2_with fail
      go_ret
      exact ⟨rfl, (hfin.out _ (by rfl) (by rfl) (by rfl) (by rfl)).1, fun _ => (hfin.out _ (by rfl) (by rfl) (by rfl) (by rfl)).2⟩
  · have hkn : k = ns.length := by omega
    have hd : decide (k < ns.length) = false := decide_eq_false hlt
    rw [hd]
    have hfin : Hid (∀ q, w.grownBy (w.drewN q) (some ib)) := fun q => ⟨rfl, rfl, rfl, Nat.le_refl _, fun _ _ _ => rfl⟩
    obtain ⟨n, hnn⟩ : ∃ n, n = ns.length := ⟨_, rfl⟩
    rw [← hnn] at c0 hkn hn
    subst hkn
    have hlth := Lib.hid hlt
    clear hrow hblk hcur hd hk hlt hnn
    go_enter Tryz.func171, Tryz.ntmps171
    go_wp2_with fail
    go_quiet (fail)
    go_wp2_with fail
    go_ret
    exact ⟨rfl, hfin.out _, fun h => absurd h hlth.out⟩

set_option maxHeartbeats 1000000 in
theorem mnodeE_any {w : World} {B E ib k : Nat} {ns : List Int} (h : MItAt 198 w B E ib (k + 1) ns) (hk : k < ns.length) :
    Calls Tryz.prog 172 #[.pointer (some ⟨ib, 0, none⟩)] w fun e w' => e = .returned (.iface 205 (.int .i64 ns[k])) ∧ w = w' := by
  obtain ⟨hB, hE, a, c, cur, hrE, hblk, hcur, hrow, hne⟩ := h
  have e := hcur (by omega) (by omega)
  simp only [Nat.add_sub_cancel] at e
  subst e
  have c2 : w.cell? ⟨ib, 2, none⟩ = some (nodev ns[k]) := by simp [World.cell?, hblk]
  unfold nodev at c2
  clear hblk hcur hrow
  go_enter Tryz.func172, Tryz.ntmps172
  go_wp2_with fail
  go_ret
  exact ⟨rfl, rfl⟩

end Go.Proofs.YtgkimjjodhnmiaaGreat

namespace Go.Proofs.YtgkimjjodhnmiaaGreat
open Go.RowKit Go.Maps

/-- An iterator: the empty one, or one out of a map. -/
def ItPost (w : World) (P : Int → Prop) (e : Ending) (w' : World) : Prop :=
  (e = .returned (.iface 191 (.int .i64 0)) ∧ w = w' ∧ ∀ x, ¬ P x) ∨
  (∃ ib ns, e = .returned (.iface 194 (.pointer (some ⟨ib, 0, none⟩))) ∧ MItAt 199 w' w.heap.size w'.heap.size ib 0 ns ∧ ns.Nodup ∧ (∀ x, x ∈ ns ↔ P x) ∧ Below w.heap.size w w') ∨
  (∃ ib ns, e = .returned (.iface 192 (.pointer (some ⟨ib, 0, none⟩))) ∧ MItAt 198 w' w.heap.size w'.heap.size ib 0 ns ∧ ns.Nodup ∧ (∀ x, x ∈ ns ↔ P x) ∧ Below w.heap.size w w')

set_option maxRecDepth 100000 in
set_option maxHeartbeats 2000000 in
theorem wnodesDirected_any {w : World} {ids : List Int} {B : Nat → Prop} {ad : WR → Option Nat} {c : WR → Cont} {gb jn je jt ju js jr : Nat} {N : List Int} {F : Int → Int → Option Value}
    (h : WG true w ids B ad c gb jn je jt ju js jr N F) (hl : ids.length ≤ 1000) :
    Calls Tryz.prog 110 #[.pointer (some ⟨gb, 0, none⟩)] w (ItPost w fun x => x ∈ N) := by
  obtain ⟨n, hlen, hnl, h0⟩ := vmap_len h.nmap Tryz.underlying74
  have hlen' := hlen 3
  have k0 : w.cell? ⟨gb, 0, none⟩ = some (.map (some jn)) := h.cell rfl
  have hnn := Lib.hid (newNodes_any h.nmap hl)
  have hz : n = 0 → ∀ x, x ∉ N := fun e x hx => by
    have := h0.1 e x
    unfold nfun at this
    rw [if_pos hx] at this
    cases this
  have hzh := Lib.hid hz
  clear h hlen h0 hz
  by_cases hn0 : n = 0
  · subst hn0
    go_enter Tryz.func110, Tryz.ntmps110
    go_wp2_with fail
    go_ret
    exact .inl ⟨rfl, rfl, hzh.out (by first | rfl | trivial)⟩
  · have hz1 : ((n : Int) == 0) = false := by simpa using hn0
    have hz2 : ¬ (n : Int) = 0 := by omega
    go_enter Tryz.func110, Tryz.ntmps110
    go_wp2_with fail
    refine (unhide hnn).mono ?_
    rintro e w2 ⟨ib, ns, rfl, h1, h2, h3, h4⟩
    have hfin : Hid (ItPost w (fun x => x ∈ N) (.returned (.iface 194 (.pointer (some ⟨ib, 0, none⟩)))) w2) := .inr (.inl ⟨ib, ns, rfl, h1, h2, h3, h4⟩)
    clear h1 h2 h3 h4 hnn
    go_wp2_with fail
    go_ret
    exact hfin.out

set_option maxRecDepth 100000 in
set_option maxHeartbeats 2000000 in
theorem wnodesUndirected_any {w : World} {ids : List Int} {B : Nat → Prop} {ad : WR → Option Nat} {c : WR → Cont} {gb jn je jt ju js jr : Nat} {N : List Int} {F : Int → Int → Option Value}
    (h : WG false w ids B ad c gb jn je jt ju js jr N F) (hl : ids.length ≤ 1000) :
    Calls Tryz.prog 124 #[.pointer (some ⟨gb, 0, none⟩)] w (ItPost w fun x => x ∈ N) := by
  obtain ⟨n, hlen, hnl, h0⟩ := vmap_len h.nmap Tryz.underlying74
  have hlen' := hlen 3
  have k0 : w.cell? ⟨gb, 0, none⟩ = some (.map (some jn)) := h.cell rfl
  have hnn := Lib.hid (newNodes_any h.nmap hl)
  have hz : n = 0 → ∀ x, x ∉ N := fun e x hx => by
    have := h0.1 e x
    unfold nfun at this
    rw [if_pos hx] at this
    cases this
  have hzh := Lib.hid hz
  clear h hlen h0 hz
  by_cases hn0 : n = 0
  · subst hn0
    go_enter Tryz.func124, Tryz.ntmps124
    go_wp2_with fail
    go_ret
    exact .inl ⟨rfl, rfl, hzh.out (by first | rfl | trivial)⟩
  · have hz1 : ((n : Int) == 0) = false := by simpa using hn0
    have hz2 : ¬ (n : Int) = 0 := by omega
    go_enter Tryz.func124, Tryz.ntmps124
    go_wp2_with fail
    refine (unhide hnn).mono ?_
    rintro e w2 ⟨ib, ns, rfl, h1, h2, h3, h4⟩
    have hfin : Hid (ItPost w (fun x => x ∈ N) (.returned (.iface 194 (.pointer (some ⟨ib, 0, none⟩)))) w2) := .inr (.inl ⟨ib, ns, rfl, h1, h2, h3, h4⟩)
    clear h1 h2 h3 h4 hnn
    go_wp2_with fail
    go_ret
    exact hfin.out

end Go.Proofs.YtgkimjjodhnmiaaGreat

namespace Go.Proofs.YtgkimjjodhnmiaaGreat
open Go.RowKit Go.Maps

set_option maxRecDepth 100000 in
theorem vmap_look0 {w : World} {ids : List Int} {mb : Nat} {f : Int → Option Value} {t e : TypeId} {z : Value} (h : VMap w ids mb f) (ht : Tryz.prog.underlying t = some (.map 2 e)) (hz : (zeroValue e).run Tryz.prog w = .ok z w) {x : Int} (hx : In64 x) (hv : f x = none) :
    (Instr.lookup t (.map (some mb)) (.int .i64 x) false).run Tryz.prog w = .ok z w := by
  obtain ⟨D, hown, _, hat⟩ := h
  obtain ⟨u, ps, hrun, hu⟩ := hown.lookup keyed64 ht hz (zd := .held z) (zp := []) rfl (Maps.keyOf_int_mk Tryz.underlying2 hx)
  have h1 := hat x
  rw [hv] at h1
  have h1' : Maps.has D (.int .i64 x) = false := h1
  have h2 := heldElem_inv hu
  rw [atKey_of_not_has h1'] at h2
  injection h2 with h2
  rw [hrun, ← h2]

theorem len_nil_run (w : World) : (Builtin.len_ #[102] 3 #[.map none]).run Tryz.prog w = .ok (.int .i64 0) w := by kernel_rfl

set_option maxRecDepth 100000 in
set_option maxHeartbeats 2000000 in
theorem wfromDirected_any {w : World} {ids : List Int} {B : Nat → Prop} {ad : WR → Option Nat} {c : WR → Cont} {gb jn je jt ju js jr : Nat} {N : List Int} {F : Int → Int → Option Value}
    (h : WG true w ids B ad c gb jn je jt ju js jr N F) (hl : ids.length ≤ 1000) {x : Int} (hx : In64 x) (hF : ∀ a b, F a b ≠ none → b ∈ N) :
    Calls Tryz.prog 107 #[.pointer (some ⟨gb, 0, none⟩), .int .i64 x] w (ItPost w fun y => F x y ≠ none) := by
  have k0 : w.cell? ⟨gb, 0, none⟩ = some (.map (some jn)) := h.cell rfl
  have k1 : w.cell? ⟨gb, 1, none⟩ = some (.map (some je)) := h.cell rfl
  have hmx : ∀ W, Below w.heap.size w W → (Instr.lookup 75 (.map (some je)) (.int .i64 x) true).run Tryz.prog W = .ok (.tuple #[(mfun (fun x => ad (.ei x)) x).getD (.map none), .bool (mfun (fun x => ad (.ei x)) x).isSome]) W := fun W hW =>
    vmap_look_ok (h.below hW).emap Tryz.underlying75 (Tryz.zeroValue102 W) hx
  cases hc : ad (.ei x) with
  | none =>
    have hlk := vmap_look0 h.emap Tryz.underlying75 (Tryz.zeroValue102 w) hx (by unfold mfun; simp [hc])
    have hlen0 := len_nil_run w
    have hfin : Hid (∀ y, ¬ F x y ≠ none) := fun y hy => hy (h.en x hc y)
    clear h hmx hF
    go_enter Tryz.func107, Tryz.ntmps107
    go_wp2_with fail
    go_ret
    exact .inl ⟨rfl, rfl, hfin.out⟩
  | some jm =>
    have hlk := vmap_look h.emap Tryz.underlying75 (Tryz.zeroValue102 w) hx (v := .map (some jm)) (by unfold mfun; simp [hc])
    have hlk2 := vmap_look (h.below (drew_below w)).emap Tryz.underlying75 (Tryz.zeroValue102 w.drew) hx (v := .map (some jm)) (by unfold mfun; simp [hc])
    obtain ⟨n, hlen, hnl, h0⟩ := vmap_len (h.imap hc) Tryz.underlying102
    have hlen' := hlen 3
    have hne := Lib.hid (newByEdge_any (h.below (drew_below w)).nmap ((h.below (drew_below w)).imap hc) hl (hF x))
    have hzh : Hid (n = 0 → ∀ y, ¬ F x y ≠ none) := fun e y hy => hy (h0.1 e y)
    clear h hmx hF hlen h0
    by_cases hn0 : n = 0
    · subst hn0
      go_enter Tryz.func107, Tryz.ntmps107
      go_wp2_with fail
      go_ret
      exact .inl ⟨rfl, rfl, hzh.out (by first | rfl | trivial)⟩
    · have hz1 : ((n : Int) == 0) = false := by simpa using hn0
      have hz2 : ¬ (n : Int) = 0 := by omega
      go_enter Tryz.func107, Tryz.ntmps107
      go_wp2_with fail
      go_region_law (go_simp; go_at_call 115; refine (unhide hne).mono ?_; rintro e w2 ⟨ib, ns, rfl, h1, h2, h3, h4⟩; have hfin : Hid (ItPost w (fun y => F x y ≠ none) (.returned (.iface 192 (.pointer (some ⟨ib, 0, none⟩)))) w2) := .inr (.inr ⟨ib, ns, rfl, h1, h2, h3, (drew_below w).trans (h4.mono (Nat.le_refl _))⟩); clear h1 h2 h3 h4)
      all_goals
        go_wp2_with fail
        go_ret
        exact hfin.out

set_option maxRecDepth 100000 in
set_option maxHeartbeats 2000000 in
theorem wweightDirected_any {w : World} {ids : List Int} {B : Nat → Prop} {ad : WR → Option Nat} {c : WR → Cont} {gb jn je jt ju js jr : Nat} {N : List Int} {F : Int → Int → Option Value}
    (h : WG true w ids B ad c gb jn je jt ju js jr N F) {x y : Int} {b : Nat} (hx : In64 x) (hy : In64 y) (hxy : x ≠ y) (u v : Int) (hF : F x y = some (wev u v b)) :
    Calls Tryz.prog 17 #[.pointer (some ⟨gb, 0, none⟩), .int .i64 x, .int .i64 y] w fun e w' => e = .returned (.tuple #[.float .f64 b, .bool true]) ∧ Below w.heap.size w w' := by
  have k1 : w.cell? ⟨gb, 1, none⟩ = some (.map (some je)) := h.cell rfl
  have hne : (x == y) = false := by simpa using hxy
  obtain ⟨jm, hc⟩ : ∃ jm, ad (.ei x) = some jm := by
    cases hc : ad (.ei x) with
    | none => have := h.en x hc y; rw [hF] at this; cases this
    | some jm => exact ⟨jm, rfl⟩
  have hlk := vmap_look_ok h.emap Tryz.underlying75 (Tryz.zeroValue102 w) hx
  unfold mfun at hlk
  simp only [hc, Option.map_some, Option.getD_some, Option.isSome_some] at hlk
  have hlk2 := vmap_look_ok (h.imap hc) Tryz.underlying102 (Tryz.zeroValue96 w) hy
  rw [hF] at hlk2
  unfold wev at hlk2
  simp only [Option.getD_some, Option.isSome_some] at hlk2
  have hm := wweight_method
  have hw := Lib.hid (wweight_any u v b w)
  clear h hF hc
  go_enter Tryz.func17, Tryz.ntmps17
  go_wp2_with fail
  refine (unhide hw).mono ?_
  rintro e w2 ⟨rfl, hb⟩
  have hbh := Lib.hid hb
  clear hb hw
  go_wp2_with fail
  go_ret2
  exact ⟨rfl, hbh.out⟩

set_option maxRecDepth 100000 in
set_option maxHeartbeats 2000000 in
theorem wfromUndirected_any {w : World} {ids : List Int} {B : Nat → Prop} {ad : WR → Option Nat} {c : WR → Cont} {gb jn je jt ju js jr : Nat} {N : List Int} {F : Int → Int → Option Value}
    (h : WG false w ids B ad c gb jn je jt ju js jr N F) (hl : ids.length ≤ 1000) {x : Int} (hx : In64 x) (hF : ∀ a b, F a b ≠ none → b ∈ N) :
    Calls Tryz.prog 121 #[.pointer (some ⟨gb, 0, none⟩), .int .i64 x] w (ItPost w fun y => F x y ≠ none) := by
  have k0 : w.cell? ⟨gb, 0, none⟩ = some (.map (some jn)) := h.cell rfl
  have k1 : w.cell? ⟨gb, 1, none⟩ = some (.map (some je)) := h.cell rfl
  have hmx : ∀ W, Below w.heap.size w W → (Instr.lookup 75 (.map (some je)) (.int .i64 x) true).run Tryz.prog W = .ok (.tuple #[(mfun (fun x => ad (.ei x)) x).getD (.map none), .bool (mfun (fun x => ad (.ei x)) x).isSome]) W := fun W hW =>
    vmap_look_ok (h.below hW).emap Tryz.underlying75 (Tryz.zeroValue102 W) hx
  cases hc : ad (.ei x) with
  | none =>
    have hlk := vmap_look0 h.emap Tryz.underlying75 (Tryz.zeroValue102 w) hx (by unfold mfun; simp [hc])
    have hlen0 := len_nil_run w
    have hfin : Hid (∀ y, ¬ F x y ≠ none) := fun y hy => hy (h.en x hc y)
    clear h hmx hF
    go_enter Tryz.func121, Tryz.ntmps121
    go_wp2_with fail
    go_ret
    exact .inl ⟨rfl, rfl, hfin.out⟩
  | some jm =>
    have hlk := vmap_look h.emap Tryz.underlying75 (Tryz.zeroValue102 w) hx (v := .map (some jm)) (by unfold mfun; simp [hc])
    have hlk2 := vmap_look (h.below (drew_below w)).emap Tryz.underlying75 (Tryz.zeroValue102 w.drew) hx (v := .map (some jm)) (by unfold mfun; simp [hc])
    obtain ⟨n, hlen, hnl, h0⟩ := vmap_len (h.imap hc) Tryz.underlying102
    have hlen' := hlen 3
    have hne := Lib.hid (newByEdge_any (h.below (drew_below w)).nmap ((h.below (drew_below w)).imap hc) hl (hF x))
    have hzh : Hid (n = 0 → ∀ y, ¬ F x y ≠ none) := fun e y hy => hy (h0.1 e y)
    clear h hmx hF hlen h0
    by_cases hn0 : n = 0
    · subst hn0
      go_enter Tryz.func121, Tryz.ntmps121
      go_wp2_with fail
      go_ret
      exact .inl ⟨rfl, rfl, hzh.out (by first | rfl | trivial)⟩
    · have hz1 : ((n : Int) == 0) = false := by simpa using hn0
      have hz2 : ¬ (n : Int) = 0 := by omega
      go_enter Tryz.func121, Tryz.ntmps121
      go_wp2_with fail
      go_region_law (go_simp; go_at_call 115; refine (unhide hne).mono ?_; rintro e w2 ⟨ib, ns, rfl, h1, h2, h3, h4⟩; have hfin : Hid (ItPost w (fun y => F x y ≠ none) (.returned (.iface 192 (.pointer (some ⟨ib, 0, none⟩)))) w2) := .inr (.inr ⟨ib, ns, rfl, h1, h2, h3, (drew_below w).trans (h4.mono (Nat.le_refl _))⟩); clear h1 h2 h3 h4)
      all_goals
        go_wp2_with fail
        go_ret
        exact hfin.out

set_option maxRecDepth 100000 in
set_option maxHeartbeats 2000000 in
theorem wweightUndirected_any {w : World} {ids : List Int} {B : Nat → Prop} {ad : WR → Option Nat} {c : WR → Cont} {gb jn je jt ju js jr : Nat} {N : List Int} {F : Int → Int → Option Value}
    (h : WG false w ids B ad c gb jn je jt ju js jr N F) {x y : Int} {b : Nat} (hx : In64 x) (hy : In64 y) (hxy : x ≠ y) (u v : Int) (hF : F x y = some (wev u v b)) :
    Calls Tryz.prog 19 #[.pointer (some ⟨gb, 0, none⟩), .int .i64 x, .int .i64 y] w fun e w' => e = .returned (.tuple #[.float .f64 b, .bool true]) ∧ Below w.heap.size w w' := by
  have k1 : w.cell? ⟨gb, 1, none⟩ = some (.map (some je)) := h.cell rfl
  have hne : (x == y) = false := by simpa using hxy
  obtain ⟨jm, hc⟩ : ∃ jm, ad (.ei x) = some jm := by
    cases hc : ad (.ei x) with
    | none => have := h.en x hc y; rw [hF] at this; cases this
    | some jm => exact ⟨jm, rfl⟩
  have hlk := vmap_look_ok h.emap Tryz.underlying75 (Tryz.zeroValue102 w) hx
  unfold mfun at hlk
  simp only [hc, Option.map_some, Option.getD_some, Option.isSome_some] at hlk
  have hlk2 := vmap_look_ok (h.imap hc) Tryz.underlying102 (Tryz.zeroValue96 w) hy
  rw [hF] at hlk2
  unfold wev at hlk2
  simp only [Option.getD_some, Option.isSome_some] at hlk2
  have hm := wweight_method
  have hw := Lib.hid (wweight_any u v b w)
  clear h hF hc
  go_enter Tryz.func19, Tryz.ntmps19
  go_wp2_with fail
  refine (unhide hw).mono ?_
  rintro e w2 ⟨rfl, hb⟩
  have hbh := Lib.hid hb
  clear hb hw
  go_wp2_with fail
  go_ret2
  exact ⟨rfl, hbh.out⟩

end Go.Proofs.YtgkimjjodhnmiaaGreat

namespace Go.Proofs.YtgkimjjodhnmiaaGreat
open Go.RowKit Go.Maps

theorem wnum_step {w wr w2 : World} {B k : Nat} {b b2 : Option Addr} {cb c2 : Nat} {zs zs' : List Int} {y : Int} {o : Obj} (hz : zs' = zs ++ [y]) (hown : wr.ownsRow w.heap.size 3 1 (.slice b k cb) k (ints zs)) (hb : Below B w wr) (hB : B ≤ w.heap.size)
    (h2 : w2.ownsRow w.heap.size 3 1 (.slice b2 (k + 1) c2) (k + 1) (ints zs ++ [.int .i64 y])) (hg : (wr.alloc o).grownBy w2 (Value.slice b k cb).ownBlock) :
    w2.ownsRow w.heap.size 3 1 (.slice b2 (k + 1) c2) (k + 1) (ints zs') ∧ Below B w w2 ∧ ∀ j, j < w.heap.size → w2.heap[j]? = wr.heap[j]? := by
  have e : ints zs' = ints zs ++ [.int .i64 y] := by rw [hz]; unfold ints; rw [List.map_append]; rfl
  have hs := hb.size
  refine ⟨by rw [e]; exact h2, (hb.alloc (by omega) o).grown hg (by simp; omega) (fun j e => by have := (hown.lt j e).1; omega), fun j hj => ?_⟩
  rw [hg.block j (by simp; omega) (fun e => by have := (hown.lt j e.symm).1; omega), Below.heap_alloc _ _ _ (by omega)]

theorem MItAt.same {T : TypeId} {w w' : World} {B E ib k : Nat} {ns : List Int} (h : MItAt T w B E ib k ns) (hs : ∀ j, j < E → w'.heap[j]? = w.heap[j]?) : MItAt T w' B E ib k ns := by
  obtain ⟨hB, hE, a, c, cur, hrE, hblk, hcur, hrow, hne⟩ := h
  exact ⟨hB, hE, a, c, cur, hrE, (hs ib hE).trans hblk, hcur, owns_same hrow fun j hj => hs j (hrE j hj), hne⟩

/-- What impl.iterated gives. -/
def WItedPost (w : World) (B : Nat) (l : List Int) (e : Ending) (w' : World) : Prop :=
  ∃ (a : Option Addr) (c : Nat), e = .returned (.slice a l.length c) ∧ w'.ownsRow w.heap.size 3 1 (.slice a l.length c) l.length (ints (asc l)) ∧ Below B w w'

theorem mnodeN_method (n : Nat) (a : Addr) (w : World) : (method (n + 1) 194 (.pointer (some a)) "Node").run Tryz.prog w = .ok (176, .pointer (some a)) w := by kernel_rfl
theorem mnodeE_method (n : Nat) (a : Addr) (w : World) : (method (n + 1) 192 (.pointer (some a)) "Node").run Tryz.prog w = .ok (172, .pointer (some a)) w := by kernel_rfl

set_option maxRecDepth 100000 in
set_option maxHeartbeats 2000000 in
theorem iteratedMN_any (B E ib : Nat) (ns : List Int) (w : World) (hn : ns.length ≤ 1000) (hi : MItAt 199 w B E ib 0 ns) (hE : E ≤ w.heap.size) :
    Calls Tryz.prog 31 #[.iface 194 (.pointer (some ⟨ib, 0, none⟩))] w (WItedPost w B ns) := by
  have hib := hi.1
  have hie := hi.2.1
  have hih := Lib.hid hi
  have hmn := mnodeN_method
  clear hi
  go_enter Tryz.func31, Tryz.ntmps31
  go_wp2_with fail
  go_loopg [3] (ns.length) (fun gk s wr => ∃ (k : Nat) (b : Option Addr) (cb : Nat), gk = ns.length - k ∧ k ≤ ns.length ∧ s = .slice b k cb ∧ MItAt 199 wr B E ib k ns ∧ wr.ownsRow w.heap.size 3 1 (.slice b k cb) k (ints (ns.take k)) ∧ Below B w wr)
  case atStart => exact ⟨0, none, 0, rfl, Nat.zero_le _, rfl, hih.out, World.ownsRow_nil _ _ _ _, Below.refl _ _⟩
  case round =>
    clear hih
    obtain ⟨k, b, cb, hgk, hk, rfl, hit, hown, hb⟩ := hrel
    have hgkh := Lib.hid hgk
    clear hgk
    have hbs := hb.size
    have hownh := Lib.hid hown
    have hbh := Lib.hid hb
    clear hown hb
    by_cases hlt : k < ns.length
    · have hnx := Lib.hid (mnextN_any hit hk hn)
      have hd : decide (k < ns.length) = true := decide_eq_true hlt
      rw [hd] at hnx
      obtain ⟨y, hy⟩ : ∃ y, y = ns[k] := ⟨_, rfl⟩
      have htk : Hid (ns.take (k + 1) = ns.take k ++ [y]) := by unfold Hid; rw [List.take_succ_eq_append_getElem hlt, ← hy]
      have hnd := Lib.hid (fun (W : World) (hi : MItAt 199 W B E ib (k + 1) ns) => mnodeN_any hi hlt)
      rw [← hy] at hnd
      clear hd hy hit
      go_wp2_with fail
      refine (unhide hnx).mono ?_
      rintro e w5 ⟨rfl, hg5, hi5⟩
      have hi5' := hi5 hlt
      have own5 : w5.ownsRow w.heap.size 3 1 (.slice b k cb) k (ints (ns.take k)) := hownh.out.kept hg5 (.inr fun e => by have := (hownh.out.lt ib e).1; omega)
      have hb5 : Below B w w5 := hbh.out.grown hg5 (by omega) (fun j e => by injection e with e; omega)
      have hnd5 := Lib.hid (hnd.out w5 hi5')
      have ho := Lib.hid (fun o => own5.alloc o)
      have hst := Lib.hid (fun o b2 c2 w2 (h2 : w2.ownsRow w.heap.size 3 1 (.slice b2 (k + 1) c2) (k + 1) (ints (ns.take k) ++ [.int .i64 y])) (hg : (w5.alloc o).grownBy w2 (Value.slice b k cb).ownBlock) =>
        have r := wnum_step (zs' := ns.take (k + 1)) htk.out own5 hb5 (by omega) h2 hg
        And.intro r.1 (And.intro r.2.1 (hi5'.same (w' := w2) fun j hj => r.2.2 j (by omega))))
      have hz5 := hb5.size
      clear hg5 hi5 hi5' own5 hb5 hnx hnd hownh hbh hbs htk
      go_wp2_with (first
        | (go_at_call 176; refine (unhide hnd5).mono ?_; rintro e w6 ⟨rfl, rfl⟩)
        | (go_at_call 41; refine (number_any _ _).mono ?_; rintro e w' ⟨rfl, rfl⟩)
        | (at_builtin; refine append_law 22 3 (.int .i64 0) 1 8 Tryz.underlying22 info_int rfl (by omega) (by omega) rfl _ _ rfl w.heap.size b k cb (ints (ns.take k)) rfl (unhide ho _) ⟨w5.heap.size, 0, none⟩ 1 1 [.int .i64 y] rfl rfl (new_one w5 _ _) (one_int _) (by omega) (by simp; omega) ?_; intro b2 c2 w2 hown2 hg2 hat2; have hf := Lib.hid (unhide hst _ _ _ _ hown2 hg2); clear hown2 hg2 hat2 ho hst))
      go_roundg (ns.length - (k + 1))
      case measure => have := hgkh.out; omega
      case rel => exact ⟨k + 1, b2, c2, rfl, by omega, rfl, hf.out.2.2, hf.out.1, hf.out.2.1⟩
    · have hkn : k = ns.length := by omega
      subst hkn
      rw [List.take_length] at hownh
      have hnx := Lib.hid (mnextN_any hit hk hn)
      have hd : decide (ns.length < ns.length) = false := decide_eq_false hlt
      rw [hd] at hnx
      clear hit hd hk
      go_wp2_with fail
      refine (unhide hnx).mono ?_
      rintro e w5 ⟨rfl, hg5, _⟩
      have own5 : w5.ownsRow w.heap.size 3 1 (.slice b ns.length cb) ns.length (ints ns) := hownh.out.kept hg5 (.inr fun e => by have := (hownh.out.lt ib e).1; omega)
      have hb5 : Below B w w5 := hbh.out.grown hg5 (by omega) (fun j e => by injection e with e; omega)
      have hso := Lib.hid (sortInt_any w.heap.size ns.length cb b ns w5 (by omega) own5)
      have hfin := Lib.hid (fun w6 (h6 : w6.ownsRow w.heap.size 3 1 (.slice b ns.length cb) ns.length (ints (asc ns))) (hg6 : w5.grownBy w6 (Value.slice b ns.length cb).ownBlock) =>
        show WItedPost w B ns (.returned (.slice b ns.length cb)) w6 from
          ⟨b, cb, rfl, h6, hb5.grown hg6 (by have := hb5.size; omega) (fun j e => by have := (own5.lt j e).1; omega)⟩)
      clear hg5 own5 hb5 hnx hownh hbh hbs
      go_wp2_with fail
      refine (unhide hso).mono ?_
      rintro e w6 ⟨rfl, h6, hg6⟩
      have hf := Lib.hid (hfin.out w6 h6 hg6)
      clear h6 hg6 hso hfin
      go_wp2_with fail
      go_ret
      exact hf.out

set_option maxRecDepth 100000 in
set_option maxHeartbeats 2000000 in
theorem iteratedME_any (B E ib : Nat) (ns : List Int) (w : World) (hn : ns.length ≤ 1000) (hi : MItAt 198 w B E ib 0 ns) (hE : E ≤ w.heap.size) :
    Calls Tryz.prog 31 #[.iface 192 (.pointer (some ⟨ib, 0, none⟩))] w (WItedPost w B ns) := by
  have hib := hi.1
  have hie := hi.2.1
  have hih := Lib.hid hi
  have hmn := mnodeE_method
  clear hi
  go_enter Tryz.func31, Tryz.ntmps31
  go_wp2_with fail
  go_loopg [3] (ns.length) (fun gk s wr => ∃ (k : Nat) (b : Option Addr) (cb : Nat), gk = ns.length - k ∧ k ≤ ns.length ∧ s = .slice b k cb ∧ MItAt 198 wr B E ib k ns ∧ wr.ownsRow w.heap.size 3 1 (.slice b k cb) k (ints (ns.take k)) ∧ Below B w wr)
  case atStart => exact ⟨0, none, 0, rfl, Nat.zero_le _, rfl, hih.out, World.ownsRow_nil _ _ _ _, Below.refl _ _⟩
  case round =>
    clear hih
    obtain ⟨k, b, cb, hgk, hk, rfl, hit, hown, hb⟩ := hrel
    have hgkh := Lib.hid hgk
    clear hgk
    have hbs := hb.size
    have hownh := Lib.hid hown
    have hbh := Lib.hid hb
    clear hown hb
    by_cases hlt : k < ns.length
    · have hnx := Lib.hid (mnextE_any hit hk hn)
      have hd : decide (k < ns.length) = true := decide_eq_true hlt
      rw [hd] at hnx
      obtain ⟨y, hy⟩ : ∃ y, y = ns[k] := ⟨_, rfl⟩
      have htk : Hid (ns.take (k + 1) = ns.take k ++ [y]) := by unfold Hid; rw [List.take_succ_eq_append_getElem hlt, ← hy]
      have hnd := Lib.hid (fun (W : World) (hi : MItAt 198 W B E ib (k + 1) ns) => mnodeE_any hi hlt)
      rw [← hy] at hnd
      clear hd hy hit
      go_wp2_with fail
      refine (unhide hnx).mono ?_
      rintro e w5 ⟨rfl, hg5, hi5⟩
      have hi5' := hi5 hlt
      have own5 : w5.ownsRow w.heap.size 3 1 (.slice b k cb) k (ints (ns.take k)) := hownh.out.kept hg5 (.inr fun e => by have := (hownh.out.lt ib e).1; omega)
      have hb5 : Below B w w5 := hbh.out.grown hg5 (by omega) (fun j e => by injection e with e; omega)
      have hnd5 := Lib.hid (hnd.out w5 hi5')
      have ho := Lib.hid (fun o => own5.alloc o)
      have hst := Lib.hid (fun o b2 c2 w2 (h2 : w2.ownsRow w.heap.size 3 1 (.slice b2 (k + 1) c2) (k + 1) (ints (ns.take k) ++ [.int .i64 y])) (hg : (w5.alloc o).grownBy w2 (Value.slice b k cb).ownBlock) =>
        have r := wnum_step (zs' := ns.take (k + 1)) htk.out own5 hb5 (by omega) h2 hg
        And.intro r.1 (And.intro r.2.1 (hi5'.same (w' := w2) fun j hj => r.2.2 j (by omega))))
      have hz5 := hb5.size
      clear hg5 hi5 hi5' own5 hb5 hnx hnd hownh hbh hbs htk
      go_wp2_with (first
        | (go_at_call 172; refine (unhide hnd5).mono ?_; rintro e w6 ⟨rfl, rfl⟩)
        | (go_at_call 41; refine (number_any _ _).mono ?_; rintro e w' ⟨rfl, rfl⟩)
        | (at_builtin; refine append_law 22 3 (.int .i64 0) 1 8 Tryz.underlying22 info_int rfl (by omega) (by omega) rfl _ _ rfl w.heap.size b k cb (ints (ns.take k)) rfl (unhide ho _) ⟨w5.heap.size, 0, none⟩ 1 1 [.int .i64 y] rfl rfl (new_one w5 _ _) (one_int _) (by omega) (by simp; omega) ?_; intro b2 c2 w2 hown2 hg2 hat2; have hf := Lib.hid (unhide hst _ _ _ _ hown2 hg2); clear hown2 hg2 hat2 ho hst))
      go_roundg (ns.length - (k + 1))
      case measure => have := hgkh.out; omega
      case rel => exact ⟨k + 1, b2, c2, rfl, by omega, rfl, hf.out.2.2, hf.out.1, hf.out.2.1⟩
    · have hkn : k = ns.length := by omega
      subst hkn
      rw [List.take_length] at hownh
      have hnx := Lib.hid (mnextE_any hit hk hn)
      have hd : decide (ns.length < ns.length) = false := decide_eq_false hlt
      rw [hd] at hnx
      clear hit hd hk
      go_wp2_with fail
      refine (unhide hnx).mono ?_
      rintro e w5 ⟨rfl, hg5, _⟩
      have own5 : w5.ownsRow w.heap.size 3 1 (.slice b ns.length cb) ns.length (ints ns) := hownh.out.kept hg5 (.inr fun e => by have := (hownh.out.lt ib e).1; omega)
      have hb5 : Below B w w5 := hbh.out.grown hg5 (by omega) (fun j e => by injection e with e; omega)
      have hso := Lib.hid (sortInt_any w.heap.size ns.length cb b ns w5 (by omega) own5)
      have hfin := Lib.hid (fun w6 (h6 : w6.ownsRow w.heap.size 3 1 (.slice b ns.length cb) ns.length (ints (asc ns))) (hg6 : w5.grownBy w6 (Value.slice b ns.length cb).ownBlock) =>
        show WItedPost w B ns (.returned (.slice b ns.length cb)) w6 from
          ⟨b, cb, rfl, h6, hb5.grown hg6 (by have := hb5.size; omega) (fun j e => by have := (own5.lt j e).1; omega)⟩)
      clear hg5 own5 hb5 hnx hownh hbh hbs
      go_wp2_with fail
      refine (unhide hso).mono ?_
      rintro e w6 ⟨rfl, h6, hg6⟩
      have hf := Lib.hid (hfin.out w6 h6 hg6)
      clear h6 hg6 hso hfin
      go_wp2_with fail
      go_ret
      exact hf.out

theorem emptyNext_any (w : World) : Calls Tryz.prog 165 #[.int .i64 0] w fun e w' => e = .returned (.bool false) ∧ w = w' := by
  go_enter Tryz.func165, Tryz.ntmps165
  go_wp2
  go_ret
  exact ⟨rfl, rfl⟩

set_option maxHeartbeats 1000000 in
theorem iterated0_any (w : World) : Calls Tryz.prog 31 #[.iface 191 (.int .i64 0)] w (WItedPost w w.heap.size []) := by
  have hso := Lib.hid (sortInt_any w.heap.size 0 0 none [] w (by omega) (World.ownsRow_nil _ _ _ _))
  go_enter Tryz.func31, Tryz.ntmps31
  go_wp2_with fail
  go_loopg [3] 0 (fun gk s wr => s = .slice none 0 0 ∧ wr = w)
  case atStart => exact ⟨rfl, rfl⟩
  case round =>
    obtain ⟨rfl, rfl⟩ := hrel
    go_wp2_with (go_at_call 165; refine (emptyNext_any _).mono ?_; rintro e w' ⟨rfl, rfl⟩)
    refine (unhide hso).mono ?_
    rintro e w6 ⟨rfl, h6, hg6⟩
    have hfin : Hid (WItedPost wr wr.heap.size [] (.returned (.slice none 0 0)) w6) := ⟨none, 0, rfl, h6, grow7 hg6 (fun j e => by simp [Value.ownBlock] at e) (Nat.le_refl _)⟩
    clear h6 hg6 hso
    go_wp2_with fail
    go_ret
    exact hfin.out
end Go.Proofs.YtgkimjjodhnmiaaGreat
