/- topo.degeneracyOrdering: the first loop's memory: the nodes, the map of neighbours, the map of degrees.
   append(s, make([]int, k)...) on a row of its own.
   topo.degeneracyOrdering: the third loop's memory.
   topo.degeneracyOrdering: while the neighbours of what was taken away go over to lesser degrees. -/
import Derived.Test.YthpjmjohdliohaaGreatKA
import Derived.Test.YthpjmjohdliohaaGreatNodesT
import Derived.Test.YthpjmjohdliohaaGreatTabsS
import Derived.Test.YthpjmjohdliohaaGreatIter
import Derived.Lib.AppendZerosOnto
namespace Go.Proofs.YthpjmjohdliohaaGreat
open Go.RowKit Go.Maps

/-- The first k nodes' neighbours and degrees are told. -/
structure N1 (w0 wC w : World) (ids : List Int) (s : Int → List Int) (dmb nmb k : Nat) (nv : Value) (f h : Int → Option Value) (md : Nat) : Prop where
  below : Below w0.heap.size w0 w
  ge : wC.heap.size ≤ w.heap.size
  nds : w.ownsRow w0.heap.size 85 1 nv ids.length (nodes ids)
  nvl : ∀ j, nv.ownBlock = some j → j < dmb
  dn : dmb < nmb ∧ nmb < wC.heap.size ∧ w0.heap.size ≤ dmb
  dm : VMap w ids dmb f
  nm : VMap w ids nmb h
  deg : ∀ x ∈ ids.take k, f x = some (.int .i64 ((s x).length : Nat)) ∧ (s x).length ≤ md
  rows : ∀ x ∈ ids.take k, ∃ v, h x = some v ∧ w.ownsRow wC.heap.size 85 1 v (s x).length (nodes (s x))
  mdl : md ≤ 1000

theorem N1.step {w0 wC w w6 w7 w8 : World} {ids : List Int} {s : Int → List Int} {dmb nmb k : Nat} {nv v : Value} {f h : Int → Option Value} {md : Nat} {x : Int} (H : N1 w0 wC w ids s dmb nmb k nv f h md) (hk : ids.take (k + 1) = ids.take k ++ [x]) (hx : (s x).length ≤ 1000)
    (hb : Below w.heap.size w w6) (hv : w6.ownsRow w.heap.size 85 1 v (s x).length (nodes (s x))) (hg7 : w6.grownBy w7 (some nmb)) (hm7 : VMap w7 ids nmb (updV h x (some v))) (hg8 : w7.grownBy w8 (some dmb)) (hm8 : VMap w8 ids dmb (updV f x (some (.int .i64 ((s x).length : Nat))))) :
    N1 w0 wC w8 ids s dmb nmb (k + 1) nv (updV f x (some (.int .i64 ((s x).length : Nat)))) (updV h x (some v)) (max md (s x).length) := by
  have hdn := H.dn
  have hge := H.ge
  have h0 := H.below.size
  have s6 := hb.size
  have s7 := hg7.size
  have s8 := hg8.size
  have hk6 : ∀ j, j < w6.heap.size → j ≠ nmb → j ≠ dmb → w8.heap[j]? = w6.heap[j]? := fun j h1 h2 h3 => by
    rw [hg8.block j (by omega) (fun e => by injection e with e; exact h3 e), hg7.block j h1 (fun e => by injection e with e; exact h2 e)]
  have hkw : ∀ j, j < w.heap.size → j ≠ nmb → j ≠ dmb → w8.heap[j]? = w.heap[j]? := fun j h1 h2 h3 => (hk6 j (by omega) h2 h3).trans (hb.block j h1)
  refine ⟨⟨(hg8.os.trans (hg7.os.trans hb.os)).trans H.below.os, (hg8.tape.trans (hg7.tape.trans hb.tape)).trans H.below.tape, (hg8.output.trans (hg7.output.trans hb.output)).trans H.below.output, by omega, fun j hj => ?_⟩, by omega, owns_same H.nds fun j hj => ?_, H.nvl, hdn, hm8, hm7.same ?_, fun y hy => ?_, fun y hy => ?_, by have := H.mdl; omega⟩
  · rw [hkw j (by omega) (by omega) (by omega), H.below.block j hj]
  · have h1 := H.nvl j hj
    exact hkw j (H.nds.lt j hj).2 (by omega) (by omega)
  · exact hg8.block nmb hm7.lt (fun e => by injection e with e; omega)
  · by_cases e : y = x
    · subst e
      rw [updV_self]
      exact ⟨rfl, Nat.le_max_right _ _⟩
    · rw [updV_other _ _ e]
      rw [hk, List.mem_append, List.mem_singleton] at hy
      rcases hy with hy | hy
      · obtain ⟨h1, h2⟩ := H.deg y hy
        exact ⟨h1, by omega⟩
      · exact absurd hy e
  · by_cases e : y = x
    · subst e
      rw [updV_self]
      exact ⟨v, rfl, owns_base (owns_same hv fun j hj => hk6 j (hv.lt j hj).2 (by have := (hv.lt j hj).1; omega) (by have := (hv.lt j hj).1; omega)) hge⟩
    · rw [updV_other _ _ e]
      rw [hk, List.mem_append, List.mem_singleton] at hy
      rcases hy with hy | hy
      · obtain ⟨u, h1, h2⟩ := H.rows y hy
        exact ⟨u, h1, owns_same h2 fun j hj => hkw j (h2.lt j hj).2 (by have := (h2.lt j hj).1; omega) (by have := (h2.lt j hj).1; omega)⟩
      · exact absurd hy e

theorem info_nrowD : (Tryz.prog.info? 50).map (fun i => (i.zero, i.size, i.bytes)) = some (some (.slice none 0 0), 1, 24) := by kernel_rfl

theorem KD.start {w1 : World} {ids : List Int} {dmb m : Nat} {f : Int → Option Value} (hlt : dmb < w1.heap.size) (hm : VMap w1 ids dmb f) (hmm : m ≤ 1001) :
    KD w1 (w1.alloc (.cells (madeCells #[.slice none 0 0] m) 50)) ids dmb w1.heap.size m f (List.replicate m (.slice none 0 0)) (List.replicate m []) (.slice none 0 0) (.slice none 0 0) [] [] := by
  have hb := alloc_below w1 (.cells (madeCells #[.slice none 0 0] m) 50)
  have hbl : blks (List.replicate m (.slice none 0 0)) = [] := by
    unfold blks
    rw [List.filterMap_eq_nil_iff]
    intro v hv
    rw [(List.mem_replicate.1 hv).2]; rfl
  refine ⟨⟨hb.os, hb.tape, hb.output, hb.size, fun j hj _ => hb.block j hj⟩, hlt, hm.same (hb.block _ hm.lt), ?_, ⟨by simp, fun k v c hv hc => ?_⟩, by rw [hbl]; exact List.nodup_nil, by rw [hbl]; simp, World.ownsRow_nil _ _ _ _, World.ownsRow_nil _ _ _ _, fun j hj => by simp [Value.ownBlock] at hj, fun j hj => by simp [Value.ownBlock] at hj⟩
  · refine ⟨by simp, .inr ⟨w1.heap.size, m, madeCells #[.slice none 0 0] m, rfl, Nat.le_refl _, heap_alloc_new _ _, Nat.le_refl _, by unfold maxLen; omega, by rw [size_madeCells, Nat.mul_one], ?_⟩⟩
    rw [made_repl]
    simp
  · have h1 : v = .slice none 0 0 := by
      have := List.mem_of_getElem? hv
      exact (List.mem_replicate.1 this).2
    have h2 : c = [] := by
      have := List.mem_of_getElem? hc
      exact (List.mem_replicate.1 this).2
    subst h1; subst h2
    exact World.ownsRow_nil _ _ _ _

/-- The cell of d, and a row that is turned. -/
theorem KD.dcell {w1 w : World} {ids : List Int} {dmb db m : Nat} {f : Int → Option Value} {vs : List Value} {Dl : List (List Int)} {lv sv : Value} {L : List Int} {c : List Nat} (h : KD w1 w ids dmb db m f vs Dl lv sv L c) {i : Nat} (hi : i < Dl.length) :
    ∃ a cap, vs[i]? = some (.slice a Dl[i].length cap) ∧ w.ownsRow w1.heap.size 85 1 (.slice a Dl[i].length cap) Dl[i].length (nodes Dl[i]) ∧ w.cell? ⟨db, i, none⟩ = some (.slice a Dl[i].length cap) ∧ w.frozen? ⟨db, i, none⟩ = false := by
  have hv : i < vs.length := by rw [h.rows.1]; exact hi
  have h0 := h.rows.2 i _ _ (List.getElem?_eq_getElem hv) (List.getElem?_eq_getElem hi)
  obtain ⟨a, cap, e, _⟩ := owns_cells h0
  rw [e] at h0
  have hv' : vs[i]? = some (.slice a Dl[i].length cap) := by rw [List.getElem?_eq_getElem hv, e]
  exact ⟨a, cap, hv', h0, owns_cell h.d hv', owns_free h.d i⟩

theorem KD.rowApp {w1 w w' : World} {ids : List Int} {dmb db m n : Nat} {f : Int → Option Value} {vs : List Value} {Dl : List (List Int)} {lv sv : Value} {L : List Int} {c : List Nat} (h : KD w1 w ids dmb db m f vs Dl lv sv L c) {i : Nat} {a a' : Option Addr} {cap cap' : Nat} {r : List Int} {x : Int} {o : Obj} (hn : n = r.length) (hv : vs[i]? = some (.slice a n cap))
    (hg : (w.alloc o).grownBy w' (Value.slice a n cap).ownBlock) (own : w'.ownsRow w1.heap.size 85 1 (.slice a' (n + 1) cap') (n + 1) (nodes r ++ [nodev x])) (hat : a' = a ∨ a' = some ⟨(w.alloc o).heap.size, 0, none⟩) :
    w'.cell? ⟨db, i, none⟩ = some (.slice a n cap) ∧ w'.frozen? ⟨db, i, none⟩ = false ∧ Hid (KD w1 (w'.setCell ⟨db, i, none⟩ (.slice a' (n + 1) cap')) ids dmb db m f (vs.set i (.slice a' (n + 1) cap')) (Dl.set i (r ++ [x])) lv sv L c) := by
  subst hn
  have hdl := h.dlt
  have hg' := grown_alloc hg
  have hdb : w'.heap[db]? = w.heap[db]? := hg'.block db hdl.2 (fun e => h.dv (blks_mem hv e.symm))
  have hd' : w'.ownsRow w1.heap.size 50 1 (.slice (some ⟨db, 0, none⟩) m m) m vs := owns_same h.d fun j hj => by
    have e2 : db = j := by injection hj
    subst e2; exact hdb
  have e1 : (r ++ [x]).length = r.length + 1 := by simp
  have e2 : nodes (r ++ [x]) = nodes r ++ [nodev x] := by simp [nodes]
  refine ⟨owns_cell hd' hv, owns_free hd' i, h.rowPut hv hg' (by rw [e1, e2]; exact own) fun j hj => ?_⟩
  rcases hat with e | e
  · subst e
    left
    cases a' <;> exact hj
  · subst e
    right
    simp only [Value.ownBlock] at hj
    injection hj with hj
    simp at hj
    omega

/-- The lists by degrees of the first k nodes. -/
def dlist (ids : List Int) (s : Int → List Int) (m k : Nat) : List (List Int) := (List.range m).map fun i => (ids.take k).filter fun x => decide ((s x).length = i)
theorem dlist_len (ids : List Int) (s : Int → List Int) (m k : Nat) : (dlist ids s m k).length = m := by simp [dlist]
theorem dlist_zero (ids : List Int) (s : Int → List Int) (m : Nat) : dlist ids s m 0 = List.replicate m [] := by
  unfold dlist
  rw [List.take_zero]
  refine List.ext_getElem (by simp) fun i h1 h2 => ?_
  simp
theorem dlist_at (ids : List Int) (s : Int → List Int) {m k i : Nat} (hi : i < m) : (dlist ids s m k)[i]'(by rw [dlist_len]; exact hi) = (ids.take k).filter fun x => decide ((s x).length = i) := by
  unfold dlist
  rw [List.getElem_map, List.getElem_range]
theorem dlist_succ {ids : List Int} {s : Int → List Int} {m k : Nat} {x : Int} (hk : ids.take (k + 1) = ids.take k ++ [x]) (hx : (s x).length < m) :
    dlist ids s m (k + 1) = (dlist ids s m k).set (s x).length ((dlist ids s m k)[(s x).length]'(by rw [dlist_len]; exact hx) ++ [x]) := by
  refine List.ext_getElem (by rw [List.length_set, dlist_len, dlist_len]) fun i h1 h2 => ?_
  rw [dlist_len] at h1
  rw [dlist_at ids s h1, hk, List.filter_append, List.getElem_set]
  split
  · rename_i e
    subst e
    rw [List.filter_cons_of_pos (by simp), List.filter_nil, dlist_at ids s hx]
  · rename_i e
    rw [List.filter_cons_of_neg (by simpa using e), List.filter_nil, List.append_nil, dlist_at ids s h1]

theorem dlist_ok {ids : List Int} {s : Int → List Int} {m : Nat} (hnd : ids.Nodup) (hm : ∀ x ∈ ids, (s x).length < m) : DOk ids [] (degOut s []) m (dlist ids s m ids.length) := by
  have hdg : ∀ x, degOut s [] x = (s x).length := fun x => by unfold degOut; simp
  have hrow : ∀ i, (dlist ids s m ids.length).getD i [] = if i < m then ids.filter fun x => decide ((s x).length = i) else [] := fun i => by
    rw [List.getD_eq_getElem?_getD]
    split
    · rename_i h
      rw [List.getElem?_eq_getElem (by rw [dlist_len]; exact h), dlist_at ids s h, List.take_length]
      rfl
    · rename_i h
      rw [List.getElem?_eq_none (by rw [dlist_len]; omega)]; rfl
  refine ⟨dlist_len _ _ _ _, fun i => ?_, fun i x => ?_⟩
  · rw [hrow]
    split
    · exact hnd.sublist List.filter_sublist
    · exact List.nodup_nil
  · rw [hrow, hdg]
    split
    · rw [List.mem_filter, decide_eq_true_eq]
      simp
    · rename_i h
      constructor
      · intro h; cases h
      · rintro ⟨h1, _, h3⟩
        have := hm x h1; omega
end Go.Proofs.YthpjmjohdliohaaGreat

namespace Go.Proofs.YthpjmjohdliohaaGreat
open Go.RowKit Go.Lib

theorem zeros_one (z : Value) (n : Nat) : Builtin.zeroCells #[z] n = (List.replicate n z).toArray := by
  unfold Builtin.zeroCells
  apply Array.ext
  · simp
  · intro i h1 h2
    simp [Nat.mod_one]

theorem append_zeros_own {w : World} {base g n k cap : Nat} {xs : List Value} (h : w.ownsRow base 3 1 (.slice (some ⟨g, 0, none⟩) n cap) n xs) (hk : 0 < k) (hnk : n + k ≤ 1048576) (hbase : base ≤ w.heap.size) (ty : TypeId) :
    ∃ a' cap' w', (Builtin.append_ #[22, 3] ty #[.slice (some ⟨g, 0, none⟩) n cap, .int .i64 (k : Nat)]).run Tryz.prog w = .ok (.slice a' (n + k) cap') w' ∧ w'.ownsRow base 3 1 (.slice a' (n + k) cap') (n + k) (xs ++ List.replicate k (.int .i64 0)) ∧ w.grownBy w' (some g) ∧
      (a' = some ⟨g, 0, none⟩ ∨ a' = some ⟨w.heap.size, 0, none⟩) := by
  obtain ⟨i, hi, hz, hsize, hby⟩ := info_parts info_int
  have hlen : (xs ++ List.replicate k (Value.int .i64 0)).length = (n + k) * 1 := by
    have := h.1
    rw [List.length_append, List.length_replicate]; omega
  have hcells : (Value.int .i64 0).cells = #[.int .i64 0] := rfl
  obtain ⟨hl, h0 | ⟨g', cap', cur, hv, hbg, hg, hnc, hcm, hcs, htake⟩⟩ := h
  · cases h0.1
  · injection hv with h1 _ h3
    injection h1 with h1
    injection h1 with h1 _ _
    subst h1; subst h3
    by_cases hroom : n + k ≤ cap
    · have hst := run_storeCells_at Tryz.prog g n 3 (List.replicate k (Value.int .i64 0)) 0 cur w hg (by rw [List.length_replicate]; omega) (fun v hv => by rw [(List.mem_replicate.1 hv).2]; rfl)
      simp only [Nat.add_zero] at hst
      have hw : IntKind.i64.wrap (k : Int) = k := by rw [IntKind.wrap_i64]; omega
      have hneg : ¬ ((k : Int) < 0) := by omega
      have h48i : ¬ (281474976710656 < (k : Int) * (8 : Int)) := by omega
      have hk0 : k ≠ 0 := by omega
      rw [List.length_replicate] at hst
      obtain ⟨N, hN⟩ : ∃ N, N = (cur.toList.take n ++ List.replicate k (Value.int .i64 0) ++ cur.toList.drop (n + k)).toArray := ⟨_, rfl⟩
      rw [← hN] at hst
      refine ⟨some ⟨g, 0, none⟩, cap, w.setRow g N, ?_, ⟨hlen, .inr ⟨g, cap, N, rfl, hbg, setRow_heap w g cur N 3 _ hg, hroom, hcm, ?_, ?_⟩⟩, ⟨rfl, rfl, rfl, by simp, fun j _ hj => setRow_other w g j N (fun e => hj (by rw [e]))⟩, .inl rfl⟩
      · simp [Builtin.append_, run_underlying Tryz.underlying22, run_underlying Tryz.underlying3, sizeOf, typeInfo, zeroValue, hi, hz, hsize, hby, asInt, asIntOf, hw, hneg, h48i, hk0, hroom, Addr.add_lit, hcells, zeros_one, hst]
      · rw [hN]
        simp only [List.size_toArray, List.length_append, List.length_take, List.length_drop, Array.length_toList, List.length_replicate]
        omega
      · have htake' : cur.toList.take n = xs := by rw [← htake, Nat.mul_one]
        rw [hN, htake', ← hlen]
        simp only [List.append_assoc]
        rw [← List.append_assoc]
        exact List.take_left
    · have holds : ∀ j u, xs[j]? = some u → w.drew.cell? ((⟨g, 0, none⟩ : Addr).add j) = some u := fun j u hj => by
        have hj' : j < n := by
          have := (List.getElem?_eq_some_iff.1 hj).1; omega
        have : cur[j]? = some u := by
          rw [← htake, List.getElem?_take_of_lt (by omega), Array.getElem?_toList] at hj
          exact hj
        rw [Addr.add_mid, Nat.zero_add]
        show w.cell? ⟨g, j, none⟩ = some u
        simp [World.cell?, hg, this]
      have hf := run_firstCells_some (P := Tryz.prog) w.drew i.size n ⟨g, 0, none⟩ n cap xs (by rw [hsize]; exact hl) holds
      have hfit : Builtin.nextslicecap (n + k) cap * i.bytes ≤ 281474976710656 := growslice_fits (by omega) (by rw [hby]; omega)
      have hr := run_append_grow_zeros (P := Tryz.prog) w 22 3 ty 3 i (.int .i64 0) .i64 .i64 Tryz.underlying22 Tryz.underlying3 hi hz (some ⟨g, 0, none⟩) n cap xs hf k hk (by omega) (by omega) (by omega) (by rw [hby]; omega) hfit
      have hge := grownCap_ge w (n + k) cap 3
      have hcm' : grownCap w (n + k) cap 3 ≤ maxLen := grownCap_le_maxLen w (n + k) cap 3 (by unfold maxLen; omega)
      refine ⟨_, _, _, hr, ⟨hlen, .inr ⟨w.heap.size, _, _, rfl, hbase, heap_alloc_new w.drew _, hge, hcm', ?_, ?_⟩⟩, ⟨rfl, rfl, rfl, by simp, fun j hj _ => Below.heap_alloc w.drew _ j hj⟩, .inr rfl⟩
      · rw [hcells, zeros_one, zeros_one]
        simp only [Array.size_append, List.size_toArray, List.length_replicate]
        omega
      · rw [hcells, zeros_one, zeros_one]
        simp only [Array.toList_append, List.append_assoc]
        rw [← List.append_assoc, ← hlen]
        exact List.take_left
end Go.Proofs.YthpjmjohdliohaaGreat

namespace Go.Proofs.YthpjmjohdliohaaGreat
open Go.RowKit Go.Maps

/-- What stands when j nodes are taken away. -/
def K3 (w1 w : World) (ids : List Int) (s : Int → List Int) (dmb db mm j kk : Nat) (lv sv : Value) : Prop :=
  ∃ (L : List Int) (c : List Nat) (vs : List Value) (Dl : List (List Int)) (f : Int → Option Value), L.length = j ∧ KInv s ids L kk c ∧ DOk ids L (degOut s L) mm Dl ∧ (∀ x ∈ ids, f x = if x ∈ L then none else some (.int .i64 (degOut s L x : Nat))) ∧ KD w1 w ids dmb db mm f vs Dl lv sv L c

theorem dok_some {ids L : List Int} {g : Int → Nat} {mm : Nat} {Dl : List (List Int)} (h : DOk ids L g mm Dl) (hid : ids.Nodup) (hl : L.length < ids.length) (he : ∀ i, i < mm → Dl.getD i [] = []) : False := by
  have hall : ∀ x ∈ ids, x ∈ L := fun x hx => Classical.byContradiction fun hn => by
    have h1 := (h.mem (g x) x).2 ⟨hx, hn, rfl⟩
    have h2 := getD_lt h1
    rw [he _ (by rw [← h.len]; exact h2)] at h1
    cases h1
  have := nodup_len hid hall
  omega

theorem dok_min {ids L : List Int} {g : Int → Nat} {mm q : Nat} {Dl : List (List Int)} (h : DOk ids L g mm Dl) (he : ∀ i, i < q → Dl.getD i [] = []) : ∀ x ∈ ids, x ∉ L → q ≤ g x := fun x hx hn => by
  rcases Nat.lt_or_ge (g x) q with h1 | h1
  · have h2 := (h.mem (g x) x).2 ⟨hx, hn, rfl⟩
    rw [he _ h1] at h2
    cases h2
  · exact h1

theorem getD_at {l : List (List Int)} {q : Nat} (h : q < l.length) : l.getD q [] = l[q] := by
  rw [List.getD_eq_getElem?_getD, List.getElem?_eq_getElem h]; rfl

theorem kLong_zero {c : List Nat} {k i : Nat} (h : i ≤ k) : kLong c k i = c := by
  unfold kLong
  rw [show i - k = 0 by omega]; simp

/-- The counts, longer by what the greater degree wants. -/
theorem KD.zeros {w1 w w' : World} {ids : List Int} {dmb db m : Nat} {f : Int → Option Value} {vs : List Value} {Dl : List (List Int)} {lv : Value} {L : List Int} {c : List Nat} {g cap kk q : Nat} {a' : Option Addr} {cap' : Nat} (h : KD w1 w ids dmb db m f vs Dl lv (.slice (some ⟨g, 0, none⟩) (kk + 1) cap) L c) (hc : c.length = kk + 1) (hq : kk < q)
    (own : w'.ownsRow w1.heap.size 3 1 (.slice a' (kk + 1 + (q - kk)) cap') (kk + 1 + (q - kk)) (ints (c.map fun (n : Nat) => (n : Int)) ++ List.replicate (q - kk) (.int .i64 0))) (hg : w.grownBy w' (some g)) (hat : a' = some ⟨g, 0, none⟩ ∨ a' = some ⟨w.heap.size, 0, none⟩) :
    KD w1 w' ids dmb db m f vs Dl lv (.slice a' (max kk q + 1) cap') L (kLong c kk q) := by
  have e1 : kk + 1 + (q - kk) = max kk q + 1 := by omega
  have e2 : (kLong c kk q).length = max kk q + 1 := kLong_len hc
  have e3 : ints ((kLong c kk q).map fun (n : Nat) => (n : Int)) = ints (c.map fun (n : Nat) => (n : Int)) ++ List.replicate (q - kk) (.int .i64 0) := by
    unfold kLong ints
    rw [List.map_append, List.map_append, List.map_replicate, List.map_replicate]
    rfl
  rw [e1] at own
  refine h.sPut hg (by rw [e2, e3]; exact own) fun j hj => ?_
  rcases hat with e | e
  · subst e; exact .inl hj
  · subst e
    right
    simp only [Value.ownBlock] at hj
    injection hj with hj
    omega

/-- A node more is taken away, and counted. -/
theorem KD.inc {w1 w w' : World} {ids : List Int} {dmb db m j p : Nat} {f : Int → Option Value} {vs : List Value} {Dl : List (List Int)} {la a' : Option Addr} {lc cap' : Nat} {L : List Int} {c : List Nat} {gs cs : Nat} {v : Int} {o : Obj} (h : KD w1 w ids dmb db m f vs Dl (.slice la j lc) (.slice (some ⟨gs, 0, none⟩) (p + 1) cs) L c) (hc : c.length = p + 1) (hL : L.length = j)
    (hg : (w.alloc o).grownBy w' (Value.slice la j lc).ownBlock) (own : w'.ownsRow w1.heap.size 85 1 (.slice a' (j + 1) cap') (j + 1) (nodes L ++ [nodev v])) (hat : a' = la ∨ a' = some ⟨(w.alloc o).heap.size, 0, none⟩) :
    w'.cell? ⟨gs, p, none⟩ = some (.int .i64 (c.getD p 0 : Nat)) ∧ w'.frozen? ⟨gs, p, none⟩ = false ∧ Hid (KD w1 (w'.setCell ⟨gs, p, none⟩ (.int .i64 ((c.getD p 0 + 1 : Nat) : Int))) ids dmb db m f vs Dl (.slice a' (j + 1) cap') (.slice (some ⟨gs, 0, none⟩) (p + 1) cs) (L ++ [v]) (c.set p (c.getD p 0 + 1))) := by
  have e1 : (L ++ [v]).length = j + 1 := by simp [hL]
  have e2 : nodes (L ++ [v]) = nodes L ++ [nodev v] := by simp [nodes]
  have h2 := h.lPut (lv' := .slice a' (j + 1) cap') (L' := L ++ [v]) (grown_alloc hg) (by rw [e1, e2]; exact own) fun q hq => by
    rcases hat with e | e
    · subst e
      left
      cases a' <;> exact hq
    · subst e
      right
      simp only [Value.ownBlock] at hq
      injection hq with hq
      simp at hq
      omega
  have hs := h2.s
  rw [hc] at hs
  have hget : (ints (c.map fun (n : Nat) => (n : Int)))[p]? = some (.int .i64 (c.getD p 0 : Nat)) := by
    unfold ints
    rw [List.getElem?_map, List.getElem?_map, List.getElem?_eq_getElem (by omega), List.getD_eq_getElem?_getD, List.getElem?_eq_getElem (by omega)]
    rfl
  have hset := owns_set hs (j := p) (.int .i64 ((c.getD p 0 + 1 : Nat) : Int))
  refine ⟨owns_cell hs hget, owns_free hs p, h2.sPut (sv' := .slice (some ⟨gs, 0, none⟩) (p + 1) cs) ⟨rfl, rfl, rfl, by rw [size_setCell]; exact Nat.le_refl _, fun q _ hq => Below.heap_setCell _ _ _ _ (fun e => hq (by rw [e]; rfl))⟩ ?_ fun q hq => .inl hq⟩
  rw [List.length_set, hc]
  have e3 : ints ((c.set p (c.getD p 0 + 1)).map fun (n : Nat) => (n : Int)) = (ints (c.map fun (n : Nat) => (n : Int))).set p (.int .i64 ((c.getD p 0 + 1 : Nat) : Int)) := by
    unfold ints
    rw [List.map_set, List.map_set]
  rw [e3]
  exact hset

/-- delete(m, x) at the operation, for the walk. -/
theorem wpList_vmap_del (w : World) {ops : Array Oper} {rest : List Oper} {o : Oper} {a : Act} {Q : Exit → Act → World → Prop} (hg : o.guard = none) (m x : Operand) (t e : TypeId) (hop : o.op = Op.call { callee := Callee.builtin Builtin.delete, args := #[m, x], argTypes := #[t, 2] })
    (ht : Tryz.prog.underlying t = some (.map 2 e)) {ids : List Int} {mb : Nat} {f : Int → Option Value} (hm : a.eval m = .map (some mb)) (h : VMap w ids mb f) (y : Int) (hx : a.eval x = .int .i64 y) (hy : In64 y)
    (hK : ∀ w', VMap w' ids mb (updV f y none) → w.grownBy w' (some mb) → wpList Tryz.prog ops Q rest (a.put o.dst (.tuple #[])) w') : wpList Tryz.prog ops Q (o :: rest) a w := by
  refine wpList_plain hg fun K' hK' => ?_
  obtain ⟨w', hrun, r1, r2⟩ := vmap_del h ht hy o.type
  unfold Oper.wp
  simp [execOp, hop, resolve, invoke, builtin, hm, hx, hrun, Result.andThen]
  exact hK' _ _ (hK w' r1 r2)
end Go.Proofs.YthpjmjohdliohaaGreat

namespace Go.Proofs.YthpjmjohdliohaaGreat
open Go.RowKit Go.Maps

theorem DOk.congr {ids L : List Int} {g g' : Int → Nat} {m : Nat} {Dl : List (List Int)} (h : DOk ids L g m Dl) (e : ∀ x ∈ ids, x ∉ L → g x = g' x) : DOk ids L g' m Dl :=
  ⟨h.len, h.nd, fun i x => by
    rw [h.mem i x]
    constructor
    · rintro ⟨h1, h2, h3⟩; exact ⟨h1, h2, by rw [← e x h1 h2]; exact h3⟩
    · rintro ⟨h1, h2, h3⟩; exact ⟨h1, h2, by rw [e x h1 h2]; exact h3⟩⟩

/-- The degrees when the first t neighbours of v are told. -/
def gdec (s : Int → List Int) (L : List Int) (v : Int) (t : Nat) (x : Int) : Nat := degOut s L x - if x ∈ (s v).take t then 1 else 0

theorem gdec_zero (s : Int → List Int) (L : List Int) (v x : Int) : gdec s L v 0 x = degOut s L x := by unfold gdec; simp
theorem gdec_succ {s : Int → List Int} {L : List Int} {v y : Int} {t : Nat} (ht : t < (s v).length) (hy : y = (s v)[t]) {x : Int} (hx : x ≠ y) : gdec s L v (t + 1) x = gdec s L v t x := by
  unfold gdec
  rw [List.take_succ_eq_append_getElem ht, ← hy]
  simp [hx]
theorem gdec_at {s : Int → List Int} {L : List Int} {v y : Int} {t : Nat} (ht : t < (s v).length) (hy : y = (s v)[t]) (hnd : (s v).Nodup) : gdec s L v t y = degOut s L y ∧ gdec s L v (t + 1) y = degOut s L y - 1 := by
  unfold gdec
  have h1 : y ∉ (s v).take t := fun hm => by
    have h2 := hnd
    rw [← List.take_append_drop t (s v), List.nodup_append] at h2
    exact h2.2.2 y hm y (by rw [List.drop_eq_getElem_cons ht, ← hy]; exact List.mem_cons_self) rfl
  rw [List.take_succ_eq_append_getElem ht, ← hy]
  simp [h1]

/-- The last one taken away counts no more. -/
theorem degOut_snoc {s : Int → List Int} {L : List Int} {v x : Int} (hvL : v ∉ L) (hnd : (s x).Nodup) : degOut s (L ++ [v]) x = degOut s L x - if v ∈ s x then 1 else 0 := by
  unfold degOut
  have e1 : (s x).filter (fun y => !decide (y ∈ L ++ [v])) = ((s x).filter fun y => !decide (y ∈ L)).filter fun y => !decide (y = v) := by
    rw [List.filter_filter]
    refine List.filter_congr fun y _ => ?_
    by_cases h1 : y ∈ L <;> by_cases h2 : y = v <;> simp [h1, h2]
  rw [e1]
  generalize hl : (s x).filter (fun y => !decide (y ∈ L)) = l
  have hln : l.Nodup := by rw [← hl]; exact hnd.sublist List.filter_sublist
  have hm : v ∈ s x ↔ v ∈ l := by rw [← hl, List.mem_filter]; simp [hvL]
  have e2 : l.filter (fun y => !decide (y = v)) = l.erase v := by
    rw [hln.erase_eq_filter]
    refine List.filter_congr fun y _ => ?_
    by_cases h : y = v <;> simp [h]
  rw [e2]
  by_cases h : v ∈ s x
  · rw [if_pos h, List.length_erase_of_mem (hm.1 h)]
  · rw [if_neg h, List.erase_of_not_mem (fun e => h (hm.2 e))]; rfl

/-- What stands when the first t neighbours of v have gone over. -/
def K4 (w1 w : World) (ids : List Int) (s : Int → List Int) (dmb db mm : Nat) (L : List Int) (v : Int) (t : Nat) (lv sv : Value) (c : List Nat) : Prop :=
  ∃ (vs : List Value) (Dl : List (List Int)) (f : Int → Option Value), DOk ids (L ++ [v]) (gdec s L v t) mm Dl ∧ (∀ x ∈ ids, f x = if x ∈ L ++ [v] then none else some (.int .i64 (gdec s L v t x : Nat))) ∧ KD w1 w ids dmb db mm f vs Dl lv sv (L ++ [v]) c

section
variable {w1 w : World} {ids : List Int} {s : Int → List Int} {dmb db mm : Nat} {L : List Int} {v : Int} {lv sv : Value} {c : List Nat}

theorem K4.start {vs : List Value} {Dl : List (List Int)} {f : Int → Option Value} (hO : DOk ids (L ++ [v]) (degOut s L) mm Dl) (hf : ∀ x ∈ ids, f x = if x ∈ L then none else some (.int .i64 (degOut s L x : Nat))) (hD : KD w1 w ids dmb db mm (updV f v none) vs Dl lv sv (L ++ [v]) c) : K4 w1 w ids s dmb db mm L v 0 lv sv c := by
  refine ⟨vs, Dl, _, hO.congr fun x _ _ => (gdec_zero s L v x).symm, fun x hx => ?_, hD⟩
  rw [gdec_zero]
  by_cases e : x = v
  · subst e; rw [updV_self, if_pos (by simp)]
  · rw [updV_other _ _ e, hf x hx]
    by_cases h : x ∈ L
    · rw [if_pos h, if_pos (List.mem_append.2 (.inl h))]
    · rw [if_neg h, if_neg (fun h2 => by rcases List.mem_append.1 h2 with h3 | h3; exact h h3; exact e (List.mem_singleton.1 h3))]

theorem K4.skip {t : Nat} {y : Int} (h : K4 w1 w ids s dmb db mm L v t lv sv c) (ht : t < (s v).length) (hy : y = (s v)[t]) (hyL : y ∈ L ++ [v]) : K4 w1 w ids s dmb db mm L v (t + 1) lv sv c := by
  obtain ⟨vs, Dl, f, hO, hf, hD⟩ := h
  refine ⟨vs, Dl, f, hO.congr fun x _ hx => (gdec_succ ht hy (fun e => hx (by rw [e]; exact hyL))).symm, fun x hx => ?_, hD⟩
  rw [hf x hx]
  by_cases h1 : x ∈ L ++ [v]
  · rw [if_pos h1, if_pos h1]
  · rw [if_neg h1, if_neg h1, gdec_succ ht hy (fun e => h1 (by rw [e]; exact hyL))]

theorem K4.next {t a q : Nat} {y u : Int} {r : List Int} {vs' : List Value} {Dl : List (List Int)} {f : Int → Option Value} (hO : DOk ids (L ++ [v]) (gdec s L v t) mm Dl) (hf : ∀ x ∈ ids, f x = if x ∈ L ++ [v] then none else some (.int .i64 (gdec s L v t x : Nat))) (ht : t < (s v).length) (hy : y = (s v)[t]) (hnd : (s v).Nodup)
    (hym : y ∈ ids) (hyL : y ∉ L ++ [v]) (ha : degOut s L y = a + 1) (hr : Dl.getD (a + 1) [] = r ++ [u]) (hq : (r ++ [u])[q]? = some y)
    (hD : KD w1 w ids dmb db mm (updV f y (some (.int .i64 (a : Nat)))) vs' ((Dl.set (a + 1) (r.set q u)).set a (((Dl.set (a + 1) (r.set q u)).getD a []) ++ [y])) lv sv (L ++ [v]) c) : K4 w1 w ids s dmb db mm L v (t + 1) lv sv c := by
  obtain ⟨g1, g2⟩ := gdec_at (s := s) (L := L) ht hy hnd
  have hg : ∀ x, updN (gdec s L v t) y a x = gdec s L v (t + 1) x := fun x => by
    unfold updN
    by_cases e : x = y
    · subst e; rw [if_pos rfl, g2, ha]; rfl
    · rw [if_neg e, gdec_succ ht hy e]
  refine ⟨vs', _, _, (hO.move hym hyL (by rw [g1]; exact ha) hr hq).congr fun x _ _ => hg x, fun x hx => ?_, hD⟩
  by_cases e : x = y
  · subst e
    rw [updV_self, if_neg hyL, g2, ha]; rfl
  · rw [updV_other _ _ e, hf x hx, gdec_succ ht hy e]

theorem K4.done (h : K4 w1 w ids s dmb db mm L v (s v).length lv sv c) (hvL : v ∉ L) (hvm : v ∈ ids) (hsym : ∀ x ∈ ids, ∀ y ∈ s x, x ∈ s y) (hnd : ∀ x ∈ ids, (s x).Nodup) {kk : Nat} (hI : KInv s ids (L ++ [v]) kk c) {j : Nat} (hj : L.length = j) : K3 w1 w ids s dmb db mm (j + 1) kk lv sv := by
  obtain ⟨vs, Dl, f, hO, hf, hD⟩ := h
  have hg : ∀ x ∈ ids, gdec s L v (s v).length x = degOut s (L ++ [v]) x := fun x hx => by
    rw [degOut_snoc hvL (hnd x hx)]
    unfold gdec
    rw [List.take_length]
    by_cases h1 : x ∈ s v
    · rw [if_pos h1, if_pos (hsym v hvm x h1)]
    · rw [if_neg h1, if_neg (fun h2 => h1 (hsym x hx v h2))]
  refine ⟨L ++ [v], c, vs, Dl, f, by simp [hj], hI, hO.congr fun x hx _ => hg x hx, fun x hx => ?_, hD⟩
  rw [hf x hx, hg x hx]
end

theorem getD_le_sum (l : List Nat) (i : Nat) : l.getD i 0 ≤ l.sum := by
  induction l generalizing i with
  | nil => simp
  | cons a l ih =>
    cases i with
    | zero => simp
    | succ i => have := ih i; simp at this ⊢; omega

theorem degOut_pos {s : Int → List Int} {L : List Int} {v y : Int} (h : v ∈ s y) (hv : v ∉ L) : ∃ a, degOut s L y = a + 1 := by
  have : 0 < degOut s L y := by
    unfold degOut
    exact List.length_pos_of_mem (List.mem_filter.2 ⟨h, by simp [hv]⟩)
  exact ⟨degOut s L y - 1, by omega⟩

theorem all_in {ids L : List Int} (hL : L.Nodup) (hs : ∀ x ∈ L, x ∈ ids) (hl : ids.length ≤ L.length) : ∀ x ∈ ids, x ∈ L := fun x hx => Classical.byContradiction fun hn => by
  have := nodup_len (List.nodup_cons.2 ⟨hn, hL⟩) (m := ids) (fun y hy => by
    rcases List.mem_cons.1 hy with e | e
    · rw [e]; exact hx
    · exact hs y e)
  rw [List.length_cons] at this
  omega

/-- One of a list goes, the last one comes to its place: two stores. -/
theorem KD.swap {w1 w : World} {ids : List Int} {dmb db m i q nr : Nat} {f : Int → Option Value} {vs : List Value} {Dl : List (List Int)} {lv sv : Value} {L : List Int} {c : List Nat} {ga cap : Nat} {r : List Int} {u : Int} (h : KD w1 w ids dmb db m f vs Dl lv sv L c) (hv : vs[i]? = some (.slice (some ⟨ga, 0, none⟩) (nr + 1) cap)) (hr : Dl[i]? = some (r ++ [u])) (hn : nr = r.length) (hq : q ≤ nr) :
    (∃ x, w.cell? ⟨ga, q, none⟩ = some x) ∧ w.frozen? ⟨ga, q, none⟩ = false ∧ (w.setCell ⟨ga, q, none⟩ (nodev u)).cell? ⟨db, i, none⟩ = some (.slice (some ⟨ga, 0, none⟩) (nr + 1) cap) ∧ (w.setCell ⟨ga, q, none⟩ (nodev u)).frozen? ⟨db, i, none⟩ = false ∧
      KD w1 ((w.setCell ⟨ga, q, none⟩ (nodev u)).setCell ⟨db, i, none⟩ (.slice (some ⟨ga, 0, none⟩) nr cap)) ids dmb db m f (vs.set i (.slice (some ⟨ga, 0, none⟩) nr cap)) (Dl.set i (r.set q u)) lv sv L c := by
  have own := h.rows.2 i _ _ hv hr
  have e1 : (r ++ [u]).length = nr + 1 := by simp [hn]
  have e2 : (r ++ [u]).map nodev = nodes (r ++ [u]) := rfl
  rw [e1, e2] at own
  have hne : ga ≠ db := fun e => h.dv (by rw [← e]; exact blks_mem hv rfl)
  have hql : q < (r ++ [u]).length := by omega
  have hset := owns_set own (j := q) (nodev u)
  have hs2 : (r ++ [u]).set q u = r.set q u ++ [u] := by
    rcases Nat.lt_or_ge q r.length with h1 | h1
    · rw [List.set_append_left _ _ h1]
    · have : q = r.length := by omega
      subst this
      rw [List.set_append_right _ _ (Nat.le_refl _), Nat.sub_self, List.set_eq_of_length_le (l := r) (Nat.le_refl _)]; rfl
  have e3 : (nodes (r ++ [u])).set q (nodev u) = nodes (r.set q u) ++ [nodev u] := by
    unfold nodes
    rw [← List.map_set, hs2, List.map_append]; rfl
  rw [e3] at hset
  have hsh := owns_shrink hset
  have hd' : (w.setCell ⟨ga, q, none⟩ (nodev u)).ownsRow w1.heap.size 50 1 (.slice (some ⟨db, 0, none⟩) m m) m vs := owns_same h.d fun j hj => by
    have e : db = j := by injection hj
    exact Below.heap_setCell _ _ _ _ (show j ≠ ga by omega)
  have hrl : (r.set q u).length = nr := by rw [List.length_set, hn]
  exact ⟨⟨_, owns_cell own (nodes_get (r ++ [u]) q hql)⟩, owns_free own q, owns_cell hd' hv, owns_free hd' i,
    h.rowPut hv ⟨rfl, rfl, rfl, by rw [size_setCell]; exact Nat.le_refl _, fun j _ hj => Below.heap_setCell _ _ _ _ (fun e => hj (by rw [e]; rfl))⟩ (by rw [hrl]; exact hsh) (fun j hj => .inl hj)⟩
end Go.Proofs.YthpjmjohdliohaaGreat
