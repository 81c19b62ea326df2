/- topo.degeneracyOrdering: the first loop's memory: the nodes, the map of neighbours, the map of degrees. -/
import Derived.Test.YtfihclhceakmdaaKD
import Derived.Test.YtfihclhceakmdaaKLaw2
import Derived.Test.YtfihclhceakmdaaNodes
import Derived.Test.YtfihclhceakmdaaSucc
import Derived.Test.YtfihclhceakmdaaTable
namespace Go.Proofs.Ytfihclhceakmdaa
open Go.RowKit Go.Maps

/-- The first k nodes' neighbours and degrees are told. -/
structure N1 (w0 wC w : World) (ids : List Int) (s : Int → List Int) (dmb nmb k : Nat) (nv : Value) (f h : Int → Option Value) (md : Nat) : Prop where
  below : Below w0.heap.size w0 w
  ge : wC.heap.size ≤ w.heap.size
  nds : w.ownsRow w0.heap.size 67 1 nv ids.length (nodes ids)
  nvl : ∀ j, nv.ownBlock = some j → j < dmb
  dn : dmb < nmb ∧ nmb < wC.heap.size ∧ w0.heap.size ≤ dmb
  dm : VMap w ids dmb f
  nm : VMap w ids nmb h
  deg : ∀ x ∈ ids.take k, f x = some (.int .i64 ((s x).length : Nat)) ∧ (s x).length ≤ md
  rows : ∀ x ∈ ids.take k, ∃ v, h x = some v ∧ w.ownsRow wC.heap.size 67 1 v (s x).length (nodes (s x))
  mdl : md ≤ 1000

theorem N1.step {w0 wC w w6 w7 w8 : World} {ids : List Int} {s : Int → List Int} {dmb nmb k : Nat} {nv v : Value} {f h : Int → Option Value} {md : Nat} {x : Int} (H : N1 w0 wC w ids s dmb nmb k nv f h md) (hk : ids.take (k + 1) = ids.take k ++ [x]) (hx : (s x).length ≤ 1000)
    (hb : Below w.heap.size w w6) (hv : w6.ownsRow w.heap.size 67 1 v (s x).length (nodes (s x))) (hg7 : w6.grownBy w7 (some nmb)) (hm7 : VMap w7 ids nmb (updV h x (some v))) (hg8 : w7.grownBy w8 (some dmb)) (hm8 : VMap w8 ids dmb (updV f x (some (.int .i64 ((s x).length : Nat))))) :
    N1 w0 wC w8 ids s dmb nmb (k + 1) nv (updV f x (some (.int .i64 ((s x).length : Nat)))) (updV h x (some v)) (max md (s x).length) := by
  have hdn := H.dn
  have hge := H.ge
  have h0 := H.below.size
  have s6 := hb.size
  have s7 := hg7.size
  have s8 := hg8.size
  have hk6 : ∀ j, j < w6.heap.size → j ≠ nmb → j ≠ dmb → w8.heap[j]? = w6.heap[j]? := fun j h1 h2 h3 => by
    rw [hg8.block j (by omega) (fun e => by injection e with e; exact h3 e), hg7.block j h1 (fun e => by injection e with e; exact h2 e)]
  have hkw : ∀ j, j < w.heap.size → j ≠ nmb → j ≠ dmb → w8.heap[j]? = w.heap[j]? := fun j h1 h2 h3 => (hk6 j (by omega) h2 h3).trans (hb.block j h1)
  refine ⟨⟨(hg8.os.trans (hg7.os.trans hb.os)).trans H.below.os, (hg8.tape.trans (hg7.tape.trans hb.tape)).trans H.below.tape, (hg8.output.trans (hg7.output.trans hb.output)).trans H.below.output, by omega, fun j hj => ?_⟩, by omega, owns_same H.nds fun j hj => ?_, H.nvl, hdn, hm8, hm7.same ?_, fun y hy => ?_, fun y hy => ?_, by have := H.mdl; omega⟩
  · rw [hkw j (by omega) (by omega) (by omega), H.below.block j hj]
  · have h1 := H.nvl j hj
    exact hkw j (H.nds.lt j hj).2 (by omega) (by omega)
  · exact hg8.block nmb hm7.lt (fun e => by injection e with e; omega)
  · by_cases e : y = x
    · subst e
      rw [updV_self]
      exact ⟨rfl, Nat.le_max_right _ _⟩
    · rw [updV_other _ _ e]
      rw [hk, List.mem_append, List.mem_singleton] at hy
      rcases hy with hy | hy
      · obtain ⟨h1, h2⟩ := H.deg y hy
        exact ⟨h1, by omega⟩
      · exact absurd hy e
  · by_cases e : y = x
    · subst e
      rw [updV_self]
      exact ⟨v, rfl, owns_base (owns_same hv fun j hj => hk6 j (hv.lt j hj).2 (by have := (hv.lt j hj).1; omega) (by have := (hv.lt j hj).1; omega)) hge⟩
    · rw [updV_other _ _ e]
      rw [hk, List.mem_append, List.mem_singleton] at hy
      rcases hy with hy | hy
      · obtain ⟨u, h1, h2⟩ := H.rows y hy
        exact ⟨u, h1, owns_same h2 fun j hj => hkw j (h2.lt j hj).2 (by have := (h2.lt j hj).1; omega) (by have := (h2.lt j hj).1; omega)⟩
      · exact absurd hy e

theorem info_nrow : (Try.prog.info? 47).map (fun i => (i.zero, i.size, i.bytes)) = some (some (.slice none 0 0), 1, 24) := by kernel_rfl

theorem KD.start {w1 : World} {ids : List Int} {dmb m : Nat} {f : Int → Option Value} (hlt : dmb < w1.heap.size) (hm : VMap w1 ids dmb f) (hmm : m ≤ 1001) :
    KD w1 (w1.alloc (.cells (madeCells #[.slice none 0 0] m) 47)) ids dmb w1.heap.size m f (List.replicate m (.slice none 0 0)) (List.replicate m []) (.slice none 0 0) (.slice none 0 0) [] [] := by
  have hb := alloc_below w1 (.cells (madeCells #[.slice none 0 0] m) 47)
  have hbl : blks (List.replicate m (.slice none 0 0)) = [] := by
    unfold blks
    rw [List.filterMap_eq_nil_iff]
    intro v hv
    rw [(List.mem_replicate.1 hv).2]; rfl
  refine ⟨⟨hb.os, hb.tape, hb.output, hb.size, fun j hj _ => hb.block j hj⟩, hlt, hm.same (hb.block _ hm.lt), ?_, ⟨by simp, fun k v c hv hc => ?_⟩, by rw [hbl]; exact List.nodup_nil, by rw [hbl]; simp, World.ownsRow_nil _ _ _ _, World.ownsRow_nil _ _ _ _, fun j hj => by simp [Value.ownBlock] at hj, fun j hj => by simp [Value.ownBlock] at hj⟩
  · refine ⟨by simp, .inr ⟨w1.heap.size, m, madeCells #[.slice none 0 0] m, rfl, Nat.le_refl _, heap_alloc_new _ _, Nat.le_refl _, by unfold maxLen; omega, by rw [size_madeCells, Nat.mul_one], ?_⟩⟩
    rw [made_repl]
    simp
  · have h1 : v = .slice none 0 0 := by
      have := List.mem_of_getElem? hv
      exact (List.mem_replicate.1 this).2
    have h2 : c = [] := by
      have := List.mem_of_getElem? hc
      exact (List.mem_replicate.1 this).2
    subst h1; subst h2
    exact World.ownsRow_nil _ _ _ _

/-- The cell of d, and a row that is turned. -/
theorem KD.dcell {w1 w : World} {ids : List Int} {dmb db m : Nat} {f : Int → Option Value} {vs : List Value} {Dl : List (List Int)} {lv sv : Value} {L : List Int} {c : List Nat} (h : KD w1 w ids dmb db m f vs Dl lv sv L c) {i : Nat} (hi : i < Dl.length) :
    ∃ a cap, vs[i]? = some (.slice a Dl[i].length cap) ∧ w.ownsRow w1.heap.size 67 1 (.slice a Dl[i].length cap) Dl[i].length (nodes Dl[i]) ∧ w.cell? ⟨db, i, none⟩ = some (.slice a Dl[i].length cap) ∧ w.frozen? ⟨db, i, none⟩ = false := by
  have hv : i < vs.length := by rw [h.rows.1]; exact hi
  have h0 := h.rows.2 i _ _ (List.getElem?_eq_getElem hv) (List.getElem?_eq_getElem hi)
  obtain ⟨a, cap, e, _⟩ := owns_cells h0
  rw [e] at h0
  have hv' : vs[i]? = some (.slice a Dl[i].length cap) := by rw [List.getElem?_eq_getElem hv, e]
  exact ⟨a, cap, hv', h0, owns_cell h.d hv', owns_free h.d i⟩

theorem KD.rowApp {w1 w w' : World} {ids : List Int} {dmb db m n : Nat} {f : Int → Option Value} {vs : List Value} {Dl : List (List Int)} {lv sv : Value} {L : List Int} {c : List Nat} (h : KD w1 w ids dmb db m f vs Dl lv sv L c) {i : Nat} {a a' : Option Addr} {cap cap' : Nat} {r : List Int} {x : Int} {o : Obj} (hn : n = r.length) (hv : vs[i]? = some (.slice a n cap))
    (hg : (w.alloc o).grownBy w' (Value.slice a n cap).ownBlock) (own : w'.ownsRow w1.heap.size 67 1 (.slice a' (n + 1) cap') (n + 1) (nodes r ++ [nodev x])) (hat : a' = a ∨ a' = some ⟨(w.alloc o).heap.size, 0, none⟩) :
    w'.cell? ⟨db, i, none⟩ = some (.slice a n cap) ∧ w'.frozen? ⟨db, i, none⟩ = false ∧ Hid (KD w1 (w'.setCell ⟨db, i, none⟩ (.slice a' (n + 1) cap')) ids dmb db m f (vs.set i (.slice a' (n + 1) cap')) (Dl.set i (r ++ [x])) lv sv L c) := by
  subst hn
  have hdl := h.dlt
  have hg' := grown_alloc hg
  have hdb : w'.heap[db]? = w.heap[db]? := hg'.block db hdl.2 (fun e => h.dv (blks_mem hv e.symm))
  have hd' : w'.ownsRow w1.heap.size 47 1 (.slice (some ⟨db, 0, none⟩) m m) m vs := owns_same h.d fun j hj => by
    have e2 : db = j := by injection hj
    subst e2; exact hdb
  have e1 : (r ++ [x]).length = r.length + 1 := by simp
  have e2 : nodes (r ++ [x]) = nodes r ++ [nodev x] := by simp [nodes]
  refine ⟨owns_cell hd' hv, owns_free hd' i, h.rowPut hv hg' (by rw [e1, e2]; exact own) fun j hj => ?_⟩
  rcases hat with e | e
  · subst e
    left
    cases a' <;> exact hj
  · subst e
    right
    simp only [Value.ownBlock] at hj
    injection hj with hj
    simp at hj
    omega

/-- The lists by degrees of the first k nodes. -/
def dlist (ids : List Int) (s : Int → List Int) (m k : Nat) : List (List Int) := (List.range m).map fun i => (ids.take k).filter fun x => decide ((s x).length = i)
theorem dlist_len (ids : List Int) (s : Int → List Int) (m k : Nat) : (dlist ids s m k).length = m := by simp [dlist]
theorem dlist_zero (ids : List Int) (s : Int → List Int) (m : Nat) : dlist ids s m 0 = List.replicate m [] := by
  unfold dlist
  rw [List.take_zero]
  refine List.ext_getElem (by simp) fun i h1 h2 => ?_
  simp
theorem dlist_at (ids : List Int) (s : Int → List Int) {m k i : Nat} (hi : i < m) : (dlist ids s m k)[i]'(by rw [dlist_len]; exact hi) = (ids.take k).filter fun x => decide ((s x).length = i) := by
  unfold dlist
  rw [List.getElem_map, List.getElem_range]
theorem dlist_succ {ids : List Int} {s : Int → List Int} {m k : Nat} {x : Int} (hk : ids.take (k + 1) = ids.take k ++ [x]) (hx : (s x).length < m) :
    dlist ids s m (k + 1) = (dlist ids s m k).set (s x).length ((dlist ids s m k)[(s x).length]'(by rw [dlist_len]; exact hx) ++ [x]) := by
  refine List.ext_getElem (by rw [List.length_set, dlist_len, dlist_len]) fun i h1 h2 => ?_
  rw [dlist_len] at h1
  rw [dlist_at ids s h1, hk, List.filter_append, List.getElem_set]
  split
  · rename_i e
    subst e
    rw [List.filter_cons_of_pos (by simp), List.filter_nil, dlist_at ids s hx]
  · rename_i e
    rw [List.filter_cons_of_neg (by simpa using e), List.filter_nil, List.append_nil, dlist_at ids s h1]

theorem dlist_ok {ids : List Int} {s : Int → List Int} {m : Nat} (hnd : ids.Nodup) (hm : ∀ x ∈ ids, (s x).length < m) : DOk ids [] (degOut s []) m (dlist ids s m ids.length) := by
  have hdg : ∀ x, degOut s [] x = (s x).length := fun x => by unfold degOut; simp
  have hrow : ∀ i, (dlist ids s m ids.length).getD i [] = if i < m then ids.filter fun x => decide ((s x).length = i) else [] := fun i => by
    rw [List.getD_eq_getElem?_getD]
    split
    · rename_i h
      rw [List.getElem?_eq_getElem (by rw [dlist_len]; exact h), dlist_at ids s h, List.take_length]
      rfl
    · rename_i h
      rw [List.getElem?_eq_none (by rw [dlist_len]; omega)]; rfl
  refine ⟨dlist_len _ _ _ _, fun i => ?_, fun i x => ?_⟩
  · rw [hrow]
    split
    · exact hnd.sublist List.filter_sublist
    · exact List.nodup_nil
  · rw [hrow, hdg]
    split
    · rw [List.mem_filter, decide_eq_true_eq]
      simp
    · rename_i h
      constructor
      · intro h; cases h
      · rintro ⟨h1, _, h3⟩
        have := hm x h1; omega
end Go.Proofs.Ytfihclhceakmdaa
