/- topo.degeneracyOrdering: what stands in memory while nodes are taken away. -/
import Derived.Test.YtfihclhceakmdaaVMap
import Derived.Test.YtfihclhceakmdaaGRow0
import Derived.Test.YtfihclhceakmdaaIter
import Derived.Test.YtfihclhceakmdaaKLaw
namespace Go.Proofs.Ytfihclhceakmdaa
open Go.RowKit

theorem blks_nodup {vs : List Value} (h : ∀ (i j : Nat) (u v : Value) (a : Nat), vs[i]? = some u → vs[j]? = some v → u.ownBlock = some a → v.ownBlock = some a → i = j) : (blks vs).Nodup := by
  induction vs with
  | nil => exact List.nodup_nil
  | cons x vs ih =>
    have hnd := ih fun i j u v a h1 h2 h3 h4 => by
      have := h (i + 1) (j + 1) u v a (by rw [List.getElem?_cons_succ]; exact h1) (by rw [List.getElem?_cons_succ]; exact h2) h3 h4
      omega
    unfold blks at hnd ⊢
    rw [List.filterMap_cons]
    cases hx : x.ownBlock with
    | none => exact hnd
    | some a =>
      refine List.nodup_cons.2 ⟨fun hm => ?_, hnd⟩
      obtain ⟨v, hv, hva⟩ := List.mem_filterMap.1 hm
      obtain ⟨k, hk, rfl⟩ := List.mem_iff_getElem.1 hv
      have := h 0 (k + 1) x _ a (List.getElem?_cons_zero) (by rw [List.getElem?_cons_succ]; exact List.getElem?_eq_getElem hk) hx hva
      omega

theorem blks_at {vs : List Value} {j : Nat} (h : j ∈ blks vs) : ∃ (k : Nat) (v : Value), vs[k]? = some v ∧ v.ownBlock = some j := by
  obtain ⟨v, hv, hvj⟩ := List.mem_filterMap.1 h
  obtain ⟨k, hk, rfl⟩ := List.mem_iff_getElem.1 hv
  exact ⟨k, _, List.getElem?_eq_getElem hk, hvj⟩

theorem owns_shrink {w : World} {base e n c : Nat} {a : Option Addr} {xs : List Value} {x : Value} (h : w.ownsRow base e 1 (.slice a (n + 1) c) (n + 1) (xs ++ [x])) : w.ownsRow base e 1 (.slice a n c) n xs := by
  obtain ⟨hl, h | ⟨g, cap, cur, hv, hg, hh, hn, hm, hs, ht⟩⟩ := h
  · have := h.2; omega
  · injection hv with h1 h2 h3
    subst h1; subst h3
    have hxl : xs.length = n := by rw [List.length_append] at hl; simp at hl; omega
    refine ⟨by omega, .inr ⟨g, c, cur, rfl, hg, hh, by omega, hm, hs, ?_⟩⟩
    have := congrArg (List.take n) ht
    rw [List.take_take, Nat.min_eq_left (by omega), List.take_left' hxl] at this
    rw [Nat.mul_one]
    exact this

theorem grown_alloc {w w' : World} {o : Obj} {r : Option Nat} (h : (w.alloc o).grownBy w' r) : w.grownBy w' r :=
  ⟨h.os, h.tape, h.output, by have := h.size; simp at this; omega, fun j hj hn => by rw [h.block j (by simp; omega) hn, Below.heap_alloc _ _ _ hj]⟩
theorem grown_below {w w1 w' : World} {r : Option Nat} (hb : Below w.heap.size w w1) (h : w1.grownBy w' r) : w.grownBy w' r :=
  ⟨h.os.trans hb.os, h.tape.trans hb.tape, h.output.trans hb.output, Nat.le_trans hb.size h.size, fun j hj hn => (h.block j (Nat.lt_of_lt_of_le hj hb.size) hn).trans (hb.block j hj)⟩

/-- The degrees' map dmb, the lists by degrees (block db), what is taken away, what counts. -/
structure KD (w1 w : World) (ids : List Int) (dmb db m : Nat) (f : Int → Option Value) (vs : List Value) (Dl : List (List Int)) (lv sv : Value) (L : List Int) (c : List Nat) : Prop where
  fr : w1.grownBy w (some dmb)
  lt : dmb < w1.heap.size
  map : VMap w ids dmb f
  d : w.ownsRow w1.heap.size 47 1 (.slice (some ⟨db, 0, none⟩) m m) m vs
  rows : GRows w 67 nodev w1.heap.size vs Dl
  nd : (blks vs).Nodup
  dv : db ∉ blks vs
  l : w.ownsRow w1.heap.size 67 1 lv L.length (nodes L)
  s : w.ownsRow w1.heap.size 3 1 sv c.length (ints (c.map fun (n : Nat) => (n : Int)))
  ls : ∀ j, lv.ownBlock = some j → sv.ownBlock ≠ some j ∧ j ≠ db ∧ j ∉ blks vs
  sd : ∀ j, sv.ownBlock = some j → j ≠ db ∧ j ∉ blks vs

section
variable {w1 w w' : World} {ids : List Int} {dmb db m : Nat} {f : Int → Option Value} {vs : List Value} {Dl : List (List Int)} {lv sv : Value} {L : List Int} {c : List Nat}

/-- What is grown leaves all but the one block. -/
theorem KD.fr' (h : KD w1 w ids dmb db m f vs Dl lv sv L c) {r : Option Nat} (hg : w.grownBy w' r) (hr : ∀ j, r = some j → j = dmb ∨ w1.heap.size ≤ j) : w1.grownBy w' (some dmb) := by
  have hf := h.fr
  have hs := hf.size
  refine ⟨hg.os.trans hf.os, hg.tape.trans hf.tape, hg.output.trans hf.output, Nat.le_trans hf.size hg.size, fun j hj hn => ?_⟩
  rw [hg.block j (by omega) (fun e => by
    rcases hr j e.symm with e' | e'
    · exact hn (by rw [e'])
    · omega), hf.block j hj hn]

theorem KD.dlt (h : KD w1 w ids dmb db m f vs Dl lv sv L c) : w1.heap.size ≤ db ∧ db < w.heap.size := h.d.lt db rfl

theorem KD.map' (h : KD w1 w ids dmb db m f vs Dl lv sv L c) {f' : Int → Option Value} (hg : w.grownBy w' (some dmb)) (hm : VMap w' ids dmb f') : KD w1 w' ids dmb db m f' vs Dl lv sv L c := by
  have hlt := h.lt
  have hk : ∀ j, w1.heap.size ≤ j → j < w.heap.size → w'.heap[j]? = w.heap[j]? := fun j h1 h2 => hg.block j h2 (fun e => by injection e with e; omega)
  exact ⟨h.fr' hg fun j e => by injection e with e; exact .inl e.symm, hlt, hm, owns_same h.d fun j hj => hk j (h.d.lt j hj).1 (h.d.lt j hj).2, h.rows.same fun j hj => hk j (h.rows.lt j hj).1 (h.rows.lt j hj).2, h.nd, h.dv,
    owns_same h.l fun j hj => hk j (h.l.lt j hj).1 (h.l.lt j hj).2, owns_same h.s fun j hj => hk j (h.s.lt j hj).1 (h.s.lt j hj).2, h.ls, h.sd⟩

theorem KD.below (h : KD w1 w ids dmb db m f vs Dl lv sv L c) (hb : Below w.heap.size w w') : KD w1 w' ids dmb db m f vs Dl lv sv L c :=
  h.map' (grown_below (w1 := w') (r := some dmb) hb (World.grownBy.refl _ _)) (h.map.same (hb.block _ h.map.lt))

theorem KD.lPut (h : KD w1 w ids dmb db m f vs Dl lv sv L c) {lv' : Value} {L' : List Int} (hg : w.grownBy w' lv.ownBlock) (own : w'.ownsRow w1.heap.size 67 1 lv' L'.length (nodes L')) (hat : ∀ j, lv'.ownBlock = some j → lv.ownBlock = some j ∨ w.heap.size ≤ j) :
    KD w1 w' ids dmb db m f vs Dl lv' sv L' c := by
  have hlt := h.lt
  have hk : ∀ j, j < w.heap.size → lv.ownBlock ≠ some j → w'.heap[j]? = w.heap[j]? := fun j h1 h2 => hg.block j h1 (fun e => h2 e.symm)
  have hs := h.fr.size
  refine ⟨h.fr' hg fun j e => .inr (h.l.lt j e).1, hlt, h.map.same (hk _ h.map.lt fun e => by have := (h.l.lt _ e).1; omega), owns_same h.d fun j hj => hk j (h.d.lt j hj).2 fun e => ?_, h.rows.same fun j hj => hk j (h.rows.lt j hj).2 fun e => (h.ls j e).2.2 hj, h.nd, h.dv, own, owns_same h.s fun j hj => hk j (h.s.lt j hj).2 fun e => (h.ls j e).1 hj, fun j hj => ?_, h.sd⟩
  · have e2 : db = j := by injection hj
    exact (h.ls j e).2.1 e2.symm
  · rcases hat j hj with e | e
    · exact h.ls j e
    · have hdl := h.dlt
      exact ⟨fun e2 => by have := (h.s.lt j e2).2; omega, by omega, fun e2 => by have := (h.rows.lt j e2).2; omega⟩

theorem KD.sPut (h : KD w1 w ids dmb db m f vs Dl lv sv L c) {sv' : Value} {c' : List Nat} (hg : w.grownBy w' sv.ownBlock) (own : w'.ownsRow w1.heap.size 3 1 sv' c'.length (ints (c'.map fun (n : Nat) => (n : Int)))) (hat : ∀ j, sv'.ownBlock = some j → sv.ownBlock = some j ∨ w.heap.size ≤ j) :
    KD w1 w' ids dmb db m f vs Dl lv sv' L c' := by
  have hlt := h.lt
  have hk : ∀ j, j < w.heap.size → sv.ownBlock ≠ some j → w'.heap[j]? = w.heap[j]? := fun j h1 h2 => hg.block j h1 (fun e => h2 e.symm)
  have hs := h.fr.size
  refine ⟨h.fr' hg fun j e => .inr (h.s.lt j e).1, hlt, h.map.same (hk _ h.map.lt fun e => by have := (h.s.lt _ e).1; omega), owns_same h.d fun j hj => hk j (h.d.lt j hj).2 fun e => ?_, h.rows.same fun j hj => hk j (h.rows.lt j hj).2 fun e => (h.sd j e).2 hj, h.nd, h.dv, owns_same h.l fun j hj => hk j (h.l.lt j hj).2 fun e => (h.ls j hj).1 e, own, fun j hj => ⟨fun e => ?_, (h.ls j hj).2⟩, fun j hj => ?_⟩
  · have e2 : db = j := by injection hj
    exact (h.sd j e).1 e2.symm
  · rcases hat j e with e2 | e2
    · exact (h.ls j hj).1 e2
    · have := (h.l.lt j hj).2; omega
  · rcases hat j hj with e | e
    · exact h.sd j e
    · have hdl := h.dlt
      exact ⟨by omega, fun e2 => by have := (h.rows.lt j e2).2; omega⟩

/-- One of the lists, and what d says of it. -/
theorem KD.rowPut (h : KD w1 w ids dmb db m f vs Dl lv sv L c) {i : Nat} {v v' : Value} {r' : List Int} (hv : vs[i]? = some v) (hg : w.grownBy w' v.ownBlock) (own : w'.ownsRow w1.heap.size 67 1 v' r'.length (nodes r')) (hat : ∀ j, v'.ownBlock = some j → v.ownBlock = some j ∨ w.heap.size ≤ j) :
    KD w1 (w'.setCell ⟨db, i, none⟩ v') ids dmb db m f (vs.set i v') (Dl.set i r') lv sv L c := by
  have hlt := h.lt
  have hdl := h.dlt
  have hs := h.fr.size
  have hgs := hg.size
  have hvb : ∀ j, v.ownBlock = some j → j ∈ blks vs := fun j hj => blks_mem hv hj
  have hk : ∀ j, j < w.heap.size → v.ownBlock ≠ some j → j ≠ db → (w'.setCell ⟨db, i, none⟩ v').heap[j]? = w.heap[j]? := fun j h1 h2 h3 => by
    rw [Below.heap_setCell _ _ _ _ h3, hg.block j h1 (fun e => h2 e.symm)]
  have hset : ∀ j, j ≠ db → (w'.setCell ⟨db, i, none⟩ v').heap[j]? = w'.heap[j]? := fun j hj => Below.heap_setCell _ _ _ _ hj
  have hvdb : v.ownBlock ≠ some db := fun e => h.dv (hvb _ e)
  have hil : i < vs.length := (List.getElem?_eq_some_iff.1 hv).1
  have hset2 : ∀ (k : Nat) (u : Value), (vs.set i v')[k]? = some u → (k = i ∧ u = v') ∨ (k ≠ i ∧ vs[k]? = some u) := fun k u hu => by
    by_cases e : k = i
    · subst e
      rw [List.getElem?_set_self hil] at hu
      injection hu with hu
      exact .inl ⟨rfl, hu.symm⟩
    · rw [List.getElem?_set_ne (fun e2 => e e2.symm)] at hu
      exact .inr ⟨e, hu⟩
  have hblk : ∀ j, j ∈ blks (vs.set i v') → j ∈ blks vs ∨ w.heap.size ≤ j := fun j hj => by
    obtain ⟨k, u, hu, huj⟩ := blks_at hj
    rcases hset2 k u hu with ⟨rfl, rfl⟩ | ⟨_, hu2⟩
    · rcases hat j huj with e | e
      · exact .inl (hvb j e)
      · exact .inr e
    · exact .inl (blks_mem hu2 huj)
  refine ⟨⟨(hg.os.trans h.fr.os), (hg.tape.trans h.fr.tape), (hg.output.trans h.fr.output), by rw [size_setCell]; omega, fun j hj hn => ?_⟩, hlt, h.map.same (hk _ h.map.lt (fun e => by have := (h.rows.lt _ (hvb _ e)).1; omega) (by omega)), ?_, ⟨by rw [List.length_set, List.length_set]; exact h.rows.1, fun k u r hu hr => ?_⟩, ?_, ?_, owns_same h.l fun j hj => hk j (h.l.lt j hj).2 (fun e => (h.ls j hj).2.2 (hvb j e)) (h.ls j hj).2.1, owns_same h.s fun j hj => hk j (h.s.lt j hj).2 (fun e => (h.sd j hj).2 (hvb j e)) (h.sd j hj).1, fun j hj => ⟨(h.ls j hj).1, (h.ls j hj).2.1, fun e => ?_⟩, fun j hj => ⟨(h.sd j hj).1, fun e => ?_⟩⟩
  · rw [hk j (by omega) (fun e => by have := (h.rows.lt _ (hvb _ e)).1; omega) (by omega), h.fr.block j hj hn]
  · have hd' : w'.ownsRow w1.heap.size 47 1 (.slice (some ⟨db, 0, none⟩) m m) m vs := owns_same h.d fun j hj => by
      have e2 : db = j := by injection hj
      subst e2
      exact hg.block db hdl.2 (fun e => hvdb e.symm)
    exact owns_set hd' v'
  · rcases hset2 k u hu with ⟨rfl, rfl⟩ | ⟨hne, hu2⟩
    · rw [List.getElem?_set_self (by rw [← h.rows.1]; exact hil)] at hr
      injection hr with hr
      subst hr
      refine owns_same own fun j hj => hset j fun e => ?_
      rcases hat j hj with e2 | e2
      · exact h.dv (by rw [← e]; exact hvb j e2)
      · omega
    · rw [List.getElem?_set_ne (fun e2 => hne e2.symm)] at hr
      have h0 := h.rows.2 k u r hu2 hr
      refine owns_same h0 fun j hj => hk j (h0.lt j hj).2 (fun e => hne (blks_apart h.nd hu2 hv hj e)) fun e => h.dv (by rw [← e]; exact blks_mem hu2 hj)
  · refine blks_nodup fun p q u x a hp hq hu hx => ?_
    rcases hset2 p u hp with ⟨rfl, rfl⟩ | ⟨hp1, hp2⟩ <;> rcases hset2 q x hq with ⟨rfl, rfl⟩ | ⟨hq1, hq2⟩
    · rfl
    · exfalso
      rcases hat a hu with e | e
      · exact hq1 (blks_apart h.nd hq2 hv hx e)
      · have := (h.rows.lt a (blks_mem hq2 hx)).2; omega
    · exfalso
      rcases hat a hx with e | e
      · exact hp1 (blks_apart h.nd hp2 hv hu e)
      · have := (h.rows.lt a (blks_mem hp2 hu)).2; omega
    · exact blks_apart h.nd hp2 hq2 hu hx
  · intro hm
    rcases hblk db hm with e | e
    · exact h.dv e
    · omega
  · rcases hblk j e with e2 | e2
    · exact (h.ls j hj).2.2 e2
    · have := (h.l.lt j hj).2; omega
  · rcases hblk j e with e2 | e2
    · exact (h.sd j hj).2 e2
    · have := (h.s.lt j hj).2; omega
end
end Go.Proofs.Ytfihclhceakmdaa
