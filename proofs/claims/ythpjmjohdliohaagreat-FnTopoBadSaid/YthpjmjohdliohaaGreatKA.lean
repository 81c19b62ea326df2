/- A map by numbers of nodes that the call has made, whatever its elements are: told by a function.
   Rows of any type of one cell, each in a block of its own, told by their slices.
   The cores of a graph, pure: what taking away a node of the least degree, again and again, counts.
   topo.degeneracyOrdering: what stands in memory while nodes are taken away.
   The lists by degrees, pure.
   laws.tableOf: the table of a graph, pure, and how its rows lie in memory.
   laws.tableOf: how the table lies in memory while it is built. No program in sight but for types' numbers.
   The table in memory once its rows are made: cells set, what is read of it. -/
import Derived.Test.YthpjmjohdliohaaGreatOpenA
import Derived.Maps.OwnSet
import Derived.Test.YthpjmjohdliohaaGreatIntsA
import Derived.Test.YthpjmjohdliohaaGreatBase
import Derived.Test.YthpjmjohdliohaaGreatIter
import Derived.Test.YthpjmjohdliohaaGreatTabsS
import Derived.Test.YthpjmjohdliohaaGreatPartsA
import Derived.Test.YthpjmjohdliohaaGreatSetPl
namespace Go.Proofs.YthpjmjohdliohaaGreat
open Go.RowKit Go.Maps

/-- An element as it stands. -/
def heldElem (v : Value) : Option (DataW Value × List MemPlace) := some (.held v, [])
theorem heldElem_inv {v : Value} {d : DataW Value} {ps : List MemPlace} (h : heldElem v = some (d, ps)) : d = .held v := by
  unfold heldElem at h
  injection h with h
  injection h with h1 _
  exact h1.symm

/-- The bound on the entries by what the keys are. -/
theorem ownsMap_bound' {H : Type} {ids : List Int} {w : World} {R : Value → Option (DataW H × List MemPlace)} {mb N : Nat} {D : DataW H} (h : w.ownsMap Tryz.prog 2 R mb N D) (hk : ∀ l, Maps.has D l = true → ∃ x ∈ ids, l = .int .i64 x) :
    w.ownsMap Tryz.prog 2 R mb ids.length D := by
  obtain ⟨es0, e0, hp, hkl⟩ := h.canon keyed64
  obtain ⟨es, clock, hb, F, hs, hD⟩ := h
  refine ⟨es, clock, hb, F, ?_, hD⟩
  have hes : es0 = (es.toList.map (WideElems.rg Tryz.prog 2 R)).foldr DataW.insert [] := by rw [hD] at e0; injection e0 with e0; exact e0.symm
  have hlen : es.size = es0.length := by rw [hes, length_sorted]; simp
  have hkey : ∀ p ∈ es0, ∃ x ∈ ids, p.1 = Lit.int .i64 x := fun p hp' => by
    refine hk _ ?_
    rw [e0, has_eq, List.any_eq_true]
    exact ⟨p, hp', WideAt.sameKey_self (hkl p hp')⟩
  have hap := apart_of_rising hp
  let num : Lit × DataW H → Int := fun p => match p.1 with | .int _ x => x | _ => 0
  have hnum : ∀ p ∈ es0, p.1 = Lit.int .i64 (num p) ∧ num p ∈ ids := fun p hp' => by
    obtain ⟨x, hx, e⟩ := hkey p hp'
    have : num p = x := by show (match p.1 with | .int _ x => x | _ => 0) = x; rw [e]
    rw [this]; exact ⟨e, hx⟩
  have hnd : (es0.map num).Nodup := by
    unfold List.Nodup
    rw [List.pairwise_map]
    refine hap.imp_of_mem fun {a b} ha hb' hab e => hab ?_
    rw [(hnum a ha).1, (hnum b hb').1, e]
  have := nodup_len hnd (m := ids) (fun x hx => by
    obtain ⟨p, hp', rfl⟩ := List.mem_map.1 hx
    exact (hnum p hp').2)
  rw [List.length_map] at this
  omega

/-- What a map says of a key. -/
def saysOf (D : DataW Value) (x : Int) : Option Value → Prop
  | some v => Maps.has D (.int .i64 x) = true ∧ ∀ z, D.atKey (.int .i64 x) z = .held v
  | none => Maps.has D (.int .i64 x) = false

/-- Block mb is a map by numbers of nodes alone; f tells its elements. -/
def VMap (w : World) (ids : List Int) (mb : Nat) (f : Int → Option Value) : Prop :=
  ∃ D : DataW Value, w.ownsMap Tryz.prog 2 heldElem mb ids.length D ∧ (∀ l, Maps.has D l = true → ∃ x ∈ ids, l = .int .i64 x) ∧ ∀ x, saysOf D x (f x)

/-- f, but v at x. -/
def updV (f : Int → Option Value) (x : Int) (v : Option Value) : Int → Option Value := fun y => if y = x then v else f y
theorem updV_self (f : Int → Option Value) (x : Int) (v : Option Value) : updV f x v x = v := if_pos rfl
theorem updV_other (f : Int → Option Value) {x y : Int} (v : Option Value) (h : y ≠ x) : updV f x v y = f y := if_neg h

theorem vmap_new (w : World) (ids : List Int) : VMap (w.alloc (.map #[] 0)) ids w.heap.size (fun _ => none) :=
  ⟨.map [], (World.ownsMap_made w _ _ _).mono (Nat.zero_le _), fun l h => by simp [Maps.has] at h, fun x => by show Maps.has _ _ = false; simp [Maps.has]⟩

theorem VMap.lt {w : World} {ids : List Int} {mb : Nat} {f : Int → Option Value} (h : VMap w ids mb f) : mb < w.heap.size := by
  obtain ⟨D, hown, _⟩ := h; exact hown.lt
theorem VMap.same {w w' : World} {ids : List Int} {mb : Nat} {f : Int → Option Value} (h : VMap w ids mb f) (h1 : w'.heap[mb]? = w.heap[mb]?) : VMap w' ids mb f := by
  obtain ⟨D, ⟨es, clock, hb, r⟩, hD⟩ := h
  exact ⟨D, ⟨es, clock, h1.trans hb, r⟩, hD⟩
theorem VMap.congr {w : World} {ids : List Int} {mb : Nat} {f g : Int → Option Value} (h : VMap w ids mb f) (e : ∀ x, f x = g x) : VMap w ids mb g := by
  obtain ⟨D, h1, h2, h3⟩ := h
  exact ⟨D, h1, h2, fun x => by rw [← e x]; exact h3 x⟩

section
variable {w : World} {ids : List Int} {mb : Nat} {f : Int → Option Value} {t e : TypeId} {z : Value}

set_option maxRecDepth 100000 in
theorem vmap_look (h : VMap w ids mb f) (ht : Tryz.prog.underlying t = some (.map 2 e)) (hz : (zeroValue e).run Tryz.prog w = .ok z w) {x : Int} (hx : In64 x) {v : Value} (hv : f x = some v) :
    (Instr.lookup t (.map (some mb)) (.int .i64 x) false).run Tryz.prog w = .ok v w := by
  obtain ⟨D, hown, _, hat⟩ := h
  obtain ⟨u, ps, hrun, hu⟩ := hown.lookup keyed64 ht hz (zd := .held z) (zp := []) rfl (Maps.keyOf_int_mk Tryz.underlying2 hx)
  have h1 := hat x
  rw [hv] at h1
  have h2 := heldElem_inv hu
  rw [h1.2] at h2
  injection h2 with h2
  rw [hrun, h2]

set_option maxRecDepth 100000 in
theorem vmap_look_ok (h : VMap w ids mb f) (ht : Tryz.prog.underlying t = some (.map 2 e)) (hz : (zeroValue e).run Tryz.prog w = .ok z w) {x : Int} (hx : In64 x) :
    (Instr.lookup t (.map (some mb)) (.int .i64 x) true).run Tryz.prog w = .ok (.tuple #[(f x).getD z, .bool (f x).isSome]) w := by
  obtain ⟨D, hown, _, hat⟩ := h
  obtain ⟨u, ps, hrun, hu⟩ := hown.look_ok keyed64 ht hz (zd := .held z) (zp := []) rfl (Maps.keyOf_int_mk Tryz.underlying2 hx)
  have h1 := hat x
  have h2 := heldElem_inv hu
  cases hf : f x with
  | none =>
    rw [hf] at h1
    have h1' : Maps.has D (.int .i64 x) = false := h1
    rw [atKey_of_not_has h1'] at h2
    injection h2 with h2
    rw [hrun, h1', ← h2]; rfl
  | some v =>
    rw [hf] at h1
    rw [h1.2] at h2
    injection h2 with h2
    rw [hrun, h1.1, ← h2]; rfl

theorem vmap_put (h : VMap w ids mb f) (ht : Tryz.prog.underlying t = some (.map 2 e)) {x : Int} (hx : In64 x) (hm : x ∈ ids) (hids : ids.length ≤ 1048576) (v : Value) :
    ∃ w', (Instr.mapUpdate t (.map (some mb)) (.int .i64 x) v).run Tryz.prog w = .ok () w' ∧ VMap w' ids mb (updV f x (some v)) ∧ w.grownBy w' (some mb) := by
  obtain ⟨D, hown, hk, hat⟩ := h
  obtain ⟨w', hrun, ho, hg⟩ := hown.update keyed64 ht (by unfold maxLen; omega) (Maps.keyOf_int_mk Tryz.underlying2 hx) (val := v) (d := .held v) (ps := []) rfl
  have hkl : WideAt.IsKeyLit (.int .i64 x) := by simp [WideAt.IsKeyLit]
  have hmap : IsMap D := (hown.canon keyed64 |> fun ⟨es, e, _⟩ => ⟨es, e⟩)
  have hk' : ∀ l, Maps.has (D.put (.int .i64 x) (.held v)) l = true → ∃ y ∈ ids, l = .int .i64 y := fun l hl => by
    by_cases e : l = .int .i64 x
    · exact ⟨x, hm, e⟩
    · rw [has_put_other e] at hl; exact hk l hl
  refine ⟨w', hrun, ⟨_, ownsMap_bound' ho hk', hk', fun y => ?_⟩, hg⟩
  by_cases e : y = x
  · subst e
    rw [updV_self]
    exact ⟨has_put_same hmap hkl _, fun z => atKey_put_same hmap hkl _ _⟩
  · rw [updV_other f _ e]
    have hne : (Lit.int .i64 y) ≠ .int .i64 x := fun e' => e (Lit.int.inj e').2
    have := hat y
    cases hf : f y with
    | none => rw [hf] at this; show Maps.has _ _ = false; rw [has_put_other hne]; exact this
    | some u => rw [hf] at this; exact ⟨by rw [has_put_other hne]; exact this.1, fun z => by rw [atKey_put_other hne]; exact this.2 z⟩

theorem vmap_del (h : VMap w ids mb f) (ht : Tryz.prog.underlying t = some (.map 2 e)) {x : Int} (hx : In64 x) (ty : TypeId) :
    ∃ w', (Builtin.delete_ #[t, 2] ty #[.map (some mb), .int .i64 x]).run Tryz.prog w = .ok (.tuple #[]) w' ∧ VMap w' ids mb (updV f x none) ∧ w.grownBy w' (some mb) := by
  obtain ⟨D, hown, hk, hat⟩ := h
  obtain ⟨w', hrun, ho, hg⟩ := hown.drop keyed64 ht (Maps.keyOf_int_mk Tryz.underlying2 hx) ty
  have hk' : ∀ l, Maps.has (D.del (.int .i64 x)) l = true → ∃ y ∈ ids, l = .int .i64 y := fun l hl => by
    by_cases e : l = .int .i64 x
    · subst e; rw [has_del_same] at hl; cases hl
    · rw [has_del_other e] at hl; exact hk l hl
  refine ⟨w', hrun, ⟨_, ho, hk', fun y => ?_⟩, hg.grown⟩
  by_cases e : y = x
  · subst e
    rw [updV_self]
    exact has_del_same
  · rw [updV_other f _ e]
    have hne : (Lit.int .i64 y) ≠ .int .i64 x := fun e' => e (Lit.int.inj e').2
    have := hat y
    cases hf : f y with
    | none => rw [hf] at this; show Maps.has _ _ = false; rw [has_del_other hne]; exact this
    | some u => rw [hf] at this; exact ⟨by rw [has_del_other hne]; exact this.1, fun z => by rw [atKey_del_other hne]; exact this.2 z⟩
end
end Go.Proofs.YthpjmjohdliohaaGreat

namespace Go.Proofs.YthpjmjohdliohaaGreat
open Go.RowKit

def GRows {α : Type} (w : World) (e : TypeId) (enc : α → Value) (B : Nat) (vs : List Value) (l : List (List α)) : Prop :=
  vs.length = l.length ∧ ∀ (k : Nat) (v : Value) (c : List α), vs[k]? = some v → l[k]? = some c → w.ownsRow B e 1 v c.length (c.map enc)

section
variable {α : Type} {w w' : World} {e : TypeId} {enc : α → Value} {B : Nat} {vs : List Value} {l : List (List α)}

theorem GRows.nil (w : World) (e : TypeId) (enc : α → Value) (B : Nat) : GRows w e enc B [] [] := ⟨rfl, fun k v c hv => by simp at hv⟩
theorem GRows.lt (h : GRows w e enc B vs l) : ∀ j ∈ blks vs, B ≤ j ∧ j < w.heap.size := by
  intro j hj
  obtain ⟨v, hv, hvj⟩ := List.mem_filterMap.1 hj
  obtain ⟨k, hk, rfl⟩ := List.mem_iff_getElem.1 hv
  have hl : k < l.length := by rw [← h.1]; exact hk
  exact (h.2 k _ _ (List.getElem?_eq_getElem hk) (List.getElem?_eq_getElem hl)).lt j hvj
theorem GRows.same (h : GRows w e enc B vs l) (hs : ∀ j ∈ blks vs, w'.heap[j]? = w.heap[j]?) : GRows w' e enc B vs l :=
  ⟨h.1, fun k v c hv hc => owns_same (h.2 k v c hv hc) fun j hj => hs j (blks_mem hv hj)⟩
theorem GRows.below (h : GRows w e enc B vs l) (hb : Below w.heap.size w w') : GRows w' e enc B vs l := h.same fun j hj => hb.block j (h.lt j hj).2
theorem GRows.more {v : Value} {c : List α} (h : GRows w e enc B vs l) (hv : w.ownsRow B e 1 v c.length (c.map enc)) : GRows w e enc B (vs ++ [v]) (l ++ [c]) := by
  refine ⟨by simp [h.1], fun k v' c' hv' hc' => ?_⟩
  rcases Nat.lt_or_ge k vs.length with hk | hk
  · rw [List.getElem?_append_left hk] at hv'
    rw [List.getElem?_append_left (by rw [← h.1]; exact hk)] at hc'
    exact h.2 k v' c' hv' hc'
  · rw [List.getElem?_append_right hk] at hv'
    rw [List.getElem?_append_right (by rw [← h.1]; exact hk), ← h.1] at hc'
    rcases hj : k - vs.length with _ | m
    · rw [hj] at hv' hc'
      simp at hv' hc'
      subst hv'; subst hc'
      exact hv
    · rw [hj] at hv'; simp at hv'

/-- A cell of one row set. -/
theorem GRows.put {k j g n cap : Nat} (h : GRows w e enc B vs l) (hnd : (blks vs).Nodup) (hv : vs[k]? = some (.slice (some ⟨g, 0, none⟩) n cap)) (x : α) : GRows (w.setCell ⟨g, j, none⟩ (enc x)) e enc B vs (l.modify k fun c => c.set j x) := by
  refine ⟨by rw [List.length_modify]; exact h.1, fun i u d hu hd => ?_⟩
  rw [List.getElem?_modify] at hd
  by_cases hik : k = i
  · subst hik
    rw [hv] at hu
    injection hu with hu
    subst hu
    cases hl0 : l[k]? with
    | none => rw [hl0] at hd; simp at hd
    | some c =>
      rw [hl0] at hd
      simp at hd
      subst hd
      have h0 := h.2 k _ _ hv hl0
      have hn : n = c.length := by
        obtain ⟨_, _, e, _⟩ := owns_cells h0
        injection e
      subst hn
      rw [List.length_set, List.map_set]
      exact owns_set h0 (enc x)
  · have hd2 : l[i]? = some d := by
      cases hl0 : l[i]? with
      | none => rw [hl0] at hd; simp at hd
      | some l0 => rw [hl0] at hd; simp [hik] at hd; rw [hd]
    refine owns_same (h.2 i u d hu hd2) fun q hq => ?_
    refine Below.heap_setCell _ _ _ _ fun e' => ?_
    subst e'
    exact hik (blks_apart hnd hv hu rfl hq)

theorem GRows.at_ (h : GRows w e enc B vs l) {i : Nat} (hi : i < l.length) (hn : 0 < l[i].length) :
    ∃ g c, vs[i]? = some (.slice (some ⟨g, 0, none⟩) l[i].length c) ∧ B ≤ g ∧ g < w.heap.size ∧ ∀ j (hj : j < l[i].length), w.cell? ⟨g, j, none⟩ = some (enc l[i][j]) ∧ w.frozen? ⟨g, j, none⟩ = false := by
  have hv : vs[i]? = some (vs[i]'(by rw [h.1]; exact hi)) := List.getElem?_eq_getElem _
  have h0 := h.2 i _ _ hv (List.getElem?_eq_getElem hi)
  obtain ⟨a, c, e', _⟩ := owns_cells h0
  rw [e'] at hv h0
  obtain ⟨g, rfl, h1, h2, _⟩ := owns_at h0 hn
  exact ⟨g, c, hv, h1, h2, fun j hj => ⟨owns_cell h0 (by rw [List.getElem?_map, List.getElem?_eq_getElem hj]; rfl), owns_free h0 j⟩⟩
end

theorem blks_snoc (vs : List Value) (v : Value) : blks (vs ++ [v]) = blks vs ++ v.ownBlock.toList := by
  unfold blks; rw [List.filterMap_append]; congr 1
end Go.Proofs.YthpjmjohdliohaaGreat

namespace Go.Proofs.YthpjmjohdliohaaGreat

/-- How many of the neighbours of x are in S; how many are not in L. -/
def degIn (s : Int → List Int) (S : List Int) (x : Int) : Nat := ((s x).filter fun y => decide (y ∈ S)).length
def degOut (s : Int → List Int) (L : List Int) (x : Int) : Nat := ((s x).filter fun y => !decide (y ∈ L)).length

/-- What the ordering has come to: L is taken away, k is the greatest degree so far, c counts. -/
structure KInv (s : Int → List Int) (A L : List Int) (k : Nat) (c : List Nat) : Prop where
  nd : L.Nodup
  sub : ∀ x ∈ L, x ∈ A
  len : c.length = k + 1
  pos : (L = [] ∧ k = 0) ∨ 0 < c.getD k 0
  sum : c.sum = L.length
  inn : ∀ t, t ≤ k + 1 → ∀ S : List Int, (∀ x ∈ S, x ∈ A ∧ t ≤ degIn s S x) → ∀ x ∈ S, x ∉ L.take (c.take t).sum
  out : ∀ t, t ≤ k + 1 → (c.take t).sum < L.length → ∀ x ∈ A, x ∉ L.take (c.take t).sum → t ≤ degOut s (L.take (c.take t).sum) x

theorem KInv.start (s : Int → List Int) (A : List Int) : KInv s A [] 0 [0] :=
  ⟨List.nodup_nil, by simp, rfl, .inl ⟨rfl, rfl⟩, rfl, fun t _ S _ x _ => by simp, fun t _ h => by simp at h⟩

/-- The counts behind a step. -/
def kLong (c : List Nat) (k i : Nat) : List Nat := c ++ List.replicate (i - k) 0
def kStep (c : List Nat) (k i : Nat) : List Nat := (kLong c k i).set (max k i) ((kLong c k i).getD (max k i) 0 + 1)

theorem sum_set (l : List Nat) (j : Nat) (h : j < l.length) : (l.set j (l.getD j 0 + 1)).sum = l.sum + 1 := by
  induction l generalizing j with
  | nil => simp at h
  | cons a l ih =>
    cases j with
    | zero => simp; omega
    | succ j =>
      have := ih j (by simpa using h)
      simp at this ⊢
      omega

theorem sum_take_le (l : List Nat) (t : Nat) : (l.take t).sum ≤ l.sum := by
  conv => rhs; rw [← List.take_append_drop t l, List.sum_append]
  omega

section
variable {s : Int → List Int} {A L : List Int} {k i : Nat} {c : List Nat}

theorem kLong_len (h : c.length = k + 1) : (kLong c k i).length = max k i + 1 := by unfold kLong; simp [h]; omega
theorem kLong_take {t : Nat} (h : c.length = k + 1) (ht : t ≤ k + 1) : (kLong c k i).take t = c.take t := by
  unfold kLong
  rw [List.take_append_of_le_length (by omega)]
theorem kLong_sum {t : Nat} (h : c.length = k + 1) (ht : k + 1 ≤ t) : ((kLong c k i).take t).sum = c.sum := by
  unfold kLong
  rw [List.take_append, List.take_of_length_le (by omega), List.sum_append, List.take_replicate, List.sum_replicate_nat]
  simp
theorem kStep_take {t : Nat} (ht : t ≤ max k i) : (kStep c k i).take t = (kLong c k i).take t := by
  unfold kStep
  rw [List.take_set, List.set_eq_of_length_le (by rw [List.length_take]; omega)]

theorem degOut_mono {L' : List Int} (h : ∀ x ∈ L, x ∈ L') (x : Int) : degOut s L' x ≤ degOut s L x := by
  unfold degOut
  refine List.Sublist.length_le ?_
  have : (s x).filter (fun y => !decide (y ∈ L')) = ((s x).filter fun y => !decide (y ∈ L)).filter fun y => !decide (y ∈ L') := by
    rw [List.filter_filter]
    refine List.filter_congr fun y _ => ?_
    by_cases h1 : y ∈ L'
    · simp [h1]
    · have : y ∉ L := fun h2 => h1 (h y h2)
      simp [h1, this]
  rw [this]
  exact List.filter_sublist

theorem degIn_le {S : List Int} (h : ∀ x ∈ S, x ∉ L) (x : Int) : degIn s S x ≤ degOut s L x := by
  unfold degIn degOut
  refine List.Sublist.length_le ?_
  have : (s x).filter (fun y => decide (y ∈ S)) = ((s x).filter fun y => !decide (y ∈ L)).filter fun y => decide (y ∈ S) := by
    rw [List.filter_filter]
    refine List.filter_congr fun y _ => ?_
    by_cases h1 : y ∈ S
    · simp [h1, h y h1]
    · simp [h1]
  rw [this]
  exact List.filter_sublist

/-- One node more is taken away: one of the least degree. -/
theorem KInv.step (h : KInv s A L k c) {v : Int} (hv : v ∈ A) (hvL : v ∉ L) (hi : i = degOut s L v) (hmin : ∀ x ∈ A, x ∉ L → i ≤ degOut s L x) : KInv s A (L ++ [v]) (max k i) (kStep c k i) := by
  have hlen := h.len
  have hll := kLong_len (i := i) hlen
  have hsum := h.sum
  -- the sums of the beginnings
  have hs1 : ∀ t, t ≤ k + 1 → t ≤ max k i → ((kStep c k i).take t).sum = (c.take t).sum := fun t h1 h2 => by rw [kStep_take h2, kLong_take hlen h1]
  have hs2 : ∀ t, k + 1 ≤ t → t ≤ max k i → ((kStep c k i).take t).sum = L.length := fun t h1 h2 => by rw [kStep_take h2, kLong_sum hlen h1, hsum]
  have hs3 : (kStep c k i).sum = L.length + 1 := by
    unfold kStep
    rw [sum_set _ _ (by omega), ← hsum]
    have := kLong_sum (i := i) (t := (kLong c k i).length) hlen (by omega)
    rw [List.take_length] at this
    omega
  have hs4 : ∀ t, t = max k i + 1 → ((kStep c k i).take t).sum = L.length + 1 := fun t ht => by
    rw [List.take_of_length_le (by unfold kStep; rw [List.length_set]; omega)]
    exact hs3
  have hfull : c.take (k + 1) = c := List.take_of_length_le (by omega)
  -- no set of a degree above k touches L
  have hkey : ∀ t, k + 1 ≤ t → ∀ S : List Int, (∀ x ∈ S, x ∈ A ∧ t ≤ degIn s S x) → ∀ x ∈ S, x ∉ L := fun t ht S hS x hx => by
    have := h.inn (k + 1) (Nat.le_refl _) S (fun y hy => ⟨(hS y hy).1, Nat.le_trans ht (hS y hy).2⟩) x hx
    rwa [hfull, hsum, List.take_length] at this
  refine ⟨?_, ?_, ?_, ?_, ?_, ?_, ?_⟩
  · rw [List.nodup_append]
    exact ⟨h.nd, by simp, fun a ha b hb e => by rw [List.mem_singleton] at hb; subst hb; subst e; exact hvL ha⟩
  · intro x hx
    rcases List.mem_append.1 hx with hx | hx
    · exact h.sub x hx
    · rw [List.mem_singleton.1 hx]; exact hv
  · unfold kStep; rw [List.length_set]; exact hll
  · right
    unfold kStep
    rw [List.getD_eq_getElem?_getD, List.getElem?_set_self (by omega)]
    simp
  · rw [hs3, List.length_append]; rfl
  · intro t ht S hS x hx
    rcases Nat.lt_or_ge (max k i) t with h1 | h1
    · have ht' : t = max k i + 1 := by omega
      rw [hs4 t ht', List.take_of_length_le (by simp)]
      intro hm
      rcases List.mem_append.1 hm with hm | hm
      · exact hkey t (by omega) S hS x hx hm
      · have e := List.mem_singleton.1 hm
        subst e
        have h2 := degIn_le (s := s) (S := S) (L := L) (hkey t (by omega) S hS) x
        have h3 := (hS x hx).2
        omega
    · rcases Nat.le_total t (k + 1) with h2 | h2
      · rw [hs1 t h2 h1, List.take_append_of_le_length (by rw [← hsum]; exact sum_take_le c t)]
        exact h.inn t h2 S hS x hx
      · rw [hs2 t h2 h1, List.take_append_of_le_length (Nat.le_refl _), List.take_length]
        exact hkey t h2 S hS x hx
  · intro t ht hlt x hx hxn
    rcases Nat.lt_or_ge (max k i) t with h1 | h1
    · have ht' : t = max k i + 1 := by omega
      rw [hs4 t ht', List.length_append] at hlt
      simp at hlt
    · rcases Nat.le_total t (k + 1) with h2 | h2
      · have hle : (c.take t).sum ≤ L.length := by rw [← hsum]; exact sum_take_le c t
        rw [hs1 t h2 h1, List.take_append_of_le_length hle] at hxn ⊢
        rcases Nat.lt_or_ge (c.take t).sum L.length with h3 | h3
        · exact h.out t h2 h3 x hx hxn
        · have h4 : L.take (c.take t).sum = L := List.take_of_length_le h3
          rw [h4] at hxn ⊢
          have h5 := hmin x hx hxn
          rcases Nat.lt_or_ge i t with h6 | h6
          · -- then t ≤ k, and the last node was counted at k
            rcases h.pos with ⟨h7, h8⟩ | h7
            · omega
            · exfalso
              have h8 : t ≤ k := by omega
              have e1 : (c.take t).sum ≤ (c.take k).sum := by
                have := sum_take_le (c.take k) t
                rwa [List.take_take, Nat.min_eq_left h8] at this
              have e2 : (c.take (k + 1)).sum = (c.take k).sum + c.getD k 0 := by
                rw [List.take_succ_eq_append_getElem (by omega), List.sum_append, List.getD_eq_getElem?_getD, List.getElem?_eq_getElem (by omega)]
                simp
              rw [hfull, hsum] at e2
              omega
          · omega
      · have hlt' := hlt
        rw [hs2 t h2 h1, List.take_append_of_le_length (Nat.le_refl _), List.take_length] at hxn ⊢
        have h5 := hmin x hx hxn
        have h6 : t ≤ max k i := h1
        rcases Nat.eq_or_lt_of_le h2 with h7 | h7 <;> omega
end

/-- The cores of a graph all of whose nodes are taken away. -/
theorem KInv.core {s : Int → List Int} {A L : List Int} {k t : Nat} {c : List Nat} (h : KInv s A L k c) (hall : ∀ x ∈ A, x ∈ L) (hs : ∀ x ∈ A, ∀ y ∈ s x, y ∈ A) (ht : t ≤ k + 1) :
    (∀ x ∈ L.drop (c.take t).sum, t ≤ degIn s (L.drop (c.take t).sum) x) ∧ (∀ S : List Int, (∀ x ∈ S, x ∈ A ∧ t ≤ degIn s S x) → ∀ x ∈ S, x ∈ L.drop (c.take t).sum) := by
  generalize hm : (c.take t).sum = m
  have hsplit : ∀ y ∈ A, (y ∈ L.drop m ↔ y ∉ L.take m) := fun y hy => by
    have h1 := hall y hy
    have h2 := h.nd
    rw [← List.take_append_drop m L] at h1 h2
    rw [List.nodup_append] at h2
    rcases List.mem_append.1 h1 with h3 | h3
    · exact ⟨fun h4 => absurd rfl (h2.2.2 y h3 y h4), fun h4 => absurd h3 h4⟩
    · exact ⟨fun h4 h5 => h2.2.2 y h5 y h4 rfl, fun _ => h3⟩
  refine ⟨fun x hx => ?_, fun S hS x hx => ?_⟩
  · have hxA := h.sub x (List.mem_of_mem_drop hx)
    have hlt : m < L.length := by
      rcases Nat.lt_or_ge m L.length with h1 | h1
      · exact h1
      · rw [List.drop_eq_nil_of_le h1] at hx; cases hx
    have h2 := h.out t ht (by omega) x hxA (by rw [hm]; exact (hsplit x hxA).1 hx)
    rw [hm] at h2
    have h3 : degIn s (L.drop m) x = degOut s (L.take m) x := by
      unfold degIn degOut
      congr 1
      refine List.filter_congr fun y hy => ?_
      have := hsplit y (hs x hxA y hy)
      by_cases h4 : y ∈ L.drop m
      · simp [h4, this.1 h4]
      · have h5 : y ∈ L.take m := Classical.byContradiction fun h5 => h4 (this.2 h5)
        simp [h4, h5]
    omega
  · have h2 := h.inn t ht S hS x hx
    rw [hm] at h2
    exact (hsplit x (hS x hx).1).2 h2

theorem KInv.top {s : Int → List Int} {A L : List Int} {k t : Nat} {c : List Nat} (h : KInv s A L k c) (hall : ∀ x ∈ A, x ∈ L) {S : List Int} (hne : S ≠ []) (hS : ∀ x ∈ S, x ∈ A ∧ t ≤ degIn s S x) : t ≤ k := by
  rcases Nat.lt_or_ge k t with h1 | h1
  · exfalso
    obtain ⟨x, hx⟩ := List.exists_mem_of_ne_nil S hne
    have h2 := h.inn (k + 1) (Nat.le_refl _) S (fun y hy => ⟨(hS y hy).1, Nat.le_trans h1 (hS y hy).2⟩) x hx
    have e : c.take (k + 1) = c := List.take_of_length_le (by rw [h.len]; omega)
    rw [e, h.sum, List.take_length] at h2
    exact h2 (hall x (hS x hx).1)
  · exact h1
end Go.Proofs.YthpjmjohdliohaaGreat

namespace Go.Proofs.YthpjmjohdliohaaGreat
open Go.RowKit

theorem blks_nodup {vs : List Value} (h : ∀ (i j : Nat) (u v : Value) (a : Nat), vs[i]? = some u → vs[j]? = some v → u.ownBlock = some a → v.ownBlock = some a → i = j) : (blks vs).Nodup := by
  induction vs with
  | nil => exact List.nodup_nil
  | cons x vs ih =>
    have hnd := ih fun i j u v a h1 h2 h3 h4 => by
      have := h (i + 1) (j + 1) u v a (by rw [List.getElem?_cons_succ]; exact h1) (by rw [List.getElem?_cons_succ]; exact h2) h3 h4
      omega
    unfold blks at hnd ⊢
    rw [List.filterMap_cons]
    cases hx : x.ownBlock with
    | none => exact hnd
    | some a =>
      refine List.nodup_cons.2 ⟨fun hm => ?_, hnd⟩
      obtain ⟨v, hv, hva⟩ := List.mem_filterMap.1 hm
      obtain ⟨k, hk, rfl⟩ := List.mem_iff_getElem.1 hv
      have := h 0 (k + 1) x _ a (List.getElem?_cons_zero) (by rw [List.getElem?_cons_succ]; exact List.getElem?_eq_getElem hk) hx hva
      omega

theorem blks_at {vs : List Value} {j : Nat} (h : j ∈ blks vs) : ∃ (k : Nat) (v : Value), vs[k]? = some v ∧ v.ownBlock = some j := by
  obtain ⟨v, hv, hvj⟩ := List.mem_filterMap.1 h
  obtain ⟨k, hk, rfl⟩ := List.mem_iff_getElem.1 hv
  exact ⟨k, _, List.getElem?_eq_getElem hk, hvj⟩

theorem owns_shrink {w : World} {base e n c : Nat} {a : Option Addr} {xs : List Value} {x : Value} (h : w.ownsRow base e 1 (.slice a (n + 1) c) (n + 1) (xs ++ [x])) : w.ownsRow base e 1 (.slice a n c) n xs := by
  obtain ⟨hl, h | ⟨g, cap, cur, hv, hg, hh, hn, hm, hs, ht⟩⟩ := h
  · have := h.2; omega
  · injection hv with h1 h2 h3
    subst h1; subst h3
    have hxl : xs.length = n := by rw [List.length_append] at hl; simp at hl; omega
    refine ⟨by omega, .inr ⟨g, c, cur, rfl, hg, hh, by omega, hm, hs, ?_⟩⟩
    have := congrArg (List.take n) ht
    rw [List.take_take, Nat.min_eq_left (by omega), List.take_left' hxl] at this
    rw [Nat.mul_one]
    exact this

theorem grown_alloc {w w' : World} {o : Obj} {r : Option Nat} (h : (w.alloc o).grownBy w' r) : w.grownBy w' r :=
  ⟨h.os, h.tape, h.output, by have := h.size; simp at this; omega, fun j hj hn => by rw [h.block j (by simp; omega) hn, Below.heap_alloc _ _ _ hj]⟩
theorem grown_below {w w1 w' : World} {r : Option Nat} (hb : Below w.heap.size w w1) (h : w1.grownBy w' r) : w.grownBy w' r :=
  ⟨h.os.trans hb.os, h.tape.trans hb.tape, h.output.trans hb.output, Nat.le_trans hb.size h.size, fun j hj hn => (h.block j (Nat.lt_of_lt_of_le hj hb.size) hn).trans (hb.block j hj)⟩

/-- The degrees' map dmb, the lists by degrees (block db), what is taken away, what counts. -/
structure KD (w1 w : World) (ids : List Int) (dmb db m : Nat) (f : Int → Option Value) (vs : List Value) (Dl : List (List Int)) (lv sv : Value) (L : List Int) (c : List Nat) : Prop where
  fr : w1.grownBy w (some dmb)
  lt : dmb < w1.heap.size
  map : VMap w ids dmb f
  d : w.ownsRow w1.heap.size 50 1 (.slice (some ⟨db, 0, none⟩) m m) m vs
  rows : GRows w 85 nodev w1.heap.size vs Dl
  nd : (blks vs).Nodup
  dv : db ∉ blks vs
  l : w.ownsRow w1.heap.size 85 1 lv L.length (nodes L)
  s : w.ownsRow w1.heap.size 3 1 sv c.length (ints (c.map fun (n : Nat) => (n : Int)))
  ls : ∀ j, lv.ownBlock = some j → sv.ownBlock ≠ some j ∧ j ≠ db ∧ j ∉ blks vs
  sd : ∀ j, sv.ownBlock = some j → j ≠ db ∧ j ∉ blks vs

section
variable {w1 w w' : World} {ids : List Int} {dmb db m : Nat} {f : Int → Option Value} {vs : List Value} {Dl : List (List Int)} {lv sv : Value} {L : List Int} {c : List Nat}

/-- What is grown leaves all but the one block. -/
theorem KD.fr' (h : KD w1 w ids dmb db m f vs Dl lv sv L c) {r : Option Nat} (hg : w.grownBy w' r) (hr : ∀ j, r = some j → j = dmb ∨ w1.heap.size ≤ j) : w1.grownBy w' (some dmb) := by
  have hf := h.fr
  have hs := hf.size
  refine ⟨hg.os.trans hf.os, hg.tape.trans hf.tape, hg.output.trans hf.output, Nat.le_trans hf.size hg.size, fun j hj hn => ?_⟩
  rw [hg.block j (by omega) (fun e => by
    rcases hr j e.symm with e' | e'
    · exact hn (by rw [e'])
    · omega), hf.block j hj hn]

theorem KD.dlt (h : KD w1 w ids dmb db m f vs Dl lv sv L c) : w1.heap.size ≤ db ∧ db < w.heap.size := h.d.lt db rfl

theorem KD.map' (h : KD w1 w ids dmb db m f vs Dl lv sv L c) {f' : Int → Option Value} (hg : w.grownBy w' (some dmb)) (hm : VMap w' ids dmb f') : KD w1 w' ids dmb db m f' vs Dl lv sv L c := by
  have hlt := h.lt
  have hk : ∀ j, w1.heap.size ≤ j → j < w.heap.size → w'.heap[j]? = w.heap[j]? := fun j h1 h2 => hg.block j h2 (fun e => by injection e with e; omega)
  exact ⟨h.fr' hg fun j e => by injection e with e; exact .inl e.symm, hlt, hm, owns_same h.d fun j hj => hk j (h.d.lt j hj).1 (h.d.lt j hj).2, h.rows.same fun j hj => hk j (h.rows.lt j hj).1 (h.rows.lt j hj).2, h.nd, h.dv,
    owns_same h.l fun j hj => hk j (h.l.lt j hj).1 (h.l.lt j hj).2, owns_same h.s fun j hj => hk j (h.s.lt j hj).1 (h.s.lt j hj).2, h.ls, h.sd⟩

theorem KD.below (h : KD w1 w ids dmb db m f vs Dl lv sv L c) (hb : Below w.heap.size w w') : KD w1 w' ids dmb db m f vs Dl lv sv L c :=
  h.map' (grown_below (w1 := w') (r := some dmb) hb (World.grownBy.refl _ _)) (h.map.same (hb.block _ h.map.lt))

theorem KD.lPut (h : KD w1 w ids dmb db m f vs Dl lv sv L c) {lv' : Value} {L' : List Int} (hg : w.grownBy w' lv.ownBlock) (own : w'.ownsRow w1.heap.size 85 1 lv' L'.length (nodes L')) (hat : ∀ j, lv'.ownBlock = some j → lv.ownBlock = some j ∨ w.heap.size ≤ j) :
    KD w1 w' ids dmb db m f vs Dl lv' sv L' c := by
  have hlt := h.lt
  have hk : ∀ j, j < w.heap.size → lv.ownBlock ≠ some j → w'.heap[j]? = w.heap[j]? := fun j h1 h2 => hg.block j h1 (fun e => h2 e.symm)
  have hs := h.fr.size
  refine ⟨h.fr' hg fun j e => .inr (h.l.lt j e).1, hlt, h.map.same (hk _ h.map.lt fun e => by have := (h.l.lt _ e).1; omega), owns_same h.d fun j hj => hk j (h.d.lt j hj).2 fun e => ?_, h.rows.same fun j hj => hk j (h.rows.lt j hj).2 fun e => (h.ls j e).2.2 hj, h.nd, h.dv, own, owns_same h.s fun j hj => hk j (h.s.lt j hj).2 fun e => (h.ls j e).1 hj, fun j hj => ?_, h.sd⟩
  · have e2 : db = j := by injection hj
    exact (h.ls j e).2.1 e2.symm
  · rcases hat j hj with e | e
    · exact h.ls j e
    · have hdl := h.dlt
      exact ⟨fun e2 => by have := (h.s.lt j e2).2; omega, by omega, fun e2 => by have := (h.rows.lt j e2).2; omega⟩

theorem KD.sPut (h : KD w1 w ids dmb db m f vs Dl lv sv L c) {sv' : Value} {c' : List Nat} (hg : w.grownBy w' sv.ownBlock) (own : w'.ownsRow w1.heap.size 3 1 sv' c'.length (ints (c'.map fun (n : Nat) => (n : Int)))) (hat : ∀ j, sv'.ownBlock = some j → sv.ownBlock = some j ∨ w.heap.size ≤ j) :
    KD w1 w' ids dmb db m f vs Dl lv sv' L c' := by
  have hlt := h.lt
  have hk : ∀ j, j < w.heap.size → sv.ownBlock ≠ some j → w'.heap[j]? = w.heap[j]? := fun j h1 h2 => hg.block j h1 (fun e => h2 e.symm)
  have hs := h.fr.size
  refine ⟨h.fr' hg fun j e => .inr (h.s.lt j e).1, hlt, h.map.same (hk _ h.map.lt fun e => by have := (h.s.lt _ e).1; omega), owns_same h.d fun j hj => hk j (h.d.lt j hj).2 fun e => ?_, h.rows.same fun j hj => hk j (h.rows.lt j hj).2 fun e => (h.sd j e).2 hj, h.nd, h.dv, owns_same h.l fun j hj => hk j (h.l.lt j hj).2 fun e => (h.ls j hj).1 e, own, fun j hj => ⟨fun e => ?_, (h.ls j hj).2⟩, fun j hj => ?_⟩
  · have e2 : db = j := by injection hj
    exact (h.sd j e).1 e2.symm
  · rcases hat j e with e2 | e2
    · exact (h.ls j hj).1 e2
    · have := (h.l.lt j hj).2; omega
  · rcases hat j hj with e | e
    · exact h.sd j e
    · have hdl := h.dlt
      exact ⟨by omega, fun e2 => by have := (h.rows.lt j e2).2; omega⟩

/-- One of the lists, and what d says of it. -/
theorem KD.rowPut (h : KD w1 w ids dmb db m f vs Dl lv sv L c) {i : Nat} {v v' : Value} {r' : List Int} (hv : vs[i]? = some v) (hg : w.grownBy w' v.ownBlock) (own : w'.ownsRow w1.heap.size 85 1 v' r'.length (nodes r')) (hat : ∀ j, v'.ownBlock = some j → v.ownBlock = some j ∨ w.heap.size ≤ j) :
    KD w1 (w'.setCell ⟨db, i, none⟩ v') ids dmb db m f (vs.set i v') (Dl.set i r') lv sv L c := by
  have hlt := h.lt
  have hdl := h.dlt
  have hs := h.fr.size
  have hgs := hg.size
  have hvb : ∀ j, v.ownBlock = some j → j ∈ blks vs := fun j hj => blks_mem hv hj
  have hk : ∀ j, j < w.heap.size → v.ownBlock ≠ some j → j ≠ db → (w'.setCell ⟨db, i, none⟩ v').heap[j]? = w.heap[j]? := fun j h1 h2 h3 => by
    rw [Below.heap_setCell _ _ _ _ h3, hg.block j h1 (fun e => h2 e.symm)]
  have hset : ∀ j, j ≠ db → (w'.setCell ⟨db, i, none⟩ v').heap[j]? = w'.heap[j]? := fun j hj => Below.heap_setCell _ _ _ _ hj
  have hvdb : v.ownBlock ≠ some db := fun e => h.dv (hvb _ e)
  have hil : i < vs.length := (List.getElem?_eq_some_iff.1 hv).1
  have hset2 : ∀ (k : Nat) (u : Value), (vs.set i v')[k]? = some u → (k = i ∧ u = v') ∨ (k ≠ i ∧ vs[k]? = some u) := fun k u hu => by
    by_cases e : k = i
    · subst e
      rw [List.getElem?_set_self hil] at hu
      injection hu with hu
      exact .inl ⟨rfl, hu.symm⟩
    · rw [List.getElem?_set_ne (fun e2 => e e2.symm)] at hu
      exact .inr ⟨e, hu⟩
  have hblk : ∀ j, j ∈ blks (vs.set i v') → j ∈ blks vs ∨ w.heap.size ≤ j := fun j hj => by
    obtain ⟨k, u, hu, huj⟩ := blks_at hj
    rcases hset2 k u hu with ⟨rfl, rfl⟩ | ⟨_, hu2⟩
    · rcases hat j huj with e | e
      · exact .inl (hvb j e)
      · exact .inr e
    · exact .inl (blks_mem hu2 huj)
  refine ⟨⟨(hg.os.trans h.fr.os), (hg.tape.trans h.fr.tape), (hg.output.trans h.fr.output), by rw [size_setCell]; omega, fun j hj hn => ?_⟩, hlt, h.map.same (hk _ h.map.lt (fun e => by have := (h.rows.lt _ (hvb _ e)).1; omega) (by omega)), ?_, ⟨by rw [List.length_set, List.length_set]; exact h.rows.1, fun k u r hu hr => ?_⟩, ?_, ?_, owns_same h.l fun j hj => hk j (h.l.lt j hj).2 (fun e => (h.ls j hj).2.2 (hvb j e)) (h.ls j hj).2.1, owns_same h.s fun j hj => hk j (h.s.lt j hj).2 (fun e => (h.sd j hj).2 (hvb j e)) (h.sd j hj).1, fun j hj => ⟨(h.ls j hj).1, (h.ls j hj).2.1, fun e => ?_⟩, fun j hj => ⟨(h.sd j hj).1, fun e => ?_⟩⟩
  · rw [hk j (by omega) (fun e => by have := (h.rows.lt _ (hvb _ e)).1; omega) (by omega), h.fr.block j hj hn]
  · have hd' : w'.ownsRow w1.heap.size 50 1 (.slice (some ⟨db, 0, none⟩) m m) m vs := owns_same h.d fun j hj => by
      have e2 : db = j := by injection hj
      subst e2
      exact hg.block db hdl.2 (fun e => hvdb e.symm)
    exact owns_set hd' v'
  · rcases hset2 k u hu with ⟨rfl, rfl⟩ | ⟨hne, hu2⟩
    · rw [List.getElem?_set_self (by rw [← h.rows.1]; exact hil)] at hr
      injection hr with hr
      subst hr
      refine owns_same own fun j hj => hset j fun e => ?_
      rcases hat j hj with e2 | e2
      · exact h.dv (by rw [← e]; exact hvb j e2)
      · omega
    · rw [List.getElem?_set_ne (fun e2 => hne e2.symm)] at hr
      have h0 := h.rows.2 k u r hu2 hr
      refine owns_same h0 fun j hj => hk j (h0.lt j hj).2 (fun e => hne (blks_apart h.nd hu2 hv hj e)) fun e => h.dv (by rw [← e]; exact blks_mem hu2 hj)
  · refine blks_nodup fun p q u x a hp hq hu hx => ?_
    rcases hset2 p u hp with ⟨rfl, rfl⟩ | ⟨hp1, hp2⟩ <;> rcases hset2 q x hq with ⟨rfl, rfl⟩ | ⟨hq1, hq2⟩
    · rfl
    · exfalso
      rcases hat a hu with e | e
      · exact hq1 (blks_apart h.nd hq2 hv hx e)
      · have := (h.rows.lt a (blks_mem hq2 hx)).2; omega
    · exfalso
      rcases hat a hx with e | e
      · exact hp1 (blks_apart h.nd hp2 hv hu e)
      · have := (h.rows.lt a (blks_mem hp2 hu)).2; omega
    · exact blks_apart h.nd hp2 hq2 hu hx
  · intro hm
    rcases hblk db hm with e | e
    · exact h.dv e
    · omega
  · rcases hblk j e with e2 | e2
    · exact (h.ls j hj).2.2 e2
    · have := (h.l.lt j hj).2; omega
  · rcases hblk j e with e2 | e2
    · exact (h.sd j hj).2 e2
    · have := (h.s.lt j hj).2; omega
end
end Go.Proofs.YthpjmjohdliohaaGreat

namespace Go.Proofs.YthpjmjohdliohaaGreat

/-- The lists by degrees of what is left. -/
structure DOk (ids L : List Int) (g : Int → Nat) (m : Nat) (Dl : List (List Int)) : Prop where
  len : Dl.length = m
  nd : ∀ i, (Dl.getD i []).Nodup
  mem : ∀ i x, x ∈ Dl.getD i [] ↔ x ∈ ids ∧ x ∉ L ∧ g x = i

theorem getD_set {α : Type} (l : List α) (i j : Nat) (x d : α) (hi : i < l.length) : (l.set i x).getD j d = if j = i then x else l.getD j d := by
  rw [List.getD_eq_getElem?_getD, List.getD_eq_getElem?_getD]
  by_cases h : j = i
  · subst h; rw [List.getElem?_set_self hi, if_pos rfl]; rfl
  · rw [List.getElem?_set_ne (fun e => h e.symm), if_neg h]

theorem getD_lt {l : List (List Int)} {i : Nat} {x : Int} (h : x ∈ l.getD i []) : i < l.length := by
  rcases Nat.lt_or_ge i l.length with h1 | h1
  · exact h1
  · rw [List.getD_eq_getElem?_getD, List.getElem?_eq_none h1] at h; cases h

section
variable {ids L : List Int} {g : Int → Nat} {m : Nat} {Dl : List (List Int)}

/-- The last one of a list is taken away. -/
theorem DOk.pop (h : DOk ids L g m Dl) {i : Nat} {r : List Int} {v : Int} (hr : Dl.getD i [] = r ++ [v]) : DOk ids (L ++ [v]) g m (Dl.set i r) ∧ v ∈ ids ∧ v ∉ L ∧ g v = i := by
  have hv := (h.mem i v).1 (by rw [hr]; simp)
  have hi := getD_lt (l := Dl) (i := i) (x := v) (by rw [hr]; simp)
  have hnd := h.nd i
  rw [hr, List.nodup_append] at hnd
  refine ⟨⟨by rw [List.length_set]; exact h.len, fun j => ?_, fun j x => ?_⟩, hv.1, hv.2.1, hv.2.2⟩
  · rw [getD_set _ _ _ _ _ hi]
    split
    · exact hnd.1
    · exact h.nd j
  · rw [getD_set _ _ _ _ _ hi]
    split
    · rename_i e
      subst e
      have h1 := h.mem j x
      rw [hr, List.mem_append, List.mem_singleton] at h1
      rw [List.mem_append, List.mem_singleton]
      constructor
      · intro hx
        obtain ⟨h2, h3, h4⟩ := h1.1 (.inl hx)
        exact ⟨h2, fun e => by
          rcases e with e | e
          · exact h3 e
          · exact hnd.2.2 x hx v (by simp) e, h4⟩
      · rintro ⟨h2, h3, h4⟩
        rcases h1.2 ⟨h2, fun e => h3 (.inl e), h4⟩ with h5 | h5
        · exact h5
        · exact absurd (.inr h5) h3
    · rename_i hne
      rw [h.mem j x, List.mem_append, List.mem_singleton]
      constructor
      · rintro ⟨h2, h3, h4⟩
        exact ⟨h2, fun e => by
          rcases e with e | e
          · exact h3 e
          · subst e; exact hne (h4.symm.trans hv.2.2), h4⟩
      · rintro ⟨h2, h3, h4⟩
        exact ⟨h2, fun e => h3 (.inl e), h4⟩

/-- A list without the element at a place, the last one in its stead. -/
theorem swap_mem {r : List Int} {v w : Int} {q : Nat} (hnd : (r ++ [v]).Nodup) (hq : (r ++ [v])[q]? = some w) : (r.set q v).Nodup ∧ ∀ x, x ∈ r.set q v ↔ x ∈ r ++ [v] ∧ x ≠ w := by
  rw [List.nodup_append] at hnd
  rcases Nat.lt_or_ge q r.length with h1 | h1
  · rw [List.getElem?_append_left h1, List.getElem?_eq_getElem h1] at hq
    injection hq with hq
    have hsplit : r = r.take q ++ w :: r.drop (q + 1) := by
      have := List.take_append_drop q r
      rw [List.drop_eq_getElem_cons h1, hq] at this
      exact this.symm
    have hset : r.set q v = r.take q ++ v :: r.drop (q + 1) := List.set_eq_take_append_cons_drop .. |>.trans (by rw [if_pos h1])
    have hvr : v ∉ r := fun e => hnd.2.2 v e v (by simp) rfl
    have hn1 := hnd.1
    rw [hsplit, List.nodup_append, List.nodup_cons] at hn1
    have hv1 : v ∉ r.take q := fun e => hvr (List.mem_of_mem_take e)
    have hv2 : v ∉ r.drop (q + 1) := fun e => hvr (List.mem_of_mem_drop e)
    have hwv : w ≠ v := fun e => hvr (by rw [← e, ← hq]; exact List.getElem_mem h1)
    refine ⟨?_, fun x => ?_⟩
    · rw [hset, List.nodup_append, List.nodup_cons]
      exact ⟨hn1.1, ⟨hv2, hn1.2.1.2⟩, fun a ha b hb e => by
        subst e
        rcases List.mem_cons.1 hb with hb | hb
        · subst hb; exact hv1 ha
        · exact hn1.2.2 a ha a (List.mem_cons_of_mem _ hb) rfl⟩
    · rw [hset]
      conv => rhs; rw [hsplit]
      simp only [List.mem_append, List.mem_cons, List.not_mem_nil, or_false]
      constructor
      · rintro (h2 | h2 | h2)
        · exact ⟨.inl (.inl h2), fun e => hn1.2.2 x h2 w (by simp) e⟩
        · subst h2; exact ⟨.inr rfl, fun e => hwv e.symm⟩
        · exact ⟨.inl (.inr (.inr h2)), fun e => hn1.2.1.1 (by rw [← e]; exact h2)⟩
      · rintro ⟨(h2 | h2 | h2) | h2, h3⟩
        · exact .inl h2
        · exact absurd h2 h3
        · exact .inr (.inr h2)
        · exact .inr (.inl h2)
  · have hqe : q = r.length := by
      have := (List.getElem?_eq_some_iff.1 hq).1
      simp at this; omega
    subst hqe
    rw [List.getElem?_append_right (Nat.le_refl _), Nat.sub_self] at hq
    injection hq with hq
    have hq : v = w := hq
    subst hq
    rw [List.set_eq_of_length_le (Nat.le_refl _)]
    refine ⟨hnd.1, fun x => ?_⟩
    simp only [List.mem_append, List.mem_singleton]
    constructor
    · intro h2; exact ⟨.inl h2, fun e => hnd.2.2 x h2 v (by simp) e⟩
    · rintro ⟨h2 | h2, h3⟩
      · exact h2
      · exact absurd h2 h3

def updN (g : Int → Nat) (x : Int) (n : Nat) : Int → Nat := fun y => if y = x then n else g y

/-- A node goes over to the list of one degree less. -/
theorem DOk.move (h : DOk ids L g m Dl) {a q : Nat} {r : List Int} {v w : Int} (hw : w ∈ ids) (hwL : w ∉ L) (hg : g w = a + 1) (hr : Dl.getD (a + 1) [] = r ++ [v]) (hq : (r ++ [v])[q]? = some w) :
    DOk ids L (updN g w a) m ((Dl.set (a + 1) (r.set q v)).set a (((Dl.set (a + 1) (r.set q v)).getD a []) ++ [w])) := by
  have hi : a + 1 < Dl.length := getD_lt (x := v) (by rw [hr]; simp)
  have hnd := h.nd (a + 1)
  rw [hr] at hnd
  obtain ⟨h1, h2⟩ := swap_mem hnd hq
  have hga : (Dl.set (a + 1) (r.set q v)).getD a [] = Dl.getD a [] := by rw [getD_set _ _ _ _ _ hi, if_neg (by omega)]
  rw [hga]
  have hwa : w ∉ Dl.getD a [] := fun e => by have := ((h.mem a w).1 e).2.2; omega
  have hrow : ∀ j, ((Dl.set (a + 1) (r.set q v)).set a (Dl.getD a [] ++ [w])).getD j [] = if j = a then Dl.getD a [] ++ [w] else if j = a + 1 then r.set q v else Dl.getD j [] := fun j => by
    rw [getD_set _ _ _ _ _ (by rw [List.length_set]; omega), getD_set _ _ _ _ _ hi]
  refine ⟨by rw [List.length_set, List.length_set]; exact h.len, fun j => ?_, fun j x => ?_⟩
  · rw [hrow]
    split
    · rw [List.nodup_append]
      exact ⟨h.nd a, by simp, fun x hx y hy e => by rw [List.mem_singleton] at hy; subst hy; subst e; exact hwa hx⟩
    · split
      · exact h1
      · exact h.nd j
  · rw [hrow]
    unfold updN
    split
    · rename_i e
      subst e
      rw [List.mem_append, List.mem_singleton, h.mem j x]
      by_cases hx : x = w
      · subst hx
        rw [if_pos rfl]
        exact ⟨fun _ => ⟨hw, hwL, rfl⟩, fun _ => .inr rfl⟩
      · rw [if_neg hx]
        exact ⟨fun h3 => h3.elim id (fun e => absurd e hx), .inl⟩
    · rename_i hja
      split
      · rename_i e
        subst e
        rw [h2 x, ← hr, h.mem (a + 1) x]
        by_cases hx : x = w
        · subst hx
          rw [if_pos rfl]
          exact ⟨fun h3 => absurd rfl h3.2, fun h3 => by omega⟩
        · rw [if_neg hx]
          exact ⟨fun h3 => h3.1, fun h3 => ⟨h3, hx⟩⟩
      · rename_i hj1
        rw [h.mem j x]
        by_cases hx : x = w
        · subst hx
          rw [if_pos rfl]
          exact ⟨fun h3 => by omega, fun h3 => by omega⟩
        · rw [if_neg hx]
end
end Go.Proofs.YthpjmjohdliohaaGreat

namespace Go.Proofs.YthpjmjohdliohaaGreat
open Go.RowKit

/-- A cell of a table of Booleans set. -/
def setB (t : List (List Bool)) (i k : Nat) : List (List Bool) := t.modify i fun l => l.set k true
/-- A cell of a table of numbers set. -/
def setI (t : List (List Int)) (i k : Nat) (x : Int) : List (List Int) := t.modify i fun l => l.set k x

/-- An edge laid into the tables. -/
def layT (ids : List Int) (dir : Bool) (t : List (List Bool) × List (List Int)) (e : Int × Int × Int) : List (List Bool) × List (List Int) :=
  let i := posOf ids e.1
  let k := posOf ids e.2.1
  if dir then (setB t.1 i k, setI t.2 i k e.2.2) else (setB (setB t.1 i k) k i, setI (setI t.2 i k e.2.2) k i e.2.2)

def tableP (ids : List Int) (dir : Bool) (es : List (Int × Int × Int)) : List (List Bool) × List (List Int) :=
  es.foldl (layT ids dir) (List.replicate ids.length (List.replicate ids.length false), List.replicate ids.length (List.replicate ids.length 0))

theorem tableP_step (ids : List Int) (dir : Bool) (es : List (Int × Int × Int)) (k : Nat) (hk : k < es.length) : tableP ids dir (es.take (k + 1)) = layT ids dir (tableP ids dir (es.take k)) es[k] := by
  unfold tableP
  rw [List.take_succ_eq_append_getElem hk, List.foldl_append]; rfl

/-- A square table. -/
def Square {α : Type} (n : Nat) (t : List (List α)) : Prop := t.length = n ∧ ∀ l ∈ t, l.length = n

theorem square_modify {α : Type} {n : Nat} {t : List (List α)} (h : Square n t) (i k : Nat) (x : α) : Square n (t.modify i fun l => l.set k x) := by
  refine ⟨by rw [List.length_modify]; exact h.1, fun l hl => ?_⟩
  obtain ⟨j, hj, rfl⟩ := List.mem_iff_getElem.1 hl
  rw [List.length_modify] at hj
  rw [List.getElem_modify]
  split
  · rw [List.length_set]; exact h.2 _ (List.getElem_mem _)
  · exact h.2 _ (List.getElem_mem _)

/-- What a table says of two places. -/
def atB (t : List (List Bool)) (i k : Nat) : Bool := (t.getD i []).getD k false

theorem atB_set {n : Nat} {t : List (List Bool)} (h : Square n t) (i k a b : Nat) (ha : a < n) (hb : b < n) : atB (setB t i k) a b = (atB t a b || decide (i = a ∧ k = b)) := by
  have hat : a < t.length := by rw [h.1]; exact ha
  have hl : t[a].length = n := h.2 _ (List.getElem_mem hat)
  unfold atB setB
  rw [List.getD_eq_getElem?_getD (l := t.modify i _), List.getElem?_modify, List.getElem?_eq_getElem hat, List.getD_eq_getElem?_getD (l := t), List.getElem?_eq_getElem hat]
  by_cases hi : i = a
  · by_cases hk : k = b
    · subst hi; subst hk
      simp [hl, hb]
    · simp [hi, hk]
  · simp [hi]

structure TabOk (ids : List Int) (dir : Bool) (es : List (Int × Int × Int)) (t : List (List Bool) × List (List Int)) : Prop where
  s1 : Square ids.length t.1
  s2 : Square ids.length t.2
  at_ : ∀ (i k : Nat) (hi : i < ids.length) (hk : k < ids.length), atB t.1 i k = es.any fun e => decide (hits dir ids[i] ids[k] e)

theorem square_replicate {α : Type} (n : Nat) (x : α) : Square n (List.replicate n (List.replicate n x)) := by
  refine ⟨by simp, fun l hl => ?_⟩
  rw [List.mem_replicate] at hl
  rw [hl.2]; simp

theorem layT_at {ids : List Int} {dir : Bool} {t : List (List Bool) × List (List Int)} {e : Int × Int × Int} (hs : ids.Pairwise (· < ·)) (h1 : Square ids.length t.1) (hu : e.1 ∈ ids) (hv : e.2.1 ∈ ids) (i k : Nat) (hi : i < ids.length) (hk : k < ids.length) :
    atB (layT ids dir t e).1 i k = (atB t.1 i k || decide (hits dir ids[i] ids[k] e)) := by
  have a1 := posOf_iff hs hu hi
  have a2 := posOf_iff hs hv hk
  have a3 := posOf_iff hs hv hi
  have a4 := posOf_iff hs hu hk
  unfold layT hits
  cases dir
  · simp only [Bool.false_eq_true, if_false, true_and]
    rw [atB_set (t := setB t.1 (posOf ids e.1) (posOf ids e.2.1)) (square_modify h1 _ _ _) _ _ _ _ hi hk, atB_set h1 _ _ _ _ hi hk, Bool.or_assoc, ← Bool.decide_or]
    congr 1
    apply decide_eq_decide.2
    rw [a1, a2, a3, a4]
    constructor
    · rintro (⟨h, k⟩ | ⟨h, k⟩)
      · exact .inl ⟨h, k⟩
      · exact .inr ⟨k, h⟩
    · rintro (⟨h, k⟩ | ⟨h, k⟩)
      · exact .inl ⟨h, k⟩
      · exact .inr ⟨k, h⟩
  · simp only [if_true, Bool.true_eq_false, false_and, or_false]
    rw [atB_set h1 _ _ _ _ hi hk]
    congr 1
    apply decide_eq_decide.2
    rw [a1, a2]

theorem layT_square {n : Nat} {ids : List Int} {dir : Bool} {t : List (List Bool) × List (List Int)} {e : Int × Int × Int} (h1 : Square n t.1) (h2 : Square n t.2) : Square n (layT ids dir t e).1 ∧ Square n (layT ids dir t e).2 := by
  unfold layT
  cases dir
  · exact ⟨square_modify (square_modify h1 _ _ _) _ _ _, square_modify (square_modify h2 _ _ _) _ _ _⟩
  · exact ⟨square_modify h1 _ _ _, square_modify h2 _ _ _⟩

theorem tableP_ok (ids : List Int) (dir : Bool) (es : List (Int × Int × Int)) (hs : ids.Pairwise (· < ·)) (he : ∀ e ∈ es, e.1 ∈ ids ∧ e.2.1 ∈ ids) : ∀ k, k ≤ es.length → TabOk ids dir (es.take k) (tableP ids dir (es.take k)) := by
  intro k
  induction k with
  | zero =>
    intro _
    refine ⟨square_replicate _ _, square_replicate _ _, fun i k hi hk => ?_⟩
    simp [tableP, atB, hi, hk]
  | succ k ih =>
    intro hk
    have h := ih (by omega)
    have hlt : k < es.length := by omega
    obtain ⟨hu, hv⟩ := he es[k] (List.getElem_mem hlt)
    rw [tableP_step ids dir es k hlt]
    have hsq := layT_square (ids := ids) (dir := dir) (e := es[k]) h.s1 h.s2
    refine ⟨hsq.1, hsq.2, fun i j hi hj => ?_⟩
    rw [layT_at hs h.s1 hu hv i j hi hj, h.at_ i j hi hj, List.take_succ_eq_append_getElem hlt, List.any_append]
    simp

/-- The table of a graph that is not bad. -/
theorem graph_table {g : Gr} (h : okGraph g = true) : TabOk (asc g.nodes) g.dir g.edges (tableP (asc g.nodes) g.dir g.edges) := by
  unfold okGraph at h
  rw [Bool.and_eq_true, List.all_eq_true] at h
  have := tableP_ok (asc g.nodes) g.dir g.edges (asc_incr (of_decide_eq_true h.1)) (fun e he => by
    have := of_decide_eq_true (h.2 e he)
    exact ⟨asc_mem.2 this.2.1, asc_mem.2 this.2.2.1⟩) g.edges.length (Nat.le_refl _)
  rwa [List.take_length] at this

/-- In an ascending list the first place of a number is the count of lesser ones. -/
theorem idx_pos {ids : List Int} (hs : ids.Pairwise (· < ·)) {x : Int} (hx : x ∈ ids) : idxI ids x = (posOf ids x : Nat) ∧ posOf ids x < ids.length := by
  obtain ⟨h, e⟩ := posOf_mem hs hx
  refine ⟨idxI_at h (fun j hj hlt he => ?_) e, h⟩
  have h1 := List.pairwise_iff_getElem.1 hs j _ hj h hlt
  rw [he, e] at h1
  exact absurd h1 (Int.lt_irrefl _)
end Go.Proofs.YthpjmjohdliohaaGreat

namespace Go.Proofs.YthpjmjohdliohaaGreat
open Go.RowKit

theorem size_setCell' (w : World) (p : Addr) (u : Value) : (w.setCell p u).heap.size = w.heap.size := by simp [World.setCell]

/-- Rows of n cells each, in blocks of their own from B on. -/
def TRows {α : Type} (w : World) (e : TypeId) (enc : α → Value) (B n : Nat) (gs : List Nat) (t : List (List α)) : Prop :=
  gs.length = t.length ∧ gs.Nodup ∧ ∀ (j g : Nat) (l : List α), gs[j]? = some g → t[j]? = some l → B ≤ g ∧ g < w.heap.size ∧ l.length = n ∧ w.heap[g]? = some (.cells (l.map enc).toArray e (0, 0))

/-- The values of the rows. -/
def rowVs (n : Nat) (gs : List Nat) : List Value := gs.map fun g => .slice (some ⟨g, 0, none⟩) n n

theorem TRows.lt {α : Type} {w : World} {e : TypeId} {enc : α → Value} {B n : Nat} {gs : List Nat} {t : List (List α)} (h : TRows w e enc B n gs t) : ∀ g ∈ gs, B ≤ g ∧ g < w.heap.size := by
  intro g hg
  obtain ⟨j, hj, rfl⟩ := List.mem_iff_getElem.1 hg
  have ht : j < t.length := by rw [← h.1]; exact hj
  obtain ⟨h1, h2, _⟩ := h.2.2 j _ _ (List.getElem?_eq_getElem hj) (List.getElem?_eq_getElem ht)
  exact ⟨h1, h2⟩

theorem TRows.same {α : Type} {w w' : World} {e : TypeId} {enc : α → Value} {B n : Nat} {gs : List Nat} {t : List (List α)} (h : TRows w e enc B n gs t) (hs : w.heap.size ≤ w'.heap.size) (hb : ∀ g ∈ gs, w'.heap[g]? = w.heap[g]?) : TRows w' e enc B n gs t :=
  ⟨h.1, h.2.1, fun j g l hg hl => by
    obtain ⟨h1, h2, h3, h4⟩ := h.2.2 j g l hg hl
    exact ⟨h1, Nat.lt_of_lt_of_le h2 hs, h3, (hb g (List.mem_of_getElem? hg)).trans h4⟩⟩

/-- One row more, in a new block. -/
theorem TRows.more {α : Type} {w : World} {e : TypeId} {enc : α → Value} {B n g : Nat} {gs : List Nat} {t : List (List α)} {l : List α} (h : TRows w e enc B n gs t) (hB : B ≤ g) (hg : g < w.heap.size) (hl : l.length = n) (hc : w.heap[g]? = some (.cells (l.map enc).toArray e (0, 0))) (hn : g ∉ gs) :
    TRows w e enc B n (gs ++ [g]) (t ++ [l]) := by
  refine ⟨by simp [h.1], List.nodup_append.2 ⟨h.2.1, by simp, fun a ha b hb => by rw [List.mem_singleton] at hb; rw [hb]; exact fun e => hn (e ▸ ha)⟩, fun j g' l' hg' hl' => ?_⟩
  rcases Nat.lt_or_ge j gs.length with hj | hj
  · rw [List.getElem?_append_left hj] at hg'
    rw [List.getElem?_append_left (by rw [← h.1]; exact hj)] at hl'
    exact h.2.2 j g' l' hg' hl'
  · rw [List.getElem?_append_right hj] at hg'
    rw [List.getElem?_append_right (by rw [← h.1]; exact hj), ← h.1] at hl'
    rcases hjj : j - gs.length with _ | m
    · rw [hjj] at hg' hl'
      simp at hg' hl'
      subst hg'; subst hl'
      exact ⟨hB, hg, hl, hc⟩
    · rw [hjj] at hg'; simp at hg'

/-- A cell of one row set. -/
theorem TRows.set {α : Type} {w : World} {e : TypeId} {enc : α → Value} {B n g i k : Nat} {gs : List Nat} {t : List (List α)} (h : TRows w e enc B n gs t) (hg : gs[i]? = some g) (x : α) :
    TRows (w.setCell ⟨g, k, none⟩ (enc x)) e enc B n gs (t.modify i fun l => l.set k x) := by
  refine ⟨by rw [List.length_modify]; exact h.1, h.2.1, fun j g' l' hg' hl' => ?_⟩
  rw [List.getElem?_modify] at hl'
  by_cases hij : i = j
  · subst hij
    rw [hg] at hg'
    injection hg' with hg'
    subst hg'
    cases hl0 : t[i]? with
    | none => rw [hl0] at hl'; simp at hl'
    | some l0 =>
      rw [hl0] at hl'
      simp at hl'
      subst hl'
      obtain ⟨h1, h2, h3, h4⟩ := h.2.2 i g l0 hg hl0
      refine ⟨h1, by rw [size_setCell']; exact h2, by rw [List.length_set]; exact h3, ?_⟩
      have hs : (w.setCell ⟨g, k, none⟩ (enc x)).heap[g]? = some (.cells ((l0.map enc).toArray.setIfInBounds k (enc x)) e (0, 0)) := by
        simp [World.setCell, Array.getElem?_modify, h4]
      rw [hs, List.map_set]
      simp
  · have hne : g' ≠ g := fun e' => by
      have hi := (List.getElem?_eq_some_iff.1 hg)
      have hj := (List.getElem?_eq_some_iff.1 hg')
      obtain ⟨hi1, hi2⟩ := hi
      obtain ⟨hj1, hj2⟩ := hj
      exact hij ((List.getElem_inj h.2.1).1 (by rw [hi2, hj2, e']))
    have hl2 : t[j]? = some l' := by
      cases hl0 : t[j]? with
      | none => rw [hl0] at hl'; simp at hl'
      | some l0 => rw [hl0] at hl'; simp [hij] at hl'; rw [hl']
    obtain ⟨h1, h2, h3, h4⟩ := h.2.2 j g' l' hg' hl2
    exact ⟨h1, by rw [size_setCell']; exact h2, h3, (Below.heap_setCell _ _ _ _ hne).trans h4⟩

end Go.Proofs.YthpjmjohdliohaaGreat

namespace Go.Proofs.YthpjmjohdliohaaGreat
open Go.RowKit

theorem owns_far {w : World} {B e size n : Nat} {v : Value} {xs : List Value} (h : w.ownsRow B e size v n xs) {g : Nat} (hg : v.ownBlock ≠ some g) (k : Nat) (u : Value) : (w.setCell ⟨g, k, none⟩ u).ownsRow B e size v n xs :=
  owns_same h fun j hj => Below.heap_setCell _ _ _ _ (fun e' => hg (by rw [hj, e']))

theorem rowVs_get {n i g : Nat} {gs : List Nat} (h : gs[i]? = some g) : (rowVs n gs)[i]? = some (.slice (some ⟨g, 0, none⟩) n n) := by
  simp [rowVs, h]

theorem TRows.at_ {α : Type} {w : World} {e : TypeId} {enc : α → Value} {B n : Nat} {gs : List Nat} {t : List (List α)} (h : TRows w e enc B n gs t) {i : Nat} (hi : i < t.length) :
    ∃ g, gs[i]? = some g ∧ B ≤ g ∧ g < w.heap.size ∧ t[i].length = n ∧ w.heap[g]? = some (.cells (t[i].map enc).toArray e (0, 0)) := by
  have hg : i < gs.length := by rw [h.1]; exact hi
  obtain ⟨h1, h2, h3, h4⟩ := h.2.2 i gs[i] t[i] (List.getElem?_eq_getElem hg) (List.getElem?_eq_getElem hi)
  exact ⟨gs[i], List.getElem?_eq_getElem hg, h1, h2, h3, h4⟩

theorem row_cell {w : World} {α : Type} {e : TypeId} {enc : α → Value} {g : Nat} {l : List α} (h : w.heap[g]? = some (.cells (l.map enc).toArray e (0, 0))) {k : Nat} (hk : k < l.length) : w.cell? ⟨g, k, none⟩ = some (enc l[k]) ∧ w.frozen? ⟨g, k, none⟩ = false := by
  simp [World.cell?, World.frozen?, h, hk]

/-- Two new blocks and a draw. -/
theorem two_new (w : World) (o o2 : Obj) : ((w.alloc o).alloc o2).drew.heap.size = w.heap.size + 2 ∧ (∀ j, j < w.heap.size → ((w.alloc o).alloc o2).drew.heap[j]? = w.heap[j]?) ∧ ((w.alloc o).alloc o2).drew.heap[w.heap.size]? = some o ∧ ((w.alloc o).alloc o2).drew.heap[w.heap.size + 1]? = some o2 := by
  refine ⟨by simp [World.drew], fun j hj => ?_, ?_, ?_⟩
  · show ((w.alloc o).alloc o2).heap[j]? = _
    rw [Below.heap_alloc _ _ _ (by simp; omega), Below.heap_alloc _ _ _ hj]
  · show ((w.alloc o).alloc o2).heap[w.heap.size]? = _
    rw [Below.heap_alloc _ _ _ (by simp), heap_alloc_new]
  · show ((w.alloc o).alloc o2).heap[w.heap.size + 1]? = _
    have := heap_alloc_new (w.alloc o) o2
    rwa [show (w.alloc o).heap.size = w.heap.size + 1 by simp] at this

theorem made_repl (z : Value) (n : Nat) : madeCells #[z] n = (List.replicate n z).toArray := by
  rw [← toList_madeCells_one z n]

theorem size_two (w : World) (o o2 : Obj) : ((w.alloc o).alloc o2).heap.size = w.heap.size + 2 := by simp
theorem one_slice (a : Option Addr) (n c : Nat) : ∀ u ∈ [Value.slice a n c], u.oneCell' = true := by
  intro u hu
  rw [List.mem_singleton] at hu
  subst hu; rfl

end Go.Proofs.YthpjmjohdliohaaGreat
