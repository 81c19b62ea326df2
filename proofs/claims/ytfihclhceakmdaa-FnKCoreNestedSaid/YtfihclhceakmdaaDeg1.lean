/- topo.degeneracyOrdering: the third loop's memory. -/
import Derived.Test.YtfihclhceakmdaaDeg0
import Derived.Test.YtfihclhceakmdaaAppZ
namespace Go.Proofs.Ytfihclhceakmdaa
open Go.RowKit Go.Maps

/-- What stands when j nodes are taken away. -/
def K3 (w1 w : World) (ids : List Int) (s : Int → List Int) (dmb db mm j kk : Nat) (lv sv : Value) : Prop :=
  ∃ (L : List Int) (c : List Nat) (vs : List Value) (Dl : List (List Int)) (f : Int → Option Value), L.length = j ∧ KInv s ids L kk c ∧ DOk ids L (degOut s L) mm Dl ∧ (∀ x ∈ ids, f x = if x ∈ L then none else some (.int .i64 (degOut s L x : Nat))) ∧ KD w1 w ids dmb db mm f vs Dl lv sv L c

theorem dok_some {ids L : List Int} {g : Int → Nat} {mm : Nat} {Dl : List (List Int)} (h : DOk ids L g mm Dl) (hid : ids.Nodup) (hl : L.length < ids.length) (he : ∀ i, i < mm → Dl.getD i [] = []) : False := by
  have hall : ∀ x ∈ ids, x ∈ L := fun x hx => Classical.byContradiction fun hn => by
    have h1 := (h.mem (g x) x).2 ⟨hx, hn, rfl⟩
    have h2 := getD_lt h1
    rw [he _ (by rw [← h.len]; exact h2)] at h1
    cases h1
  have := nodup_len hid hall
  omega

theorem dok_min {ids L : List Int} {g : Int → Nat} {mm q : Nat} {Dl : List (List Int)} (h : DOk ids L g mm Dl) (he : ∀ i, i < q → Dl.getD i [] = []) : ∀ x ∈ ids, x ∉ L → q ≤ g x := fun x hx hn => by
  rcases Nat.lt_or_ge (g x) q with h1 | h1
  · have h2 := (h.mem (g x) x).2 ⟨hx, hn, rfl⟩
    rw [he _ h1] at h2
    cases h2
  · exact h1

theorem getD_at {l : List (List Int)} {q : Nat} (h : q < l.length) : l.getD q [] = l[q] := by
  rw [List.getD_eq_getElem?_getD, List.getElem?_eq_getElem h]; rfl

theorem kLong_zero {c : List Nat} {k i : Nat} (h : i ≤ k) : kLong c k i = c := by
  unfold kLong
  rw [show i - k = 0 by omega]; simp

/-- The counts, longer by what the greater degree wants. -/
theorem KD.zeros {w1 w w' : World} {ids : List Int} {dmb db m : Nat} {f : Int → Option Value} {vs : List Value} {Dl : List (List Int)} {lv : Value} {L : List Int} {c : List Nat} {g cap kk q : Nat} {a' : Option Addr} {cap' : Nat} (h : KD w1 w ids dmb db m f vs Dl lv (.slice (some ⟨g, 0, none⟩) (kk + 1) cap) L c) (hc : c.length = kk + 1) (hq : kk < q)
    (own : w'.ownsRow w1.heap.size 3 1 (.slice a' (kk + 1 + (q - kk)) cap') (kk + 1 + (q - kk)) (ints (c.map fun (n : Nat) => (n : Int)) ++ List.replicate (q - kk) (.int .i64 0))) (hg : w.grownBy w' (some g)) (hat : a' = some ⟨g, 0, none⟩ ∨ a' = some ⟨w.heap.size, 0, none⟩) :
    KD w1 w' ids dmb db m f vs Dl lv (.slice a' (max kk q + 1) cap') L (kLong c kk q) := by
  have e1 : kk + 1 + (q - kk) = max kk q + 1 := by omega
  have e2 : (kLong c kk q).length = max kk q + 1 := kLong_len hc
  have e3 : ints ((kLong c kk q).map fun (n : Nat) => (n : Int)) = ints (c.map fun (n : Nat) => (n : Int)) ++ List.replicate (q - kk) (.int .i64 0) := by
    unfold kLong ints
    rw [List.map_append, List.map_append, List.map_replicate, List.map_replicate]
    rfl
  rw [e1] at own
  refine h.sPut hg (by rw [e2, e3]; exact own) fun j hj => ?_
  rcases hat with e | e
  · subst e; exact .inl hj
  · subst e
    right
    simp only [Value.ownBlock] at hj
    injection hj with hj
    omega

/-- A node more is taken away, and counted. -/
theorem KD.inc {w1 w w' : World} {ids : List Int} {dmb db m j p : Nat} {f : Int → Option Value} {vs : List Value} {Dl : List (List Int)} {la a' : Option Addr} {lc cap' : Nat} {L : List Int} {c : List Nat} {gs cs : Nat} {v : Int} {o : Obj} (h : KD w1 w ids dmb db m f vs Dl (.slice la j lc) (.slice (some ⟨gs, 0, none⟩) (p + 1) cs) L c) (hc : c.length = p + 1) (hL : L.length = j)
    (hg : (w.alloc o).grownBy w' (Value.slice la j lc).ownBlock) (own : w'.ownsRow w1.heap.size 67 1 (.slice a' (j + 1) cap') (j + 1) (nodes L ++ [nodev v])) (hat : a' = la ∨ a' = some ⟨(w.alloc o).heap.size, 0, none⟩) :
    w'.cell? ⟨gs, p, none⟩ = some (.int .i64 (c.getD p 0 : Nat)) ∧ w'.frozen? ⟨gs, p, none⟩ = false ∧ Hid (KD w1 (w'.setCell ⟨gs, p, none⟩ (.int .i64 ((c.getD p 0 + 1 : Nat) : Int))) ids dmb db m f vs Dl (.slice a' (j + 1) cap') (.slice (some ⟨gs, 0, none⟩) (p + 1) cs) (L ++ [v]) (c.set p (c.getD p 0 + 1))) := by
  have e1 : (L ++ [v]).length = j + 1 := by simp [hL]
  have e2 : nodes (L ++ [v]) = nodes L ++ [nodev v] := by simp [nodes]
  have h2 := h.lPut (lv' := .slice a' (j + 1) cap') (L' := L ++ [v]) (grown_alloc hg) (by rw [e1, e2]; exact own) fun q hq => by
    rcases hat with e | e
    · subst e
      left
      cases a' <;> exact hq
    · subst e
      right
      simp only [Value.ownBlock] at hq
      injection hq with hq
      simp at hq
      omega
  have hs := h2.s
  rw [hc] at hs
  have hget : (ints (c.map fun (n : Nat) => (n : Int)))[p]? = some (.int .i64 (c.getD p 0 : Nat)) := by
    unfold ints
    rw [List.getElem?_map, List.getElem?_map, List.getElem?_eq_getElem (by omega), List.getD_eq_getElem?_getD, List.getElem?_eq_getElem (by omega)]
    rfl
  have hset := owns_set hs (j := p) (.int .i64 ((c.getD p 0 + 1 : Nat) : Int))
  refine ⟨owns_cell hs hget, owns_free hs p, h2.sPut (sv' := .slice (some ⟨gs, 0, none⟩) (p + 1) cs) ⟨rfl, rfl, rfl, by rw [size_setCell]; exact Nat.le_refl _, fun q _ hq => Below.heap_setCell _ _ _ _ (fun e => hq (by rw [e]; rfl))⟩ ?_ fun q hq => .inl hq⟩
  rw [List.length_set, hc]
  have e3 : ints ((c.set p (c.getD p 0 + 1)).map fun (n : Nat) => (n : Int)) = (ints (c.map fun (n : Nat) => (n : Int))).set p (.int .i64 ((c.getD p 0 + 1 : Nat) : Int)) := by
    unfold ints
    rw [List.map_set, List.map_set]
  rw [e3]
  exact hset

/-- delete(m, x) at the operation, for the walk. -/
theorem wpList_vmap_del (w : World) {ops : Array Oper} {rest : List Oper} {o : Oper} {a : Act} {Q : Exit → Act → World → Prop} (hg : o.guard = none) (m x : Operand) (t e : TypeId) (hop : o.op = Op.call { callee := Callee.builtin Builtin.delete, args := #[m, x], argTypes := #[t, 2] })
    (ht : Try.prog.underlying t = some (.map 2 e)) {ids : List Int} {mb : Nat} {f : Int → Option Value} (hm : a.eval m = .map (some mb)) (h : VMap w ids mb f) (y : Int) (hx : a.eval x = .int .i64 y) (hy : In64 y)
    (hK : ∀ w', VMap w' ids mb (updV f y none) → w.grownBy w' (some mb) → wpList Try.prog ops Q rest (a.put o.dst (.tuple #[])) w') : wpList Try.prog ops Q (o :: rest) a w := by
  refine wpList_plain hg fun K' hK' => ?_
  obtain ⟨w', hrun, r1, r2⟩ := vmap_del h ht hy o.type
  unfold Oper.wp
  simp [execOp, hop, resolve, invoke, builtin, hm, hx, hrun, Result.andThen]
  exact hK' _ _ (hK w' r1 r2)
end Go.Proofs.Ytfihclhceakmdaa
