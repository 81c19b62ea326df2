/- Blocks by the parts that they play: what stands in each, and that no two are one. -/
import Derived.Test.YtgkimjjodhnmiaaGreatVMap
namespace Go.Proofs.YtgkimjjodhnmiaaGreat
open Go.RowKit Go.Maps

/-- What stands in a block: a map by numbers of nodes, or cells. -/
inductive Cont
  | map (f : Int → Option Value)
  | cells (l : List Value)

def CHolds (w : World) (ids : List Int) (j : Nat) : Cont → Prop
  | .map f => VMap w ids j f
  | .cells l => ∃ t, w.heap[j]? = some (.cells l.toArray t (0, 0))

theorem CHolds.same {w w' : World} {ids : List Int} {j : Nat} {k : Cont} (h : CHolds w ids j k) (e : w'.heap[j]? = w.heap[j]?) : CHolds w' ids j k := by
  cases k with
  | map f => exact VMap.same h e
  | cells l => obtain ⟨t, ht⟩ := h; exact ⟨t, e.trans ht⟩
theorem CHolds.lt {w : World} {ids : List Int} {j : Nat} {k : Cont} (h : CHolds w ids j k) : j < w.heap.size := by
  cases k with
  | map f => exact VMap.lt h
  | cells l => obtain ⟨t, ht⟩ := h; exact lt_of_block ht

/-- Blocks that are none of B's are as they were. -/
structure Keeps (B : Nat → Prop) (w w' : World) : Prop where
  os : w'.os = w.os
  tape : w'.tape = w.tape
  output : w'.output = w.output
  size : w.heap.size ≤ w'.heap.size
  block : ∀ j, j < w.heap.size → ¬ B j → w'.heap[j]? = w.heap[j]?

theorem Keeps.refl (B : Nat → Prop) (w : World) : Keeps B w w := ⟨rfl, rfl, rfl, Nat.le_refl _, fun _ _ _ => rfl⟩
theorem Keeps.trans {B : Nat → Prop} {w w' w'' : World} (h : Keeps B w w') (k : Keeps B w' w'') : Keeps B w w'' :=
  ⟨k.os.trans h.os, k.tape.trans h.tape, k.output.trans h.output, Nat.le_trans h.size k.size, fun j hj hn => (k.block j (Nat.lt_of_lt_of_le hj h.size) hn).trans (h.block j hj hn)⟩
theorem Keeps.of {B : Nat → Prop} {w w' : World} (h : Below w.heap.size w w') : Keeps B w w' := ⟨h.os, h.tape, h.output, h.size, fun j hj _ => h.block j hj⟩
theorem Keeps.drew {B : Nat → Prop} {w w' : World} (h : Keeps B w w') : Keeps B w w'.drew := ⟨h.os, h.tape, h.output, h.size, h.block⟩
theorem Keeps.grow {B : Nat → Prop} {w w' : World} {j : Nat} (hg : w.grownBy w' (some j)) (hj : B j) : Keeps B w w' :=
  ⟨hg.os, hg.tape, hg.output, hg.size, fun k hk hn => hg.block k hk (by intro e; injection e with e; subst e; exact hn hj)⟩
theorem Keeps.setCell {B : Nat → Prop} {w w' : World} (h : Keeps B w w') {j k : Nat} (hj : B j) (v : Value) : Keeps B w (w'.setCell ⟨j, k, none⟩ v) :=
  h.trans (Keeps.grow (j := j) ⟨rfl, rfl, rfl, Nat.le_of_eq (size_setCell _ _ _).symm, fun i _ hn => Below.heap_setCell w' ⟨j, k, none⟩ v i (fun e => hn (by rw [e]))⟩ hj)
/-- All that is turned lies from B on. -/
theorem Keeps.from {B : Nat} {w w' : World} (h : Keeps (fun j => B ≤ j) w w') (hB : B ≤ w.heap.size) : Below B w w' :=
  ⟨h.os, h.tape, h.output, h.size, fun j hj => h.block j (by omega) (by show ¬ B ≤ j; omega)⟩

/-- The parts R, where they lie, and what stands there. -/
structure Roles {R : Type} (w : World) (ids : List Int) (B : Nat → Prop) (ad : R → Option Nat) (c : R → Cont) : Prop where
  holds : ∀ r j, ad r = some j → CHolds w ids j (c r)
  lo : ∀ r j, ad r = some j → B j
  inj : ∀ r r' j, ad r = some j → ad r' = some j → r = r'
  new : ∀ j, w.heap.size ≤ j → B j

open Classical in
/-- f, but y at r. -/
noncomputable def updR {R α : Type} (f : R → α) (r : R) (y : α) : R → α := fun x => if x = r then y else f x
theorem updR_self {R α : Type} (f : R → α) (r : R) (y : α) : updR f r y r = y := if_pos rfl
theorem updR_other {R α : Type} (f : R → α) {r x : R} (y : α) (h : x ≠ r) : updR f r y x = f x := if_neg h

section
variable {R : Type} {w w' : World} {ids : List Int} {B : Nat → Prop} {ad : R → Option Nat} {c : R → Cont}

theorem Roles.none (w : World) (ids : List Int) (B : Nat → Prop) (hn : ∀ j, w.heap.size ≤ j → B j) (c : R → Cont) : Roles w ids B (fun _ => Option.none) c :=
  ⟨fun _ _ h => (by simp at h), fun _ _ h => (by simp at h), fun _ _ _ h => (by simp at h), hn⟩

theorem Roles.lt (h : Roles w ids B ad c) {r : R} {j : Nat} (hr : ad r = some j) : j < w.heap.size := (h.holds r j hr).lt

/-- One part is turned. -/
theorem Roles.turn (h : Roles w ids B ad c) {r : R} {j : Nat} (hr : ad r = some j) (hg : w.grownBy w' (some j)) {k : Cont} (hk : CHolds w' ids j k) : Roles w' ids B ad (updR c r k) := by
  refine ⟨fun x i hx => ?_, h.lo, h.inj, fun i hi => h.new i (Nat.le_trans hg.size hi)⟩
  by_cases e : x = r
  · subst e
    rw [hr] at hx
    injection hx with hx
    subst hx
    rw [updR_self]; exact hk
  · rw [updR_other _ _ e]
    refine (h.holds x i hx).same (hg.block i (h.lt hx) fun e' => ?_)
    injection e' with e'
    subst e'
    exact e (h.inj x r i hx hr)

/-- A part more, in a new block. -/
theorem Roles.add (h : Roles w ids B ad c) {r : R} {j : Nat} (hg : w.grownBy w' Option.none) (hj : w.heap.size ≤ j) {k : Cont} (hk : CHolds w' ids j k) : Roles w' ids B (updR ad r (some j)) (updR c r k) := by
  have key : ∀ x i, updR ad r (some j) x = some i → (x = r ∧ i = j) ∨ (x ≠ r ∧ ad x = some i ∧ i < w.heap.size) := fun x i hx => by
    by_cases e : x = r
    · subst e
      rw [updR_self] at hx
      injection hx with hx
      exact .inl ⟨rfl, hx.symm⟩
    · rw [updR_other _ _ e] at hx
      exact .inr ⟨e, hx, h.lt hx⟩
  refine ⟨fun x i hx => ?_, fun x i hx => ?_, fun x y i hx hy => ?_, fun i hi => h.new i (Nat.le_trans hg.size hi)⟩
  · rcases key x i hx with ⟨rfl, rfl⟩ | ⟨e, h1, h2⟩
    · rw [updR_self]; exact hk
    · rw [updR_other _ _ e]
      exact (h.holds x i h1).same (hg.block i h2 (by simp))
  · rcases key x i hx with ⟨rfl, rfl⟩ | ⟨e, h1, h2⟩
    · exact h.new _ hj
    · exact h.lo x i h1
  · rcases key x i hx with ⟨rfl, rfl⟩ | ⟨e, h1, h2⟩
    · rcases key y i hy with ⟨rfl, _⟩ | ⟨e', h3, h4⟩
      · rfl
      · omega
    · rcases key y i hy with ⟨rfl, rfl⟩ | ⟨e', h3, h4⟩
      · omega
      · exact h.inj x y i h1 h3

/-- What lies elsewhere is turned. -/
theorem Roles.far (h : Roles w ids B ad c) {row : Option Nat} (hg : w.grownBy w' row) (hn : ∀ r j, ad r = some j → row ≠ some j) : Roles w' ids B ad c :=
  ⟨fun x i hx => (h.holds x i hx).same (hg.block i (h.lt hx) fun e => hn x i hx e.symm), h.lo, h.inj, fun i hi => h.new i (Nat.le_trans hg.size hi)⟩

theorem Roles.grown (h : Roles w ids B ad c) (hg : w.grownBy w' Option.none) : Roles w' ids B ad c := h.far hg fun _ _ _ => by simp
theorem Roles.below (h : Roles w ids B ad c) (hb : Below w.heap.size w w') : Roles w' ids B ad c :=
  h.grown ⟨hb.os, hb.tape, hb.output, hb.size, fun j hj _ => hb.block j hj⟩

/-- The same in a narrower zone. -/
theorem Roles.zone (h : Roles w ids B ad c) {B' : Nat → Prop} (hl : ∀ r j, ad r = some j → B' j) (hn : ∀ j, w.heap.size ≤ j → B' j) : Roles w ids B' ad c := ⟨h.holds, hl, h.inj, hn⟩

/-- The map of a part. -/
theorem Roles.map (h : Roles w ids B ad c) {r : R} {j : Nat} {f : Int → Option Value} (hr : ad r = some j) (hc : c r = .map f) : VMap w ids j f := by
  have := h.holds r j hr
  rw [hc] at this
  exact this
theorem Roles.cell (h : Roles w ids B ad c) {r : R} {j k : Nat} {l : List Value} {v : Value} (hr : ad r = some j) (hc : c r = .cells l) (hv : l[k]? = some v) : w.cell? ⟨j, k, Option.none⟩ = some v := by
  have := h.holds r j hr
  rw [hc] at this
  obtain ⟨t, ht⟩ := this
  simp [World.cell?, ht, hv]
theorem Roles.free (h : Roles w ids B ad c) {r : R} {j : Nat} {l : List Value} (hr : ad r = some j) (hc : c r = .cells l) (k : Nat) : w.frozen? ⟨j, k, Option.none⟩ = false := by
  have := h.holds r j hr
  rw [hc] at this
  obtain ⟨t, ht⟩ := this
  simp [World.frozen?, ht]
/-- A cell is set. -/
theorem Roles.setCell (h : Roles w ids B ad c) {r : R} {j k : Nat} {l : List Value} (hr : ad r = some j) (hc : c r = .cells l) (v : Value) : Roles (w.setCell ⟨j, k, Option.none⟩ v) ids B ad (updR c r (.cells (l.set k v))) := by
  have hg : w.grownBy (w.setCell ⟨j, k, Option.none⟩ v) (some j) := ⟨rfl, rfl, rfl, Nat.le_of_eq (size_setCell _ _ _).symm, fun i hi hn => Below.heap_setCell w ⟨j, k, Option.none⟩ v i (fun e => hn (by rw [e]))⟩
  refine h.turn hr hg ?_
  have := h.holds r j hr
  rw [hc] at this
  obtain ⟨t, ht⟩ := this
  exact ⟨t, by simp [World.setCell, Array.getElem?_modify, ht]⟩
/-- An element is laid into a map. -/
theorem Roles.put (h : Roles w ids B ad c) {r : R} {j : Nat} {f : Int → Option Value} {t e : TypeId} (hr : ad r = some j) (hc : c r = .map f) (ht : Tryz.prog.underlying t = some (.map 2 e)) {x : Int} (hx : In64 x) (hm : x ∈ ids) (hids : ids.length ≤ 1048576) (v : Value) :
    ∃ w', (Instr.mapUpdate t (.map (some j)) (.int .i64 x) v).run Tryz.prog w = .ok () w' ∧ Roles w' ids B ad (updR c r (.map (updV f x (some v)))) ∧ w.grownBy w' (some j) := by
  obtain ⟨w', h1, h2, h3⟩ := vmap_put (h.map hr hc) ht hx hm hids v
  exact ⟨w', h1, h.turn hr h3 h2, h3⟩
end
end Go.Proofs.YtgkimjjodhnmiaaGreat
