/- Plain words on memory: what a slice's cells hold, and that it stays through what leaves old blocks alone. No program in sight. -/
import Derived.WalkKit
import Derived.Lib.Hide
import Derived.Deep.MidRow
import Derived.Deep.Draws
namespace Go.Proofs.YtagnmdhdogaijaaGreat
open Go.RowKit

theorem unhide {p : Prop} (h : Hid p) : p := h

/-- The cells from an address on hold these values; where there are none, nothing is said of the address. -/
def Cells (w : World) (a : Option Addr) (cs : List Value) : Prop :=
  cs = [] ∨ ∃ b off, a = some ⟨b, off, none⟩ ∧ b < w.heap.size ∧ w.rangeAt b off cs

theorem Cells.nil (w : World) (a : Option Addr) : Cells w a [] := .inl rfl

theorem Cells.mk {w : World} {b off : Nat} {cs : List Value} (hb : b < w.heap.size) (h : w.rangeAt b off cs) : Cells w (some ⟨b, off, none⟩) cs :=
  .inr ⟨b, off, rfl, hb, h⟩

theorem Cells.at {w : World} {a : Option Addr} {cs : List Value} (h : Cells w a cs) (hn : 0 < cs.length) :
    ∃ b off, a = some ⟨b, off, none⟩ ∧ b < w.heap.size ∧ w.rangeAt b off cs := by
  rcases h with h | h
  · subst h; simp at hn
  · exact h

theorem rangeAt_below {w w' : World} {B b off : Nat} {cs : List Value} (h : w.rangeAt b off cs) (hb : Below B w w') (hB : b < B) : w'.rangeAt b off cs :=
  fun j v hj => by rw [hb.cell (p := ⟨b, off + j, none⟩) hB]; exact h j v hj

theorem Cells.below {w w' : World} {a : Option Addr} {cs : List Value} (h : Cells w a cs) (hb : Below w.heap.size w w') : Cells w' a cs := by
  rcases h with h | ⟨b, off, ha, hlt, hr⟩
  · exact .inl h
  · exact .inr ⟨b, off, ha, Nat.lt_of_lt_of_le hlt hb.size, rangeAt_below hr hb hlt⟩



theorem cell_lt {w : World} {p : Addr} {v : Value} (h : w.cell? p = some v) : p.block < w.heap.size := World.block_lt_of_cell? w p h
theorem cell_alloc {w : World} {p : Addr} {v : Value} (h : w.cell? p = some v) (o : Obj) : (w.alloc o).cell? p = some v := by
  rw [Below.cell ((Below.refl _ _).alloc (Nat.le_refl w.heap.size) o) (cell_lt h)]; exact h
theorem cell_below {w w' : World} {p : Addr} {v : Value} (hb : Below w.heap.size w w') (h : w.cell? p = some v) : w'.cell? p = some v := by
  rw [hb.cell (cell_lt h)]; exact h
theorem free_below {w w' : World} {p : Addr} {v : Value} {b : Bool} (hb : Below w.heap.size w w') (h : w.cell? p = some v) (hf : w.frozen? p = b) : w'.frozen? p = b := by
  rw [hb.frozen (cell_lt h)]; exact hf
theorem below_draws {B : Nat} {a w : World} (h : Below B a w) (n : Nat) : Below B a (w.drewN n) := h.trans ⟨rfl, rfl, rfl, Nat.le_refl _, fun _ _ => rfl⟩
theorem drewN_below (w : World) (n : Nat) : Below w.heap.size w (w.drewN n) := ⟨rfl, rfl, rfl, Nat.le_refl _, fun _ _ => rfl⟩
theorem drew_below (w : World) : Below w.heap.size w w.drew := ⟨rfl, rfl, rfl, Nat.le_refl _, fun _ _ => rfl⟩
theorem alloc_below (w : World) (o : Obj) : Below w.heap.size w (w.alloc o) := (Below.refl _ _).alloc (Nat.le_refl _) o

theorem Cells.drewN {w : World} {a : Option Addr} {cs : List Value} (h : Cells w a cs) (n : Nat) : Cells (w.drewN n) a cs := h.below (drewN_below w n)
theorem Cells.alloc {w : World} {a : Option Addr} {cs : List Value} (h : Cells w a cs) (o : Obj) : Cells (w.alloc o) a cs := h.below (alloc_below w o)

/-- Two steps that leave what was there alone. -/
theorem below_trans {a b c : World} (h : Below a.heap.size a b) (k : Below b.heap.size b c) : Below a.heap.size a c :=
  h.trans (k.mono h.size)

theorem owns_below {w w' : World} {base e size n : Nat} {v : Value} {xs : List Value} (h : w.ownsRow base e size v n xs) (hg : w.grownBy w' v.ownBlock) (hb : base ≤ w.heap.size) :
    Below base w w' := (Below.refl _ _).grown hg hb fun k hk => (h.lt k hk).1

theorem owns_base {w : World} {base base' e size n : Nat} {v : Value} {xs : List Value} (h : w.ownsRow base e size v n xs) (hb : base' ≤ base) : w.ownsRow base' e size v n xs := by
  obtain ⟨hl, h | ⟨g, cap, cur, hv, hg, r⟩⟩ := h
  · exact ⟨hl, .inl h⟩
  · exact ⟨hl, .inr ⟨g, cap, cur, hv, Nat.le_trans hb hg, r⟩⟩

/-- An owned row is nil, or at the head of a block. -/
theorem owns_head {w : World} {base e size n cap : Nat} {a : Option Addr} {xs : List Value} (h : w.ownsRow base e size (.slice a n cap) n xs) : a = none ∨ ∃ g, a = some ⟨g, 0, none⟩ := by
  obtain ⟨_, h | ⟨g, cap', cur, hv, _⟩⟩ := h
  · injection h.1 with h1 _ _; exact .inl h1
  · injection hv with h1 _ _; exact .inr ⟨g, h1⟩

/-- What is owned reads as cells. -/
theorem owns_cells {w : World} {base e size n : Nat} {v : Value} {xs : List Value} (h : w.ownsRow base e size v n xs) :
    ∃ a cap, v = .slice a n cap ∧ (a = none → cap = 0) ∧ Cells w a xs ∧ xs.length = n * size := by
  obtain ⟨hl, h | ⟨g, cap, cur, hv, hg, hh, hn, hm, hs, ht⟩⟩ := h
  · obtain ⟨rfl, rfl⟩ := h
    exact ⟨none, 0, rfl, fun _ => rfl, .inl (List.eq_nil_of_length_eq_zero (by simpa using hl)), by simpa using hl⟩
  · refine ⟨_, cap, hv, by simp, .inr ⟨g, 0, rfl, lt_of_block hh, fun j u hj => ?_⟩, hl⟩
    subst hv
    have := World.ownsRow.cells (w := w) (base := base) (e := e) (size := size) (n := n) (xs := xs) ⟨hl, .inr ⟨g, cap, cur, rfl, hg, hh, hn, hm, hs, ht⟩⟩ (g := g) rfl j u hj
    rw [Addr.add_mid] at this
    exact this

/-- An owned row that is not empty lies at the head of a block. -/
theorem owns_at {w : World} {base e size n cap : Nat} {a : Option Addr} {xs : List Value} (h : w.ownsRow base e size (.slice a n cap) n xs) (hn : 0 < n) :
    ∃ g, a = some ⟨g, 0, none⟩ ∧ base ≤ g ∧ g < w.heap.size ∧ n ≤ cap := by
  obtain ⟨_, h | ⟨g, cap', cur, hv, hg, hh, hc, _⟩⟩ := h
  · omega
  · injection hv with hv _ h3
    subst h3
    exact ⟨g, hv, hg, lt_of_block hh, hc⟩

/-- A cell of an owned row, and that it may be written. -/
theorem owns_cell {w : World} {base e size n cap g : Nat} {xs : List Value} (h : w.ownsRow base e size (.slice (some ⟨g, 0, none⟩) n cap) n xs) {j : Nat} {u : Value} (hj : xs[j]? = some u) :
    w.cell? ⟨g, j, none⟩ = some u := by
  have := h.cells (g := g) rfl j u hj
  rw [Addr.add_mid, Nat.zero_add] at this
  exact this

theorem owns_free {w : World} {base e size n cap g : Nat} {xs : List Value} (h : w.ownsRow base e size (.slice (some ⟨g, 0, none⟩) n cap) n xs) (j : Nat) :
    w.frozen? ⟨g, j, none⟩ = false := by
  obtain ⟨_, h | ⟨g', cap', cur, hv, _, hh, _⟩⟩ := h
  · simp at h
  · injection hv with hv _ _
    injection hv with hv
    injection hv with hv _ _
    subst hv
    simp [World.frozen?, hh]

/-- A store into an owned row. -/
theorem owns_set {w : World} {base e size n cap g : Nat} {xs : List Value} (h : w.ownsRow base e size (.slice (some ⟨g, 0, none⟩) n cap) n xs) {j : Nat} (u : Value) :
    (w.setCell ⟨g, j, none⟩ u).ownsRow base e size (.slice (some ⟨g, 0, none⟩) n cap) n (xs.set j u) := by
  obtain ⟨hl, h | ⟨g', cap', cur, hv, hg, hh, hn, hm, hs, ht⟩⟩ := h
  · simp at h
  · injection hv with hv _ hcap
    injection hv with hv
    injection hv with hv _ _
    subst hv; subst hcap
    refine ⟨by simpa using hl, .inr ⟨g, cap, cur.setIfInBounds j u, rfl, hg, ?_, hn, hm, by simpa using hs, ?_⟩⟩
    · simp [World.setCell, Array.getElem?_modify, hh]
    · rw [Array.toList_setIfInBounds, List.take_set, ht]

theorem Cells.add {w : World} {ad : Addr} {cs : List Value} (h : Cells w (some ad) cs) : ∀ j u, cs[j]? = some u → w.cell? (ad.add j) = some u := by
  intro j u hj
  rcases h with h | ⟨b, off, ha, _, hr⟩
  · subst h; simp at hj
  · injection ha with ha
    subst ha
    rw [Addr.add_mid]
    exact hr j u hj

/-- A list of ints as cells. -/
def ints (zs : List Int) : List Value := zs.map (Value.int .i64)
@[simp] theorem ints_length (zs : List Int) : (ints zs).length = zs.length := by simp [ints]
theorem ints_one (zs : List Int) : ∀ u ∈ ints zs, u.oneCell' = true := ints_oneCell .i64 zs
theorem ints_get (zs : List Int) (j : Nat) (h : j < zs.length) : (ints zs)[j]? = some (.int .i64 zs[j]) := by
  simp [ints, h]

theorem ints_cell {w : World} {b off : Nat} {zs : List Int} (h : w.rangeAt b off (ints zs)) {j : Nat} (hj : j < zs.length) :
    w.cell? ⟨b, off + j, none⟩ = some (.int .i64 zs[j]) := h j _ (ints_get zs j hj)

theorem ret_int {k : IntKind} {a b : Int} (h : a = b) : Ending.returned (.int k a) = .returned (.int k b) := by rw [h]
theorem ret_bool {a b : Bool} (h : a = b) : Ending.returned (.bool a) = .returned (.bool b) := by rw [h]

/-- Where a number stands first; -1: nowhere. -/
def idxI (zs : List Int) (x : Int) : Int := if x ∈ zs then (zs.idxOf x : Nat) else -1

theorem idxI_at {zs : List Int} {x : Int} {k : Nat} (hk : k < zs.length) (h : ∀ j (hj : j < zs.length), j < k → zs[j] ≠ x) (he : zs[k] = x) : idxI zs x = k := by
  have hm : x ∈ zs := by rw [← he]; exact List.getElem_mem hk
  rw [idxI, if_pos hm]
  congr 1
  have hlt := List.idxOf_lt_length_of_mem hm
  rcases Nat.lt_trichotomy (zs.idxOf x) k with hh | hh | hh
  · exact absurd (by simp) (h _ hlt hh)
  · exact hh
  · have := List.not_of_lt_findIdx (p := (· == x)) (xs := zs) (i := k) (by simpa [List.idxOf] using hh)
    simp [he] at this

theorem idxI_none {zs : List Int} {x : Int} (h : ∀ j (hj : j < zs.length), zs[j] ≠ x) : idxI zs x = -1 := by
  have hm : x ∉ zs := by
    intro hm
    obtain ⟨i, hi, he⟩ := List.mem_iff_getElem.1 hm
    exact h i hi he
  rw [idxI, if_neg hm]

theorem idxI_nonneg (zs : List Int) (x : Int) : decide (0 ≤ idxI zs x) = decide (x ∈ zs) := by
  unfold idxI
  split <;> simp_all <;> omega

/-- Whether numbers ascend, each once. -/
def incr (zs : List Int) : Bool := decide (zs.Pairwise (· < ·))

theorem pairwise_of_adj {zs : List Int} (h : ∀ j (hj : j < zs.length), 0 < j → zs[j - 1] < zs[j]) : zs.Pairwise (· < ·) := by
  rw [List.pairwise_iff_getElem]
  have key : ∀ d i, (hi : i + d + 1 < zs.length) → zs[i]'(by omega) < zs[i + d + 1] := by
    intro d
    induction d with
    | zero => intro i hi; simpa using h (i + 1) (by omega) (by omega)
    | succ d ih =>
      intro i hi
      have h1 := ih i (by omega)
      have h2 := h (i + (d + 1) + 1) hi (by omega)
      have h2' : zs[i + d + 1]'(by omega) < zs[i + (d + 1) + 1] := by simpa [Nat.add_assoc] using h2
      omega
  intro i j hi hj hij
  have := key (j - i - 1) i (by omega)
  have e : i + (j - i - 1) + 1 = j := by omega
  simpa [e] using this

theorem incr_true {zs : List Int} (h : ∀ j (hj : j < zs.length), 0 < j → zs[j - 1] < zs[j]) : incr zs = true :=
  decide_eq_true (pairwise_of_adj h)

theorem incr_false {zs : List Int} {j : Nat} (h0 : 0 < j) (hj : j < zs.length) (h : zs[j] ≤ zs[j - 1]) : incr zs = false := by
  refine decide_eq_false fun hp => ?_
  have := List.pairwise_iff_getElem.1 hp (j - 1) j (by omega) hj (by omega)
  omega
end Go.Proofs.YtagnmdhdogaijaaGreat
