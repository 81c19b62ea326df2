/- Plain words on memory: what a slice's cells hold, and that it stays through what leaves old blocks alone. No program in sight.
   The closed facts on element types, and append at each of them, with one bound on lengths.
   The functions of package laws over lists of ints: index, has, rising, sorted, what they return.
   Plain laws of an insertion sort on lists of ints, and of the list in ascending order.
   A graph as the statements have it: nodes, edges with weights; how it lies in memory; when it is not bad. -/
import Derived.WalkKit
import Derived.Lib.Hide
import Derived.Deep.MidRow
import Derived.Deep.Draws
import Derived.Test.YthpjmjohdliohaaGreatProg
import Derived.KernelRfl
import Derived.Maps.AppendAt
import Derived.WalkSpells
import Derived.Deep.LoopGhost
import Derived.Deep.QuietTactic
import Derived.BigQuiet
namespace Go.Proofs.YthpjmjohdliohaaGreat
open Go.RowKit

theorem unhide {p : Prop} (h : Hid p) : p := h

/-- The cells from an address on hold these values; where there are none, nothing is said of the address. -/
def Cells (w : World) (a : Option Addr) (cs : List Value) : Prop :=
  cs = [] ∨ ∃ b off, a = some ⟨b, off, none⟩ ∧ b < w.heap.size ∧ w.rangeAt b off cs

theorem Cells.nil (w : World) (a : Option Addr) : Cells w a [] := .inl rfl

theorem Cells.mk {w : World} {b off : Nat} {cs : List Value} (hb : b < w.heap.size) (h : w.rangeAt b off cs) : Cells w (some ⟨b, off, none⟩) cs :=
  .inr ⟨b, off, rfl, hb, h⟩

theorem Cells.at {w : World} {a : Option Addr} {cs : List Value} (h : Cells w a cs) (hn : 0 < cs.length) :
    ∃ b off, a = some ⟨b, off, none⟩ ∧ b < w.heap.size ∧ w.rangeAt b off cs := by
  rcases h with h | h
  · subst h; simp at hn
  · exact h

theorem rangeAt_below {w w' : World} {B b off : Nat} {cs : List Value} (h : w.rangeAt b off cs) (hb : Below B w w') (hB : b < B) : w'.rangeAt b off cs :=
  fun j v hj => by rw [hb.cell (p := ⟨b, off + j, none⟩) hB]; exact h j v hj

theorem Cells.below {w w' : World} {a : Option Addr} {cs : List Value} (h : Cells w a cs) (hb : Below w.heap.size w w') : Cells w' a cs := by
  rcases h with h | ⟨b, off, ha, hlt, hr⟩
  · exact .inl h
  · exact .inr ⟨b, off, ha, Nat.lt_of_lt_of_le hlt hb.size, rangeAt_below hr hb hlt⟩



theorem cell_lt {w : World} {p : Addr} {v : Value} (h : w.cell? p = some v) : p.block < w.heap.size := World.block_lt_of_cell? w p h
theorem cell_alloc {w : World} {p : Addr} {v : Value} (h : w.cell? p = some v) (o : Obj) : (w.alloc o).cell? p = some v := by
  rw [Below.cell ((Below.refl _ _).alloc (Nat.le_refl w.heap.size) o) (cell_lt h)]; exact h
theorem cell_below {w w' : World} {p : Addr} {v : Value} (hb : Below w.heap.size w w') (h : w.cell? p = some v) : w'.cell? p = some v := by
  rw [hb.cell (cell_lt h)]; exact h
theorem free_below {w w' : World} {p : Addr} {v : Value} {b : Bool} (hb : Below w.heap.size w w') (h : w.cell? p = some v) (hf : w.frozen? p = b) : w'.frozen? p = b := by
  rw [hb.frozen (cell_lt h)]; exact hf
theorem below_draws {B : Nat} {a w : World} (h : Below B a w) (n : Nat) : Below B a (w.drewN n) := h.trans ⟨rfl, rfl, rfl, Nat.le_refl _, fun _ _ => rfl⟩
theorem drewN_below (w : World) (n : Nat) : Below w.heap.size w (w.drewN n) := ⟨rfl, rfl, rfl, Nat.le_refl _, fun _ _ => rfl⟩
theorem drew_below (w : World) : Below w.heap.size w w.drew := ⟨rfl, rfl, rfl, Nat.le_refl _, fun _ _ => rfl⟩
theorem alloc_below (w : World) (o : Obj) : Below w.heap.size w (w.alloc o) := (Below.refl _ _).alloc (Nat.le_refl _) o

theorem Cells.drewN {w : World} {a : Option Addr} {cs : List Value} (h : Cells w a cs) (n : Nat) : Cells (w.drewN n) a cs := h.below (drewN_below w n)
theorem Cells.alloc {w : World} {a : Option Addr} {cs : List Value} (h : Cells w a cs) (o : Obj) : Cells (w.alloc o) a cs := h.below (alloc_below w o)

/-- Two steps that leave what was there alone. -/
theorem below_trans {a b c : World} (h : Below a.heap.size a b) (k : Below b.heap.size b c) : Below a.heap.size a c :=
  h.trans (k.mono h.size)

theorem owns_below {w w' : World} {base e size n : Nat} {v : Value} {xs : List Value} (h : w.ownsRow base e size v n xs) (hg : w.grownBy w' v.ownBlock) (hb : base ≤ w.heap.size) :
    Below base w w' := (Below.refl _ _).grown hg hb fun k hk => (h.lt k hk).1

theorem owns_base {w : World} {base base' e size n : Nat} {v : Value} {xs : List Value} (h : w.ownsRow base e size v n xs) (hb : base' ≤ base) : w.ownsRow base' e size v n xs := by
  obtain ⟨hl, h | ⟨g, cap, cur, hv, hg, r⟩⟩ := h
  · exact ⟨hl, .inl h⟩
  · exact ⟨hl, .inr ⟨g, cap, cur, hv, Nat.le_trans hb hg, r⟩⟩

/-- An owned row is nil, or at the head of a block. -/
theorem owns_head {w : World} {base e size n cap : Nat} {a : Option Addr} {xs : List Value} (h : w.ownsRow base e size (.slice a n cap) n xs) : a = none ∨ ∃ g, a = some ⟨g, 0, none⟩ := by
  obtain ⟨_, h | ⟨g, cap', cur, hv, _⟩⟩ := h
  · injection h.1 with h1 _ _; exact .inl h1
  · injection hv with h1 _ _; exact .inr ⟨g, h1⟩

/-- What is owned reads as cells. -/
theorem owns_cells {w : World} {base e size n : Nat} {v : Value} {xs : List Value} (h : w.ownsRow base e size v n xs) :
    ∃ a cap, v = .slice a n cap ∧ (a = none → cap = 0) ∧ Cells w a xs ∧ xs.length = n * size := by
  obtain ⟨hl, h | ⟨g, cap, cur, hv, hg, hh, hn, hm, hs, ht⟩⟩ := h
  · obtain ⟨rfl, rfl⟩ := h
    exact ⟨none, 0, rfl, fun _ => rfl, .inl (List.eq_nil_of_length_eq_zero (by simpa using hl)), by simpa using hl⟩
  · refine ⟨_, cap, hv, by simp, .inr ⟨g, 0, rfl, lt_of_block hh, fun j u hj => ?_⟩, hl⟩
    subst hv
    have := World.ownsRow.cells (w := w) (base := base) (e := e) (size := size) (n := n) (xs := xs) ⟨hl, .inr ⟨g, cap, cur, rfl, hg, hh, hn, hm, hs, ht⟩⟩ (g := g) rfl j u hj
    rw [Addr.add_mid] at this
    exact this

/-- An owned row that is not empty lies at the head of a block. -/
theorem owns_at {w : World} {base e size n cap : Nat} {a : Option Addr} {xs : List Value} (h : w.ownsRow base e size (.slice a n cap) n xs) (hn : 0 < n) :
    ∃ g, a = some ⟨g, 0, none⟩ ∧ base ≤ g ∧ g < w.heap.size ∧ n ≤ cap := by
  obtain ⟨_, h | ⟨g, cap', cur, hv, hg, hh, hc, _⟩⟩ := h
  · omega
  · injection hv with hv _ h3
    subst h3
    exact ⟨g, hv, hg, lt_of_block hh, hc⟩

/-- A cell of an owned row, and that it may be written. -/
theorem owns_cell {w : World} {base e size n cap g : Nat} {xs : List Value} (h : w.ownsRow base e size (.slice (some ⟨g, 0, none⟩) n cap) n xs) {j : Nat} {u : Value} (hj : xs[j]? = some u) :
    w.cell? ⟨g, j, none⟩ = some u := by
  have := h.cells (g := g) rfl j u hj
  rw [Addr.add_mid, Nat.zero_add] at this
  exact this

theorem owns_free {w : World} {base e size n cap g : Nat} {xs : List Value} (h : w.ownsRow base e size (.slice (some ⟨g, 0, none⟩) n cap) n xs) (j : Nat) :
    w.frozen? ⟨g, j, none⟩ = false := by
  obtain ⟨_, h | ⟨g', cap', cur, hv, _, hh, _⟩⟩ := h
  · simp at h
  · injection hv with hv _ _
    injection hv with hv
    injection hv with hv _ _
    subst hv
    simp [World.frozen?, hh]

/-- A store into an owned row. -/
theorem owns_set {w : World} {base e size n cap g : Nat} {xs : List Value} (h : w.ownsRow base e size (.slice (some ⟨g, 0, none⟩) n cap) n xs) {j : Nat} (u : Value) :
    (w.setCell ⟨g, j, none⟩ u).ownsRow base e size (.slice (some ⟨g, 0, none⟩) n cap) n (xs.set j u) := by
  obtain ⟨hl, h | ⟨g', cap', cur, hv, hg, hh, hn, hm, hs, ht⟩⟩ := h
  · simp at h
  · injection hv with hv _ hcap
    injection hv with hv
    injection hv with hv _ _
    subst hv; subst hcap
    refine ⟨by simpa using hl, .inr ⟨g, cap, cur.setIfInBounds j u, rfl, hg, ?_, hn, hm, by simpa using hs, ?_⟩⟩
    · simp [World.setCell, Array.getElem?_modify, hh]
    · rw [Array.toList_setIfInBounds, List.take_set, ht]

theorem Cells.add {w : World} {ad : Addr} {cs : List Value} (h : Cells w (some ad) cs) : ∀ j u, cs[j]? = some u → w.cell? (ad.add j) = some u := by
  intro j u hj
  rcases h with h | ⟨b, off, ha, _, hr⟩
  · subst h; simp at hj
  · injection ha with ha
    subst ha
    rw [Addr.add_mid]
    exact hr j u hj

/-- A list of ints as cells. -/
def ints (zs : List Int) : List Value := zs.map (Value.int .i64)
@[simp] theorem ints_length (zs : List Int) : (ints zs).length = zs.length := by simp [ints]
theorem ints_one (zs : List Int) : ∀ u ∈ ints zs, u.oneCell' = true := ints_oneCell .i64 zs
theorem ints_get (zs : List Int) (j : Nat) (h : j < zs.length) : (ints zs)[j]? = some (.int .i64 zs[j]) := by
  simp [ints, h]

theorem ints_cell {w : World} {b off : Nat} {zs : List Int} (h : w.rangeAt b off (ints zs)) {j : Nat} (hj : j < zs.length) :
    w.cell? ⟨b, off + j, none⟩ = some (.int .i64 zs[j]) := h j _ (ints_get zs j hj)

theorem ret_int {k : IntKind} {a b : Int} (h : a = b) : Ending.returned (.int k a) = .returned (.int k b) := by rw [h]
theorem ret_bool {a b : Bool} (h : a = b) : Ending.returned (.bool a) = .returned (.bool b) := by rw [h]

/-- Where a number stands first; -1: nowhere. -/
def idxI (zs : List Int) (x : Int) : Int := if x ∈ zs then (zs.idxOf x : Nat) else -1

theorem idxI_at {zs : List Int} {x : Int} {k : Nat} (hk : k < zs.length) (h : ∀ j (hj : j < zs.length), j < k → zs[j] ≠ x) (he : zs[k] = x) : idxI zs x = k := by
  have hm : x ∈ zs := by rw [← he]; exact List.getElem_mem hk
  rw [idxI, if_pos hm]
  congr 1
  have hlt := List.idxOf_lt_length_of_mem hm
  rcases Nat.lt_trichotomy (zs.idxOf x) k with hh | hh | hh
  · exact absurd (by simp) (h _ hlt hh)
  · exact hh
  · have := List.not_of_lt_findIdx (p := (· == x)) (xs := zs) (i := k) (by simpa [List.idxOf] using hh)
    simp [he] at this

theorem idxI_none {zs : List Int} {x : Int} (h : ∀ j (hj : j < zs.length), zs[j] ≠ x) : idxI zs x = -1 := by
  have hm : x ∉ zs := by
    intro hm
    obtain ⟨i, hi, he⟩ := List.mem_iff_getElem.1 hm
    exact h i hi he
  rw [idxI, if_neg hm]

theorem idxI_nonneg (zs : List Int) (x : Int) : decide (0 ≤ idxI zs x) = decide (x ∈ zs) := by
  unfold idxI
  split <;> simp_all <;> omega

/-- Whether numbers ascend, each once. -/
def incr (zs : List Int) : Bool := decide (zs.Pairwise (· < ·))

theorem pairwise_of_adj {zs : List Int} (h : ∀ j (hj : j < zs.length), 0 < j → zs[j - 1] < zs[j]) : zs.Pairwise (· < ·) := by
  rw [List.pairwise_iff_getElem]
  have key : ∀ d i, (hi : i + d + 1 < zs.length) → zs[i]'(by omega) < zs[i + d + 1] := by
    intro d
    induction d with
    | zero => intro i hi; simpa using h (i + 1) (by omega) (by omega)
    | succ d ih =>
      intro i hi
      have h1 := ih i (by omega)
      have h2 := h (i + (d + 1) + 1) hi (by omega)
      have h2' : zs[i + d + 1]'(by omega) < zs[i + (d + 1) + 1] := by simpa [Nat.add_assoc] using h2
      omega
  intro i j hi hj hij
  have := key (j - i - 1) i (by omega)
  have e : i + (j - i - 1) + 1 = j := by omega
  simpa [e] using this

theorem incr_true {zs : List Int} (h : ∀ j (hj : j < zs.length), 0 < j → zs[j - 1] < zs[j]) : incr zs = true :=
  decide_eq_true (pairwise_of_adj h)

theorem incr_false {zs : List Int} {j : Nat} (h0 : 0 < j) (hj : j < zs.length) (h : zs[j] ≤ zs[j - 1]) : incr zs = false := by
  refine decide_eq_false fun hp => ?_
  have := List.pairwise_iff_getElem.1 hp (j - 1) j (by omega) hj (by omega)
  omega
end Go.Proofs.YthpjmjohdliohaaGreat

namespace Go.Proofs.YthpjmjohdliohaaGreat
open Go.RowKit

theorem info_int : (Tryz.prog.info? 3).map (fun i => (i.zero, i.size, i.bytes)) = some (some (.int .i64 0), 1, 8) := by kernel_rfl
theorem info_int64 : (Tryz.prog.info? 2).map (fun i => (i.zero, i.size, i.bytes)) = some (some (.int .i64 0), 1, 8) := by kernel_rfl
theorem info_node : (Tryz.prog.info? 85).map (fun i => (i.zero, i.size, i.bytes)) = some (some .nilIface, 1, 16) := by kernel_rfl
theorem info_arc : (Tryz.prog.info? 202).map (fun i => (i.zero, i.size, i.bytes)) = some (some (.agg #[.int .i64 0, .float .f64 0]), 2, 16) := by kernel_rfl
theorem info_arcs : (Tryz.prog.info? 174).map (fun i => (i.zero, i.size, i.bytes)) = some (some (.slice none 0 0), 1, 24) := by kernel_rfl

section
variable {w : World} {ops : Array Oper} {rest : List Oper} {o : Oper} {a : Act} {Q : Exit → Act → World → Prop}

/-- append at an element type of which the table's row is known. -/
theorem append_law {P : Program} (t e : TypeId) (z : Value) (size bytes : Nat) (ht : P.underlying t = some (.slice e)) (hi : (P.info? e).map (fun i => (i.zero, i.size, i.bytes)) = some (some z, size, bytes))
    (hzs : z.cells.size = size) (hsz : 0 < size) (hby : bytes ≤ 64)
    (hgd : o.guard = none) (s x : Operand) (ho : o.op = .call { callee := .builtin .append, args := #[s, x], argTypes := #[t, t] })
    (base : Nat) (b : Option Addr) (n cap : Nat) (xs : List Value) (hs : a.eval s = .slice b n cap) (hown : w.ownsRow base e size (.slice b n cap) n xs)
    (ad : Addr) (m c : Nat) (news : List Value) (hx : a.eval x = .slice (some ad) m c) (hl : news.length = m * size)
    (hnews : ∀ j u, news[j]? = some u → w.cell? (ad.add j) = some u) (h1 : ∀ u ∈ news, u.oneCell' = true)
    (hn : n + m ≤ 2097152) (hbase : base ≤ w.heap.size)
    (h : ∀ b' cap' w', w'.ownsRow base e size (.slice b' (n + m) cap') (n + m) (xs ++ news) → w.grownBy w' (Value.slice b n cap).ownBlock → (b' = b ∨ b' = some ⟨w.heap.size, 0, none⟩) →
      wpList P ops Q rest (a.put o.dst (.slice b' (n + m) cap')) w') : wpList P ops Q (o :: rest) a w := by
  obtain ⟨i0, hi0, hz0, hz1, hz2⟩ := info_parts hi
  refine wpList_append_own_at w hgd s x t ho base e i0 z size bytes ht hi0 hz0 hz1 hz2 hzs hsz (.slice b n cap) n xs hs hown ad m c news hx hl hnews h1 (by unfold maxLen; omega) ?_ hbase fun v' w' h2 h3 _ h5 => ?_
  · have := Nat.mul_le_mul hn hby
    omega
  · obtain ⟨b', cap', hv, _, _, _⟩ := owns_cells h2
    subst hv
    refine h b' cap' w' h2 h3 ?_
    rcases owns_head hown with hb | ⟨g, hb⟩
    · subst hb
      rcases owns_head h2 with hb' | ⟨g', hb'⟩
      · subst hb'; exact .inl rfl
      · subst hb'
        rcases h5 with h5 | h5
        · simp [Value.ownBlock] at h5
        · simp only [Value.ownBlock, Option.some.injEq] at h5
          subst h5; exact .inr rfl
    · subst hb
      rcases owns_head h2 with hb' | ⟨g', hb'⟩
      · subst hb'
        rcases h5 with h5 | h5 <;> simp [Value.ownBlock] at h5
      · subst hb'
        rcases h5 with h5 | h5
        · simp only [Value.ownBlock, Option.some.injEq] at h5
          subst h5; exact .inl rfl
        · simp only [Value.ownBlock, Option.some.injEq] at h5
          subst h5; exact .inr rfl
end
end Go.Proofs.YthpjmjohdliohaaGreat

namespace Go.Proofs.YthpjmjohdliohaaGreat
open Go.RowKit

set_option maxHeartbeats 400000 in
theorem index_any (a : Option Addr) (n cap : Nat) (zs : List Int) (x : Int) (w : World) (hl : n = zs.length) (hbig : zs.length ≤ 9223372036854775807) (hc : Cells w a (ints zs)) :
    Calls Tryz.prog 37 #[.slice a n cap, .int .i64 x] w fun e w' => e = .returned (.int .i64 (idxI zs x)) ∧ w = w' := by
  subst hl
  go_enter Tryz.func37, Tryz.ntmps37
  go_wp2
  go_loop [5] (fun i => ∃ k : Nat, k ≤ zs.length ∧ i = .int .i64 k ∧ ∀ j (hj : j < zs.length), j < k → zs[j] ≠ x) (fun i => zs.length - (intOf i).toNat)
  case atStart => exact ⟨0, Nat.zero_le _, rfl, fun j _ hj => absurd hj (Nat.not_lt_zero _)⟩
  case round =>
    obtain ⟨k, hk, rfl, H0⟩ := hrel
    have H := Lib.hid H0
    clear H0
    by_cases hlt : k < zs.length
    · obtain ⟨b, off, rfl, _, hr⟩ := hc.at (by simp; omega)
      have hcell := ints_cell hr hlt
      clear hr hc
      by_cases he : zs[k] = x
      · have hfin : Hid (idxI zs x = k) := idxI_at hlt H.out he
        have he' : (zs[k] == x) = true := by simpa using he
        have he2 := Lib.hid he
        clear he
        go_wp2
        go_ret
        exact ⟨ret_int hfin.out.symm, rfl⟩
      · have hnext : Hid (∀ j (hj : j < zs.length), j < k + 1 → zs[j] ≠ x) := fun j hl hj => by
          rcases Nat.lt_or_eq_of_le (Nat.le_of_lt_succ hj) with h | h
          · exact H.out j hl h
          · subst h; exact he
        have he' : (zs[k] == x) = false := by simpa using he
        clear he
        go_wp2
        go_round
        case rel => exact ⟨k + 1, by omega, by go_num, hnext.out⟩
        case measure => simp [intOf]; omega
    · have hfin : Hid (idxI zs x = -1) := idxI_none fun j hj => H.out j hj (by omega)
      go_wp2
      go_ret
      exact ⟨ret_int hfin.out.symm, rfl⟩

theorem has_any (a : Option Addr) (n cap : Nat) (zs : List Int) (x : Int) (w : World) (hl : n = zs.length) (hbig : zs.length ≤ 9223372036854775807) (hc : Cells w a (ints zs)) :
    Calls Tryz.prog 18 #[.slice a n cap, .int .i64 x] w fun e w' => e = .returned (.bool (decide (x ∈ zs))) ∧ w = w' := by
  subst hl
  have hfin : Hid (decide (0 ≤ idxI zs x) = decide (x ∈ zs)) := idxI_nonneg zs x
  go_enter Tryz.func18, Tryz.ntmps18
  go_wp2_with (go_at_call 37; refine (index_any _ _ _ _ _ _ rfl hbig hc).mono ?_; rintro e w' ⟨rfl, rfl⟩)
  go_ret
  exact ⟨ret_bool hfin.out, rfl⟩

set_option maxHeartbeats 400000 in
theorem rising_any (a : Option Addr) (n cap : Nat) (zs : List Int) (w : World) (hl : n = zs.length) (hbig : zs.length ≤ 9223372036854775807) (hc : Cells w a (ints zs)) :
    Calls Tryz.prog 16 #[.slice a n cap] w fun e w' => e = .returned (.bool (incr zs)) ∧ ∃ n, w' = w.drewN n := by
  subst hl
  go_enter Tryz.func16, Tryz.ntmps16
  go_wp2
  go_loopw [3] (fun i wr => ∃ k n : Nat, 1 ≤ k ∧ i = .int .i64 k ∧ wr = w.drewN n ∧ ∀ j (hj : j < zs.length), 0 < j → j < k → zs[j - 1] < zs[j]) (fun i _ => zs.length - (intOf i).toNat)
  case atStart => exact ⟨1, 0, Nat.le_refl _, rfl, rfl, fun j _ h0 h1 => by omega⟩
  case round =>
    obtain ⟨k, n, hk, rfl, rfl, H0⟩ := hrel
    have H := Lib.hid H0
    clear H0
    by_cases hlt : k < zs.length
    · obtain ⟨b, off, rfl, _, hr⟩ := hc.at (by simp; omega)
      have hcell := ints_cell hr hlt
      have hcell' := ints_cell (j := k - 1) hr (by omega)
      clear hr hc
      by_cases he : zs[k] ≤ zs[k - 1]
      · have hfin : Hid (incr zs = false) := incr_false hk hlt he
        go_wp2
        go_quiet (fail)
        go_wp2
        go_ret
        exact ⟨ret_bool hfin.out.symm, _, World.drewN_drewN _ _ _⟩
      · have hnext : Hid (∀ j (hj : j < zs.length), 0 < j → j < k + 1 → zs[j - 1] < zs[j]) := fun j h2 h0 h1 => by
          rcases Nat.lt_or_eq_of_le (Nat.le_of_lt_succ h1) with h | h
          · exact H.out j h2 h0 h
          · subst h; omega
        go_wp2
        go_quiet (fail)
        go_wp2
        go_roundw
        case rel => exact ⟨k + 1, _, by omega, by go_num, rfl, hnext.out⟩
        case measure => simp [intOf]; omega
    · have hfin : Hid (incr zs = true) := incr_true fun j hj h0 => H.out j hj h0 (by omega)
      go_wp2
      go_ret
      exact ⟨ret_bool hfin.out.symm, _, rfl⟩
end Go.Proofs.YthpjmjohdliohaaGreat

namespace Go.Proofs.YthpjmjohdliohaaGreat

/-- The numbers in ascending order. -/
def asc (zs : List Int) : List Int := zs.mergeSort fun a b => decide (a ≤ b)

theorem asc_perm (zs : List Int) : (asc zs).Perm zs := List.mergeSort_perm _ _
theorem asc_length (zs : List Int) : (asc zs).length = zs.length := (asc_perm zs).length_eq
theorem asc_mem {zs : List Int} {x : Int} : x ∈ asc zs ↔ x ∈ zs := (asc_perm zs).mem_iff
theorem asc_sorted (zs : List Int) : (asc zs).Pairwise (· ≤ ·) := by
  have := List.pairwise_mergeSort (le := fun a b : Int => decide (a ≤ b)) (fun a b c h1 h2 => by simp at *; omega) (fun a b => by simp; omega) zs
  exact this.imp fun h => by simpa using h

/-- A sorted permutation is the list in ascending order. -/
theorem asc_unique {zs ys : List Int} (hp : ys.Perm zs) (hs : ys.Pairwise (· ≤ ·)) : ys = asc zs :=
  (hp.trans (asc_perm zs).symm).eq_of_pairwise (le := (· ≤ ·)) (fun a b _ _ h1 h2 => by omega) hs (asc_sorted zs)

/-- The first k ascend. -/
def SortedTo (ys : List Int) (k : Nat) : Prop := ∀ a b (hb : b < ys.length), (hab : a < b) → b < k → ys[a]'(Nat.lt_trans hab hb) ≤ ys[b]
/-- The first k + 1 ascend, but for the one at i, of which it is known that those behind it are not less. -/
def SortedBut (ys : List Int) (i k : Nat) : Prop := ∀ a b (hb : b < ys.length), (hab : a < b) → b ≤ k → b ≠ i → ys[a]'(Nat.lt_trans hab hb) ≤ ys[b]

theorem sortedTo_one (ys : List Int) : SortedTo ys 1 := fun a b _ h1 h2 => by omega
theorem SortedTo.but {ys : List Int} {k : Nat} (h : SortedTo ys k) : SortedBut ys k k := fun a b hb h1 h2 h3 => h a b hb h1 (by omega)
theorem SortedBut.done {ys : List Int} {i k : Nat} (h : SortedBut ys i k) (hi : ∀ (_ : 0 < i) (hl : i < ys.length), ys[i - 1] ≤ ys[i]) : SortedTo ys (k + 1) := by
  intro a b hb h1 h2
  by_cases e : b = i
  · subst e
    have h0 := hi (by omega) hb
    by_cases e2 : a = b - 1
    · subst e2; exact h0
    · have := h a (b - 1) (by omega) (by omega) (by omega) (by omega)
      omega
  · exact h a b hb h1 (by omega) e
theorem SortedTo.all {ys : List Int} {k : Nat} (h : SortedTo ys k) (hk : ys.length ≤ k) : ys.Pairwise (· ≤ ·) := by
  rw [List.pairwise_iff_getElem]
  intro i j hi hj hij
  exact h i j hj hij (by omega)

/-- Two neighbours changed about. -/
def swap1 (ys : List Int) (i : Nat) : List Int := (ys.set i (ys.getD (i - 1) 0)).set (i - 1) (ys.getD i 0)
theorem swap1_length (ys : List Int) (i : Nat) : (swap1 ys i).length = ys.length := by simp [swap1]
theorem swap1_get (ys : List Int) (i : Nat) (h0 : 0 < i) (hi : i < ys.length) (j : Nat) (hj : j < (swap1 ys i).length) :
    (swap1 ys i)[j] = if j = i - 1 then ys[i] else if j = i then ys[i - 1] else ys[j]'(by rw [swap1_length] at hj; exact hj) := by
  have e1 : ys.getD i 0 = ys[i] := by simp [hi]
  have e2 : ys.getD (i - 1) 0 = ys[i - 1]'(by omega) := by simp [show i - 1 < ys.length by omega]
  have e : swap1 ys i = (ys.set i (ys[i - 1]'(by omega))).set (i - 1) ys[i] := by rw [swap1, e1, e2]
  rw [List.getElem_of_eq e, List.getElem_set, List.getElem_set]
  by_cases h1 : j = i - 1
  · rw [if_pos h1.symm, if_pos h1]
  · rw [if_neg (fun e => h1 e.symm), if_neg h1]
    by_cases h2 : j = i
    · rw [if_pos h2.symm, if_pos h2]
    · rw [if_neg (fun e => h2 e.symm), if_neg h2]
theorem swap1_perm (ys : List Int) (i : Nat) (h0 : 0 < i) (hi : i < ys.length) : (swap1 ys i).Perm ys := by
  have h1 : i - 1 < ys.length := by omega
  have e1 : ys.getD i 0 = ys[i] := by simp [hi]
  have e2 : ys.getD (i - 1) 0 = ys[i - 1]'(by omega) := by simp [h1]
  unfold swap1
  rw [e1, e2]
  exact List.set_set_perm hi h1
theorem SortedBut.swap {ys : List Int} {i k : Nat} (h : SortedBut ys i k) (h0 : 0 < i) (hik : i ≤ k) (hk : k < ys.length) (hlt : ys[i] < ys[i - 1]) : SortedBut (swap1 ys i) (i - 1) k := by
  intro a b hb h1 h2 h3
  have hb' : b < ys.length := by rw [swap1_length] at hb; exact hb
  rw [swap1_get ys i h0 (by omega) a (by omega), swap1_get ys i h0 (by omega) b hb]
  rw [if_neg h3]
  by_cases e1 : a = i - 1
  · rw [if_pos e1]
    by_cases e2 : b = i
    · rw [if_pos e2]; omega
    · rw [if_neg e2]
      exact h i b hb' (by omega) h2 e2
  · rw [if_neg e1]
    by_cases e2 : a = i
    · rw [if_pos e2, if_neg (by omega)]
      exact h (i - 1) b hb' (by omega) h2 (by omega)
    · rw [if_neg e2]
      by_cases e3 : b = i
      · rw [if_pos e3]
        exact h a (i - 1) (by omega) (by omega) (by omega) (by omega)
      · rw [if_neg e3]
        exact h a b hb' h1 h2 e3

theorem incr_asc (zs : List Int) : incr (asc zs) = decide zs.Nodup := by
  have h : (asc zs).Pairwise (· < ·) ↔ zs.Nodup := by
    constructor
    · intro h
      exact ((asc_perm zs).nodup_iff).1 (h.imp fun h => by omega)
    · intro h
      have hn : (asc zs).Nodup := ((asc_perm zs).nodup_iff).2 h
      exact (hn.and (asc_sorted zs)).imp fun ⟨h1, h2⟩ => by omega
  unfold incr
  simp only [h]
end Go.Proofs.YthpjmjohdliohaaGreat

namespace Go.Proofs.YthpjmjohdliohaaGreat
open Go.RowKit

structure Gr where
  dir : Bool
  nodes : List Int
  edges : List (Int × Int × Int)

def edgeCells (es : List (Int × Int × Int)) : List Value := es.flatMap fun e => [.int .i64 e.1, .int .i64 e.2.1, .int .i64 e.2.2]

theorem edgeCells_length (es : List (Int × Int × Int)) : (edgeCells es).length = es.length * 3 := by
  induction es with
  | nil => rfl
  | cons e es ih => simp only [edgeCells, List.flatMap_cons, List.length_append, List.length_cons, List.length_nil] at *; omega

theorem edgeCells_get (es : List (Int × Int × Int)) (j : Nat) (hj : j < es.length) :
    (edgeCells es)[j * 3]? = some (.int .i64 es[j].1) ∧ (edgeCells es)[j * 3 + 1]? = some (.int .i64 es[j].2.1) ∧ (edgeCells es)[j * 3 + 2]? = some (.int .i64 es[j].2.2) := by
  induction es generalizing j with
  | nil => simp at hj
  | cons e es ih =>
    cases j with
    | zero => simp [edgeCells]
    | succ j =>
      have := ih j (by simpa using hj)
      have e3 : ∀ r, (edgeCells (e :: es))[(j + 1) * 3 + r]? = (edgeCells es)[j * 3 + r]? := fun r => by
        show (([.int .i64 e.1, .int .i64 e.2.1, .int .i64 e.2.2] : List Value) ++ edgeCells es)[(j + 1) * 3 + r]? = _
        rw [List.getElem?_append_right (by simp; omega)]
        congr 1
        simp; omega
      have e0 := e3 0
      have e1 := e3 1
      have e2 := e3 2
      simp only [Nat.add_zero] at e0
      rw [e0, e1, e2]
      simpa using this

/-- An edge that is not bad. -/
def okEdge (nodes : List Int) (e : Int × Int × Int) : Bool := decide (e.1 ≠ e.2.1 ∧ e.1 ∈ nodes ∧ e.2.1 ∈ nodes ∧ e.2.2 ≤ 1099511627776 ∧ -1099511627776 ≤ e.2.2)
/-- A graph that is not bad. -/
def okGraph (g : Gr) : Bool := decide g.nodes.Nodup && g.edges.all (okEdge g.nodes)

/-- The graph's slices in memory. -/
structure GrAt (w : World) (g : Gr) (an : Option Addr) (cn : Nat) (ae : Option Addr) : Prop where
  nodes : Cells w an (ints g.nodes)
  edges : Cells w ae (edgeCells g.edges)
  none : an = none → cn = 0

theorem GrAt.below {w w' : World} {g : Gr} {an ae : Option Addr} {cn : Nat} (h : GrAt w g an cn ae) (hb : Below w.heap.size w w') : GrAt w' g an cn ae :=
  ⟨h.nodes.below hb, h.edges.below hb, h.none⟩

/-- The value of a graph. -/
def grv (g : Gr) (an : Option Addr) (cn : Nat) (ae : Option Addr) (ce : Nat) : Value := .agg #[.bool g.dir, .slice an g.nodes.length cn, .slice ae g.edges.length ce]

theorem edge_cells {w : World} {b off : Nat} {es : List (Int × Int × Int)} (h : w.rangeAt b off (edgeCells es)) {j : Nat} (hj : j < es.length) :
    w.cell? ⟨b, off + j * 3, none⟩ = some (.int .i64 es[j].1) ∧ w.cell? ⟨b, off + j * 3 + 1, none⟩ = some (.int .i64 es[j].2.1) ∧ w.cell? ⟨b, off + j * 3 + 2, none⟩ = some (.int .i64 es[j].2.2) := by
  obtain ⟨h1, h2, h3⟩ := edgeCells_get es j hj
  exact ⟨h _ _ h1, by rw [Nat.add_assoc]; exact h _ _ h2, by rw [Nat.add_assoc]; exact h _ _ h3⟩

theorem okGraph_false {g : Gr} {k : Nat} (hk : k < g.edges.length) (h : okEdge g.nodes g.edges[k] = false) : okGraph g = false := by
  have : g.edges.all (okEdge g.nodes) = false := List.all_eq_false.2 ⟨_, List.getElem_mem hk, by simp [h]⟩
  simp [okGraph, this]

/-- Whether an edge leads from u to v (in an undirected graph also the other way round). -/
def hits (dir : Bool) (u v : Int) (e : Int × Int × Int) : Prop := (e.1 = u ∧ e.2.1 = v) ∨ (dir = false ∧ e.1 = v ∧ e.2.1 = u)
instance (dir : Bool) (u v : Int) (e : Int × Int × Int) : Decidable (hits dir u v e) := by unfold hits; exact inferInstance
/-- Whether there is an edge from u to v. -/
def arcB (g : Gr) (u v : Int) : Bool := g.edges.any fun e => decide (hits g.dir u v e)

theorem arcB_true {g : Gr} {u v : Int} {k : Nat} (hk : k < g.edges.length) (h : hits g.dir u v g.edges[k]) : arcB g u v = true :=
  List.any_eq_true.2 ⟨_, List.getElem_mem hk, decide_eq_true h⟩
theorem arcB_false {g : Gr} {u v : Int} (h : ∀ k (hk : k < g.edges.length), ¬ hits g.dir u v g.edges[k]) : arcB g u v = false :=
  List.any_eq_false.2 fun e he => by
    obtain ⟨j, hj, rfl⟩ := List.mem_iff_getElem.1 he
    simpa using h j hj
end Go.Proofs.YthpjmjohdliohaaGreat
