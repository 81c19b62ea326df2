/- Lists of arcs in memory, ascending by their ends; slices.BinarySearchFunc over them. -/
import Derived.Test.YthpjmjohdliohaaGreatSearch
import Derived.Test.YthpjmjohdliohaaGreatBase
namespace Go.Proofs.YthpjmjohdliohaaGreat
open Go.RowKit

/-- An arc: the place of its end, and the bits of its weight. -/
abbrev Arc := Nat × Nat
def arcv (a : Arc) : Value := .agg #[.int .i64 a.1, .float .f64 a.2]
def arcCells (l : List Arc) : List Value := l.flatMap fun a => [.int .i64 a.1, .float .f64 a.2]

theorem arcCells_length (l : List Arc) : (arcCells l).length = l.length * 2 := by
  induction l with
  | nil => rfl
  | cons e es ih => simp only [arcCells, List.flatMap_cons, List.length_append, List.length_cons, List.length_nil] at *; omega
theorem arcCells_append (l m : List Arc) : arcCells (l ++ m) = arcCells l ++ arcCells m := by simp [arcCells]
theorem arcCells_take (l : List Arc) (k : Nat) : arcCells (l.take k) = (arcCells l).take (k * 2) := by
  induction l generalizing k with
  | nil => simp [arcCells]
  | cons e es ih =>
    cases k with
    | zero => simp [arcCells]
    | succ k =>
      have h := ih k
      show ([.int .i64 (e.1 : Int), .float .f64 e.2] : List Value) ++ arcCells (es.take k) = (([.int .i64 (e.1 : Int), .float .f64 e.2] : List Value) ++ arcCells es).take ((k + 1) * 2)
      rw [h, show (k + 1) * 2 = (k * 2) + 1 + 1 by omega]
      rfl
theorem arcCells_drop (l : List Arc) (k : Nat) : arcCells (l.drop k) = (arcCells l).drop (k * 2) := by
  induction l generalizing k with
  | nil => simp [arcCells]
  | cons e es ih =>
    cases k with
    | zero => simp [arcCells]
    | succ k =>
      have h := ih k
      show arcCells (es.drop k) = (([.int .i64 (e.1 : Int), .float .f64 e.2] : List Value) ++ arcCells es).drop ((k + 1) * 2)
      rw [h, show (k + 1) * 2 = (k * 2) + 1 + 1 by omega]
      rfl
theorem arcCells_get (l : List Arc) (j : Nat) (hj : j < l.length) :
    (arcCells l)[j * 2]? = some (.int .i64 l[j].1) ∧ (arcCells l)[j * 2 + 1]? = some (.float .f64 l[j].2) := by
  have h : (arcCells (l.drop j)) = (arcCells l).drop (j * 2) := arcCells_drop l j
  rw [List.drop_eq_getElem_cons hj] at h
  have h0 : (arcCells l)[j * 2]? = ((arcCells l).drop (j * 2))[0]? := by rw [List.getElem?_drop]; rfl
  have h1 : (arcCells l)[j * 2 + 1]? = ((arcCells l).drop (j * 2))[1]? := by rw [List.getElem?_drop]
  rw [h0, h1, ← h]
  exact ⟨rfl, rfl⟩
theorem arc_one (l : List Arc) : ∀ u ∈ arcCells l, u.oneCell' = true := by
  intro u hu
  simp only [arcCells, List.mem_flatMap, List.mem_cons, List.not_mem_nil, or_false] at hu
  obtain ⟨a, _, h | h⟩ := hu <;> subst h <;> rfl
theorem arc_cells {w : World} {b off : Nat} {l : List Arc} (h : w.rangeAt b off (arcCells l)) {j : Nat} (hj : j < l.length) :
    w.cell? ⟨b, off + j * 2, none⟩ = some (.int .i64 l[j].1) ∧ w.cell? ⟨b, off + j * 2 + 1, none⟩ = some (.float .f64 l[j].2) := by
  obtain ⟨h1, h2⟩ := arcCells_get l j hj
  exact ⟨h _ _ h1, by rw [Nat.add_assoc]; exact h _ _ h2⟩

/-- Ascending by the ends. -/
def ArcsAsc (l : List Arc) : Prop := l.Pairwise fun a b => a.1 < b.1
/-- How many arcs end ahead of a place. -/
def arcPos (l : List Arc) (k : Nat) : Nat := l.countP fun a => decide (a.1 < k)
/-- Whether an arc ends at a place. -/
def arcHas (l : List Arc) (k : Nat) : Bool := l.any fun a => a.1 == k

theorem arcPos_eq {l : List Arc} {x k : Nat} (hk : k ≤ l.length) (h1 : ∀ j (hj : j < l.length), j < k → l[j].1 < x) (h2 : ∀ j (hj : j < l.length), k ≤ j → x ≤ l[j].1) : arcPos l x = k := by
  unfold arcPos
  rw [← List.take_append_drop k l, List.countP_append]
  have e1 : (l.take k).countP (fun z => decide (z.1 < x)) = k := by
    rw [List.countP_eq_length.2]
    · simp; omega
    · intro z hz
      obtain ⟨j, hj, rfl⟩ := List.mem_iff_getElem.1 hz
      simp only [List.length_take] at hj
      simpa using h1 j (by omega) (by omega)
  have e2 : (l.drop k).countP (fun z => decide (z.1 < x)) = 0 := by
    rw [List.countP_eq_zero]
    intro z hz
    obtain ⟨j, hj, rfl⟩ := List.mem_iff_getElem.1 hz
    simp only [List.length_drop] at hj
    have := h2 (k + j) (by omega) (by omega)
    simp
    omega
  omega
theorem arcPos_le (l : List Arc) (k : Nat) : arcPos l k ≤ l.length := List.countP_le_length

/-- What the comparison of an arc with a place does: their difference; it may lay blocks. -/
def ArcCmp (P : Program) (g : FuncId) : Prop := ∀ (a : Arc) (k : Nat) (W : World), a.1 ≤ 1048576 → k ≤ 1048576 →
  Calls P g #[arcv a, .int .i64 k] W fun e W' => e = .returned (.int .i64 ((a.1 : Int) - (k : Int))) ∧ Below W.heap.size W W'

theorem setCmp_any : ArcCmp Tryz.prog 121 := by
  intro a k W h1 h2
  obtain ⟨a, x⟩ := a
  simp only [arcv] at *
  go_enter Tryz.func121, Tryz.ntmps121
  go_wp2
  go_ret
  exact ⟨rfl, alloc_below W _⟩

set_option maxHeartbeats 1000000 in
theorem searchArc_any (g : FuncId) (eg : ∀ args w, (callFunc g args).run Tryz.prog w = .ok (.enter g args) w) (hcmp : ArcCmp Tryz.prog g)
    (a : Option Addr) (n cap : Nat) (l : List Arc) (x : Nat) (w : World) (hl : n = l.length) (hsm : l.length ≤ 1048576) (hx : x ≤ 1048576) (hb : ∀ a ∈ l, a.1 ≤ 1048576) (hc : Cells w a (arcCells l)) (hs : ArcsAsc l) :
    Calls Tryz.prog 120 #[.slice a n cap, .int .i64 x, .func (.func g) #[] #[]] w
      fun e w' => e = .returned (.tuple #[.int .i64 (arcPos l x : Nat), .bool (arcHas l x)]) ∧ Below w.heap.size w w' := by
  subst hl
  have hcmp' := Lib.hid hcmp
  have hb' := Lib.hid hb
  have hs' := Lib.hid hs
  clear hcmp hb hs
  go_enter Tryz.func120, Tryz.ntmps120
  go_wp2
  go_loopw [9, 10] (fun lo hi wr => ∃ p h : Nat, p ≤ h ∧ h ≤ l.length ∧ lo = .int .i64 p ∧ hi = .int .i64 h ∧ (∀ j (hj : j < l.length), j < p → l[j].1 < x) ∧ (∀ j (hj : j < l.length), h ≤ j → x ≤ l[j].1) ∧ Below w.heap.size w wr)
    (fun lo hi _ => (intOf hi).toNat - (intOf lo).toNat)
  case atStart => exact ⟨0, l.length, Nat.zero_le _, Nat.le_refl _, rfl, rfl, fun j _ hj => absurd hj (Nat.not_lt_zero _), fun j h1 h2 => by omega, Below.refl _ _⟩
  case round =>
    obtain ⟨p, h, hph, hh, rfl, rfl, H10, H20, hbr⟩ := hrel
    have H1 := Lib.hid H10
    have H2 := Lib.hid H20
    have hcr := hc.below hbr
    clear H10 H20 hc
    by_cases hlt : p < h
    · obtain ⟨b, off, rfl, _, hr⟩ := hcr.at (by rw [arcCells_length]; omega)
      have hmid : (p + h) / 2 < l.length := by omega
      obtain ⟨c1, c2⟩ := arc_cells (j := (p + h) / 2) hr hmid
      have hm1 : l[(p + h) / 2].1 ≤ 1048576 := hb'.out _ (List.getElem_mem hmid)
      obtain ⟨u, hu0⟩ : ∃ u, u = l[(p + h) / 2] := ⟨_, rfl⟩
      rw [← hu0] at c1 c2 hm1
      have hu := Lib.hid hu0
      obtain ⟨u1, u2⟩ := u
      simp only [] at c1 c2 hm1
      clear hr hcr hu0
      by_cases hq : u1 < x
      · have hq' : decide ((u1 : Int) - (x : Int) < 0) = true := decide_eq_true (by omega)
        go_wp2_with fail
        refine (unhide hcmp' (u1, u2) x _ hm1 hx).mono ?_
        rintro e w1 ⟨rfl, hb1⟩
        go_wp2_with fail
        go_roundw
        case rel =>
          refine ⟨(p + h) / 2 + 1, h, by omega, hh, by go_num, rfl, fun j hj hlt' => ?_, H2.out, below_trans hbr hb1⟩
          have hum : l[(p + h) / 2].1 < x := by rw [← hu.out]; exact hq
          rcases Nat.lt_or_eq_of_le (Nat.le_of_lt_succ hlt') with hx | hx
          · have := List.pairwise_iff_getElem.1 hs'.out j ((p + h) / 2) hj hmid hx
            omega
          · subst hx; exact hum
        case measure => simp only [intOf]; omega
      · have hq' : decide ((u1 : Int) - (x : Int) < 0) = false := decide_eq_false (by omega)
        go_wp2_with fail
        refine (unhide hcmp' (u1, u2) x _ hm1 hx).mono ?_
        rintro e w1 ⟨rfl, hb1⟩
        go_wp2_with fail
        go_roundw
        case rel =>
          refine ⟨p, (p + h) / 2, by omega, by omega, rfl, by go_num, H1.out, fun j hj hge => ?_, below_trans hbr hb1⟩
          have hum : x ≤ l[(p + h) / 2].1 := by rw [← hu.out]; show x ≤ u1; omega
          rcases Nat.lt_or_eq_of_le hge with hx | hx
          · have := List.pairwise_iff_getElem.1 hs'.out ((p + h) / 2) j hmid hj hx
            omega
          · subst hx; exact hum
        case measure => simp only [intOf]; omega
    · have hpe : p = h := by omega
      subst hpe
      have hpos : Hid (arcPos l x = p) := arcPos_eq hh H1.out H2.out
      by_cases hll : p < l.length
      · obtain ⟨b, off, rfl, _, hr⟩ := hcr.at (by rw [arcCells_length]; omega)
        obtain ⟨c1, c2⟩ := arc_cells (j := p) hr hll
        have hm1 : l[p].1 ≤ 1048576 := hb'.out _ (List.getElem_mem hll)
        obtain ⟨u, hu0⟩ : ∃ u, u = l[p] := ⟨_, rfl⟩
        rw [← hu0] at c1 c2 hm1
        have hu := Lib.hid hu0
        obtain ⟨u1, u2⟩ := u
        simp only [] at c1 c2 hm1
        clear hr hcr hu0
        by_cases he : u1 = x
        · have he' : ((u1 : Int) - (x : Int) == 0) = true := by simp; omega
          have hm : Hid (arcHas l x = true) := List.any_eq_true.2 ⟨l[p], List.getElem_mem hll, by rw [← hu.out]; simpa using he⟩
          clear he
          go_wp2_with fail
          refine (unhide hcmp' (u1, u2) x _ hm1 hx).mono ?_
          rintro e w1 ⟨rfl, hb1⟩
          go_wp2_with fail
          go_ret2
          exact ⟨ret_pos hpos.out hm.out, below_trans hbr hb1⟩
        · have he' : ((u1 : Int) - (x : Int) == 0) = false := by simp; omega
          have hm : Hid (arcHas l x = false) := List.any_eq_false.2 fun z hz => by
            obtain ⟨j, hj, rfl⟩ := List.mem_iff_getElem.1 hz
            rcases Nat.lt_trichotomy j p with hx' | hx' | hx'
            · have := H1.out j hj hx'; simp; omega
            · subst hx'; rw [← hu.out]; simpa using he
            · have h1 := List.pairwise_iff_getElem.1 hs'.out p j hll hj hx'
              have h2 := H2.out p hll (Nat.le_refl _)
              simp
              omega
          clear he
          go_wp2_with fail
          refine (unhide hcmp' (u1, u2) x _ hm1 hx).mono ?_
          rintro e w1 ⟨rfl, hb1⟩
          go_wp2_with fail
          go_ret2
          exact ⟨ret_pos hpos.out hm.out, below_trans hbr hb1⟩
      · have hd : decide (p < l.length) = false := decide_eq_false hll
        have hm : Hid (arcHas l x = false) := List.any_eq_false.2 fun z hz => by
          obtain ⟨j, hj, rfl⟩ := List.mem_iff_getElem.1 hz
          have := H1.out j hj (by omega)
          simp
          omega
        go_wp2_with fail
        go_ret2
        exact ⟨ret_pos hpos.out hm.out, hbr⟩
end Go.Proofs.YthpjmjohdliohaaGreat
