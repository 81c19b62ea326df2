/- Floats that stand for whole numbers, pure: what float64(n) gives, sums, orders, and the way back. -/
import Derived.Laws.FloatArith
namespace Go.Proofs.YtgkimjjodhnmiaaGreat

/-- The greatest size of a whole number of which float64 has all up to it. -/
def FlB : Nat := 9007199254740992

theorem log2_mul_pow (m k : Nat) (h : m ≠ 0) : (m * 2 ^ k).log2 = m.log2 + k := by
  have h1 := Nat.log2_self_le h
  have h2 : m < 2 ^ (m.log2 + 1) := Nat.lt_log2_self
  have hk : 0 < 2 ^ k := Nat.two_pow_pos k
  have hne : m * 2 ^ k ≠ 0 := Nat.mul_ne_zero h (by omega)
  refine Nat.le_antisymm ?_ ?_
  · have : (m * 2 ^ k).log2 < m.log2 + 1 + k := (Nat.log2_lt hne).2 (by rw [Nat.pow_add]; exact Nat.mul_lt_mul_of_pos_right h2 hk)
    omega
  · exact (Nat.le_log2 hne).2 (by rw [Nat.pow_add]; exact Nat.mul_le_mul_right _ h1)

theorem cut_zero (way : Ieee.Toward) (hw : way = .even ∨ way = .zero) (neg : Bool) (n drop q : Nat) (h : n = q * 2 ^ drop) : way.cut neg n drop = q := by
  unfold Ieee.Toward.cut
  by_cases h0 : q = 0
  · subst h0
    rw [Nat.zero_mul] at h
    subst h
    rcases hw with rfl | rfl <;> simp
  · have hl : n.log2 = q.log2 + drop := by rw [h]; exact log2_mul_pow q drop h0
    have hm : min drop (n.log2 + 2) = drop := by omega
    have hp : 0 < 2 ^ drop := Nat.two_pow_pos _
    have hd : n / 2 ^ drop = q := by rw [h]; exact Nat.mul_div_cancel _ hp
    have hr : n % 2 ^ drop = 0 := by rw [h]; exact Nat.mul_mod_left _ _
    simp only [hm, Nat.shiftLeft_eq, Nat.one_mul, hd, hr]
    rcases hw with rfl | rfl
    · have h1 : ¬ 2 ^ drop < 2 * 0 := by omega
      have h2 : (2 ^ drop == 2 * 0) = false := by rw [beq_eq_false_iff_ne]; omega
      simp [h1, h2]
    · simp

set_option maxRecDepth 10000 in
theorem nearest_whole (neg : Bool) (m k : Nat) (h0 : m ≠ 0) (hm : m < FlB) : Ieee.double.nearest neg (m * 2 ^ k) (-(k : Int)) = Ieee.double.word neg ((m.log2 + 1022) * 2 ^ 52 + m * 2 ^ (52 - m.log2)) := by
  have hL : m.log2 ≤ 52 := by
    have := (Nat.log2_lt h0 (k := 53)).2 (by unfold FlB at hm; simpa using hm)
    omega
  have hk : 0 < 2 ^ k := Nat.two_pow_pos k
  have hne : m * 2 ^ k ≠ 0 := Nat.mul_ne_zero h0 (by omega)
  have hlp : Ieee.double.leastPlace = -1074 := by decide
  have hfb : Ieee.double.fractionBits = 52 := rfl
  have hlast : max (-(k : Int) + ((m * 2 ^ k).log2 : Nat) - ((52 : Nat) : Int)) (-1074) = (m.log2 : Int) - 52 := by
    rw [log2_mul_pow m k h0]
    omega
  have hq : m * 2 ^ (52 - m.log2) < 2 ^ 53 := by
    have h2 : m < 2 ^ (m.log2 + 1) := Nat.lt_log2_self
    have : m * 2 ^ (52 - m.log2) < 2 ^ (m.log2 + 1) * 2 ^ (52 - m.log2) := Nat.mul_lt_mul_of_pos_right h2 (Nat.two_pow_pos _)
    rw [← Nat.pow_add, show m.log2 + 1 + (52 - m.log2) = 53 from by omega] at this
    exact this
  unfold Ieee.Format.nearest
  rw [if_neg hne]
  simp only [hfb, hlp, hlast]
  have hcut : Ieee.Toward.even.cut neg ((m * 2 ^ k) <<< (-(k : Int) - ((m.log2 : Int) - 52)).toNat) ((m.log2 : Int) - 52 - -(k : Int)).toNat = m * 2 ^ (52 - m.log2) := by
    refine cut_zero _ (.inl rfl) _ _ _ _ ?_
    rw [Nat.shiftLeft_eq]
    by_cases hc : k + m.log2 ≤ 52
    · rw [show (-(k : Int) - ((m.log2 : Int) - 52)).toNat = 52 - m.log2 - k from by omega, show ((m.log2 : Int) - 52 - -(k : Int)).toNat = 0 from by omega, Nat.pow_zero, Nat.mul_one, Nat.mul_assoc, ← Nat.pow_add, show k + (52 - m.log2 - k) = 52 - m.log2 from by omega]
    · rw [show (-(k : Int) - ((m.log2 : Int) - 52)).toNat = 0 from by omega, show ((m.log2 : Int) - 52 - -(k : Int)).toNat = k + m.log2 - 52 from by omega, Nat.pow_zero, Nat.mul_one, Nat.mul_assoc, ← Nat.pow_add, show 52 - m.log2 + (k + m.log2 - 52) = k from by omega]
  rw [hcut]
  have he : ((m.log2 : Int) - 52 - -1074).toNat = m.log2 + 1022 := by omega
  have hb : Ieee.double.binade = 2 ^ 52 := rfl
  have hi : Ieee.double.infRung = 2047 * 2 ^ 52 := rfl
  rw [he, hb, hi, Nat.min_eq_left]
  generalize m * 2 ^ (52 - m.log2) = q at hq ⊢
  generalize m.log2 = L at hL ⊢
  omega

set_option maxRecDepth 10000 in
theorem read_word (neg : Bool) (e q : Nat) (h1 : 2 ^ 52 ≤ q) (h2 : q < 2 ^ 53) (he : e < 2000) : Ieee.double.read (Ieee.double.word neg (e * 2 ^ 52 + q)) = .number neg q ((e : Int) - 1074) := by
  have hlp : Ieee.double.leastPlace = -1074 := by decide
  have hb : Ieee.double.binade = 2 ^ 52 := rfl
  have hi : Ieee.double.infRung = 2047 * 2 ^ 52 := rfl
  have hs : Ieee.double.signWeight = 2 ^ 63 := rfl
  have hr : e * 2 ^ 52 + q < 2 ^ 63 := by omega
  have hneg : (Ieee.double.word neg (e * 2 ^ 52 + q) / 2 ^ 63 % 2 == 1) = neg := by
    unfold Ieee.Format.word
    rw [hs]
    cases neg
    · rw [if_neg (by simp), Nat.div_eq_of_lt hr]; rfl
    · rw [if_pos rfl, show (2 ^ 63 + (e * 2 ^ 52 + q)) / 2 ^ 63 = 1 from by omega]; rfl
  have hrung : Ieee.double.word neg (e * 2 ^ 52 + q) % 2 ^ 63 = e * 2 ^ 52 + q := by
    unfold Ieee.Format.word
    rw [hs]
    cases neg
    · rw [if_neg (by simp), Nat.mod_eq_of_lt hr]
    · rw [if_pos rfl]; omega
  unfold Ieee.Format.read
  simp only [hs, hneg, hrung, hb, hi, hlp]
  rw [if_neg (by omega), if_pos (by omega)]
  have a1 : 2 ^ 52 + (e * 2 ^ 52 + q) % 2 ^ 52 = q := by omega
  have a2 : ((-1074 : Int) + (((e * 2 ^ 52 + q) / 2 ^ 52 - 1 : Nat) : Int)) = (e : Int) - 1074 := by omega
  rw [a1, a2]

/-- A datum that stands for a whole number. -/
def Rep (d : Ieee.Datum) (n : Int) : Prop := ∃ (s : Bool) (k : Nat), d = .number s (n.natAbs * 2 ^ k) (-(k : Int)) ∧ s = decide (n < 0)

/-- The word of a whole number. -/
def fl (n : Int) : Nat := floatOfInt FloatKind.f64 n

theorem fl_eq (n : Int) : fl n = Ieee.double.nearest (decide (n < 0)) n.natAbs 0 := rfl

set_option exponentiation.threshold 2000 in
theorem rep_fl {n : Int} (h : n.natAbs < FlB) : Rep (Ieee.double.read (fl n)) n := by
  by_cases h0 : n = 0
  · subst h0
    refine ⟨false, 1074, ?_, rfl⟩
    have : Ieee.double.read (fl 0) = .number false 0 (-1074) := by decide
    rw [this]
    simp
  · have hn : n.natAbs ≠ 0 := by omega
    have hL : n.natAbs.log2 ≤ 52 := by
      have := (Nat.log2_lt hn (k := 53)).2 (by unfold FlB at h; simpa using h)
      omega
    have h1 := nearest_whole (decide (n < 0)) n.natAbs 0 hn h
    rw [Nat.pow_zero, Nat.mul_one] at h1
    have hlo : 2 ^ 52 ≤ n.natAbs * 2 ^ (52 - n.natAbs.log2) := by
      have h3 : 2 ^ n.natAbs.log2 ≤ n.natAbs := Nat.log2_self_le hn
      have h4 : 2 ^ n.natAbs.log2 * 2 ^ (52 - n.natAbs.log2) ≤ n.natAbs * 2 ^ (52 - n.natAbs.log2) := Nat.mul_le_mul_right _ h3
      rwa [← Nat.pow_add, show n.natAbs.log2 + (52 - n.natAbs.log2) = 52 from by omega] at h4
    have hhi : n.natAbs * 2 ^ (52 - n.natAbs.log2) < 2 ^ 53 := by
      have h2 : n.natAbs < 2 ^ (n.natAbs.log2 + 1) := Nat.lt_log2_self
      have : n.natAbs * 2 ^ (52 - n.natAbs.log2) < 2 ^ (n.natAbs.log2 + 1) * 2 ^ (52 - n.natAbs.log2) := Nat.mul_lt_mul_of_pos_right h2 (Nat.two_pow_pos _)
      rw [← Nat.pow_add, show n.natAbs.log2 + 1 + (52 - n.natAbs.log2) = 53 from by omega] at this
      exact this
    refine ⟨decide (n < 0), 52 - n.natAbs.log2, ?_, rfl⟩
    rw [fl_eq]
    have h1' : Ieee.double.nearest (decide (n < 0)) n.natAbs 0 = Ieee.double.word (decide (n < 0)) ((n.natAbs.log2 + 1022) * 2 ^ 52 + n.natAbs * 2 ^ (52 - n.natAbs.log2)) := h1
    rw [h1', read_word _ _ _ hlo hhi (by omega), show (((n.natAbs.log2 + 1022 : Nat) : Int) - 1074) = -((52 - n.natAbs.log2 : Nat) : Int) from by omega]

set_option maxRecDepth 10000 in
theorem write_rep {d : Ieee.Datum} {n : Int} (h : Rep d n) (hn : n.natAbs < FlB) : Ieee.double.write d = fl n := by
  obtain ⟨s, k, rfl, rfl⟩ := h
  rw [fl_eq]
  show Ieee.double.nearest _ _ _ = _
  by_cases h0 : n.natAbs = 0
  · have e : n = 0 := by omega
    subst e
    unfold Ieee.Format.nearest
    simp
  · rw [nearest_whole _ _ k h0 hn]
    have := nearest_whole (decide (n < 0)) n.natAbs 0 h0 hn
    rw [Nat.pow_zero, Nat.mul_one] at this
    exact this.symm

theorem signed_rep (n : Int) (k j : Nat) : Ieee.signed (decide (n < 0)) (n.natAbs * 2 ^ k) j = n * 2 ^ (k + j) := by
  unfold Ieee.signed
  rw [Nat.shiftLeft_eq, Nat.mul_assoc, ← Nat.pow_add]
  by_cases h : n < 0
  · rw [if_pos (decide_eq_true h), Int.natCast_mul, Int.natCast_pow, ← Int.neg_mul]
    congr 1
    omega
  · rw [if_neg (by simpa using h), Int.natCast_mul, Int.natCast_pow]
    congr 1
    omega

theorem rep_toInt {d : Ieee.Datum} {n : Int} (h : Rep d n) : d.toInt .zero = some n := by
  obtain ⟨s, k, rfl, rfl⟩ := h
  unfold Ieee.Datum.toInt Ieee.Datum.integral
  simp only
  have h1 : (-(k : Int)).toNat = 0 := by omega
  have h2 : (- -(k : Int)).toNat = k := by omega
  rw [h1, h2, Nat.shiftLeft_zero, cut_zero .zero (.inr rfl) _ _ _ n.natAbs rfl]
  have := signed_rep n 0 0
  simp only [Nat.pow_zero, Nat.mul_one, Nat.add_zero] at this
  rw [this]; simp

theorem pow_pos' (k : Nat) : (0 : Int) < 2 ^ k := by
  have := Nat.two_pow_pos k
  exact_mod_cast this

theorem rep_sum {d e : Ieee.Datum} {m n : Int} (h : Rep d m) (g : Rep e n) : ∃ c, d.sum e = some c ∧ Rep c (m + n) := by
  obtain ⟨s, k, rfl, rfl⟩ := h
  obtain ⟨t, j, rfl, rfl⟩ := g
  unfold Ieee.Datum.sum
  simp only
  have hb : min (-(k : Int)) (-(j : Int)) = -((max k j : Nat) : Int) := by omega
  rw [hb]
  have h1 : (-(k : Int) - -((max k j : Nat) : Int)).toNat = max k j - k := by omega
  have h2 : (-(j : Int) - -((max k j : Nat) : Int)).toNat = max k j - j := by omega
  rw [h1, h2, signed_rep, signed_rep, show k + (max k j - k) = max k j from by omega, show j + (max k j - j) = max k j from by omega, ← Int.add_mul]
  have hp := pow_pos' (max k j)
  refine ⟨_, rfl, _, max k j, ?_, rfl⟩
  have hz : (m + n) * 2 ^ max k j = 0 ↔ m + n = 0 := by
    constructor
    · intro h
      rcases Int.mul_eq_zero.1 h with h | h
      · exact h
      · omega
    · intro h; rw [h, Int.zero_mul]
  have hneg : (m + n) * 2 ^ max k j < 0 ↔ m + n < 0 := by
    constructor
    · intro h
      rcases Int.lt_or_le (m + n) 0 with h1 | h1
      · exact h1
      · have := Int.mul_nonneg h1 (Int.le_of_lt hp); omega
    · intro h; exact Int.mul_neg_of_neg_of_pos h hp
  congr 1
  · by_cases hc : m + n = 0
    · rw [if_pos (hz.2 hc), ← Bool.decide_and]
      exact decide_eq_decide.2 (by omega)
    · rw [if_neg (fun e => hc (hz.1 e))]
      exact decide_eq_decide.2 hneg
  · rw [Int.natAbs_mul, Int.natAbs_pow]; rfl

theorem rep_order {d e : Ieee.Datum} {m n : Int} (h : Rep d m) (g : Rep e n) : d.order e = some (compare m n) := by
  obtain ⟨s, k, rfl, rfl⟩ := h
  obtain ⟨t, j, rfl, rfl⟩ := g
  unfold Ieee.Datum.order
  simp only
  have hb : min (-(k : Int)) (-(j : Int)) = -((max k j : Nat) : Int) := by omega
  rw [hb]
  have h1 : (-(k : Int) - -((max k j : Nat) : Int)).toNat = max k j - k := by omega
  have h2 : (-(j : Int) - -((max k j : Nat) : Int)).toNat = max k j - j := by omega
  rw [h1, h2, signed_rep, signed_rep, show k + (max k j - k) = max k j from by omega, show j + (max k j - j) = max k j from by omega]
  have hp := pow_pos' (max k j)
  congr 1
  show compareOfLessAndEq _ _ = compareOfLessAndEq _ _
  unfold compareOfLessAndEq
  have e1 : m * 2 ^ max k j < n * 2 ^ max k j ↔ m < n := ⟨fun h => Int.lt_of_mul_lt_mul_right h (Int.le_of_lt hp), fun h => Int.mul_lt_mul_of_pos_right h hp⟩
  have e2 : m * 2 ^ max k j = n * 2 ^ max k j ↔ m = n := ⟨fun h => Int.eq_of_mul_eq_mul_right (by omega) h, fun h => by rw [h]⟩
  simp only [e1, e2]

/-- float64(m) + float64(n). -/
theorem fl_add {m n : Int} (hm : m.natAbs < FlB) (hn : n.natAbs < FlB) (h : (m + n).natAbs < FlB) : floatBits .add .f64 (fl m) (fl n) = some (fl (m + n)) := by
  obtain ⟨c, hc, hr⟩ := rep_sum (rep_fl hm) (rep_fl hn)
  show Ieee.double.add _ _ = _
  unfold Ieee.Format.add
  rw [hc, Option.map_some, write_rep hr h]

theorem fl_order {m n : Int} (hm : m.natAbs < FlB) (hn : n.natAbs < FlB) : Ieee.double.order (fl m) (fl n) = some (compare m n) :=
  rep_order (rep_fl hm) (rep_fl hn)

/-- int(float64(n)). -/
theorem fl_back {n : Int} (h : n.natAbs < FlB) : floatToIntVal .f64 (fl n) .i64 = some n := by
  unfold floatToIntVal
  have : (FloatKind.f64.decode (fl n)).toInt .zero = some n := rep_toInt (rep_fl h)
  rw [this]
  simp only
  unfold FlB at h
  rw [if_pos ⟨by show (-9223372036854775808 : Int) ≤ n; omega, by show n ≤ (9223372036854775807 : Int); omega⟩]

theorem fl_inj {m n : Int} (hm : m.natAbs < FlB) (hn : n.natAbs < FlB) (h : fl m = fl n) : m = n := by
  have h1 := fl_back hm
  rw [h, fl_back hn] at h1
  injection h1 with h1
  exact h1.symm

/-- The word of the infinity above all. -/
def flInf : Nat := 9218868437227405312
theorem read_inf : Ieee.double.read flInf = .infinity false := by decide
theorem inf_order_fl {n : Int} (h : n.natAbs < FlB) : Ieee.double.order flInf (fl n) = some .gt := by
  obtain ⟨s, k, e, _⟩ := rep_fl h
  unfold Ieee.Format.order
  rw [read_inf, e]; rfl
theorem fl_order_inf {n : Int} (h : n.natAbs < FlB) : Ieee.double.order (fl n) flInf = some .lt := by
  obtain ⟨s, k, e, _⟩ := rep_fl h
  unfold Ieee.Format.order
  rw [read_inf, e]; rfl
theorem inf_order_inf : Ieee.double.order flInf flInf = some .eq := by decide
theorem inf_add {n : Int} (h : n.natAbs < FlB) : floatBits .add .f64 flInf (fl n) = some flInf := by
  obtain ⟨s, k, e, _⟩ := rep_fl h
  show Ieee.double.add _ _ = _
  unfold Ieee.Format.add
  rw [read_inf, e]; rfl
theorem add_inf {n : Int} (h : n.natAbs < FlB) : floatBits .add .f64 (fl n) flInf = some flInf := by
  obtain ⟨s, k, e, _⟩ := rep_fl h
  show Ieee.double.add _ _ = _
  unfold Ieee.Format.add
  rw [read_inf, e]; rfl
end Go.Proofs.YtgkimjjodhnmiaaGreat
