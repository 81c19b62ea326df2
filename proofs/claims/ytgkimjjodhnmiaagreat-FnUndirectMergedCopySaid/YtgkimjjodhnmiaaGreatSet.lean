/- impl.set: an arc laid into an ascending list of arcs. -/
import Derived.Test.YtgkimjjodhnmiaaGreatInsert
namespace Go.Proofs.YtgkimjjodhnmiaaGreat
open Go.RowKit

theorem insert_any (base : Nat) (a : Option Addr) (n cap i : Nat) (l : List Arc) (z : Arc) (vb : Nat) (w : World) (hi : i ≤ n) (hn : n ≤ 1048576) (hown : w.ownsRow base 148 2 (.slice a n cap) n (arcCells l)) (hbase : base ≤ w.heap.size)
    (hv : w.heap[vb]? = some (.cells #[.int .i64 z.1, .float .f64 z.2] 148 (0, 0))) (hne : ∀ g, a = some ⟨g, 0, none⟩ → vb ≠ g) :
    Calls Tryz.prog 63 #[.slice a n cap, .int .i64 i, .slice (some ⟨vb, 0, none⟩) 1 1] w (InsPost w base a n cap l i z) := by
  rcases Nat.lt_or_eq_of_le hi with h | rfl
  · obtain ⟨g, rfl, _, _, hnc⟩ := owns_at hown (by omega)
    rcases Nat.lt_or_eq_of_le hnc with h' | rfl
    · exact insert_room base g n cap i l z vb w h hn h' hown hv (hne g rfl)
    · exact insert_grow base g n i l z vb w h hn hown hbase hv
  · exact insert_end base a i cap l z vb w hn hown hbase hv

/-- An arc laid into an ascending list: where one ends there, its weight is turned. -/
def setArc (l : List Arc) (x wt : Nat) : List Arc :=
  if arcHas l x then l.set (arcPos l x) (x, wt) else l.take (arcPos l x) ++ (x, wt) :: l.drop (arcPos l x)

theorem arcPos_lt {l : List Arc} (hs : ArcsAsc l) {x j : Nat} (hj : j < l.length) (h : j < arcPos l x) : l[j].1 < x := by
  rcases Nat.lt_or_ge l[j].1 x with h0 | h0
  · exact h0
  · exfalso
    have : arcPos l x ≤ j := by
      unfold arcPos
      rw [← List.take_append_drop j l, List.countP_append]
      have e2 : (l.drop j).countP (fun z => decide (z.1 < x)) = 0 := by
        rw [List.countP_eq_zero]
        intro z hz
        obtain ⟨i, hi, rfl⟩ := List.mem_iff_getElem.1 hz
        simp only [List.length_drop] at hi
        rw [List.getElem_drop]
        rcases Nat.eq_zero_or_pos i with h1 | h1
        · subst h1; simp; omega
        · have := List.pairwise_iff_getElem.1 hs j (j + i) hj (by omega) (by omega)
          simp; omega
      have e1 : (l.take j).countP (fun z => decide (z.1 < x)) ≤ j := Nat.le_trans List.countP_le_length (by simp; omega)
      omega
    omega
theorem arcPos_ge {l : List Arc} (hs : ArcsAsc l) {x j : Nat} (hj : j < l.length) (h : arcPos l x ≤ j) : x ≤ l[j].1 := by
  rcases Nat.lt_or_ge l[j].1 x with h0 | h0
  · exfalso
    have : j + 1 ≤ arcPos l x := by
      unfold arcPos
      rw [← List.take_append_drop (j + 1) l, List.countP_append]
      have e1 : (l.take (j + 1)).countP (fun z => decide (z.1 < x)) = j + 1 := by
        rw [List.countP_eq_length.2]
        · simp; omega
        · intro z hz
          obtain ⟨i, hi, rfl⟩ := List.mem_iff_getElem.1 hz
          simp only [List.length_take] at hi
          rw [List.getElem_take]
          rcases Nat.lt_or_eq_of_le (show i ≤ j by omega) with h1 | h1
          · have := List.pairwise_iff_getElem.1 hs i j (by omega) hj h1
            simp; omega
          · subst h1; simpa using h0
      omega
    omega
  · exact h0
theorem arcHas_at {l : List Arc} (hs : ArcsAsc l) {x : Nat} (h : arcHas l x = true) : ∃ hp : arcPos l x < l.length, l[arcPos l x].1 = x := by
  obtain ⟨z, hz, he⟩ := List.any_eq_true.1 h
  obtain ⟨j, hj, rfl⟩ := List.mem_iff_getElem.1 hz
  have he' : l[j].1 = x := by simpa using he
  have hpj : arcPos l x = j := by
    rcases Nat.lt_trichotomy j (arcPos l x) with h1 | h1 | h1
    · have := arcPos_lt hs hj h1; omega
    · exact h1.symm
    · have h2 := arcPos_ge hs (x := x) (j := arcPos l x) (by omega) (Nat.le_refl _)
      have h3 := List.pairwise_iff_getElem.1 hs (arcPos l x) j (by omega) hj h1
      omega
  exact ⟨by omega, by simp only [hpj]; exact he'⟩

theorem arcCells_set (l : List Arc) (p x wt : Nat) (hp : p < l.length) (hx : l[p].1 = x) : (arcCells l).set (p * 2 + 1) (.float .f64 wt) = arcCells (l.set p (x, wt)) := by
  have e1 : l.set p (x, wt) = l.take p ++ (x, wt) :: l.drop (p + 1) := by rw [List.set_eq_take_append_cons_drop, if_pos hp]
  have e2 : l = l.take p ++ (l[p] :: l.drop (p + 1)) := by rw [List.getElem_cons_drop, List.take_append_drop]
  have hl : (arcCells (l.take p)).length = p * 2 := by rw [arcCells_length, List.length_take]; omega
  have e3 : arcCells l = arcCells (l.take p) ++ ([.int .i64 (x : Int), .float .f64 l[p].2] ++ arcCells (l.drop (p + 1))) := by
    conv => lhs; rw [e2]
    rw [arcCells_append]
    show _ ++ (([.int .i64 (l[p].1 : Int), .float .f64 l[p].2] : List Value) ++ arcCells (l.drop (p + 1))) = _
    rw [hx]
  rw [e1, e3, arcCells_append, List.set_append_right _ _ (by omega), hl, show p * 2 + 1 - p * 2 = 1 by omega]
  rfl

theorem store_float (P : Program) (w : World) (a : Addr) (m : Go.Mode) (k : FloatKind) (b : Nat) : (store a (.float k b) m).run P w = stored P w a (.float k b) m := run_store P w a _ m rfl

theorem grown_of_below {w w1 : World} (h : Below w.heap.size w w1) {row : Option Nat} : w.grownBy w1 row := ⟨h.os, h.tape, h.output, h.size, fun i hi _ => h.block i hi⟩

/-- What set leaves. -/
def SetPost (w : World) (base : Nat) (a : Option Addr) (n cap : Nat) (l : List Arc) (x wt : Nat) (e : Ending) (w' : World) : Prop :=
  ∃ a' n' cap', e = .returned (.slice a' n' cap') ∧ n' = (setArc l x wt).length ∧ w'.ownsRow base 148 2 (.slice a' n' cap') n' (arcCells (setArc l x wt)) ∧
    w.grownBy w' (Value.slice a n cap).ownBlock ∧ (a' = a ∨ ∃ g, a' = some ⟨g, 0, none⟩ ∧ w.heap.size ≤ g)

set_option maxHeartbeats 1000000 in
theorem set_any (base : Nat) (a : Option Addr) (n cap : Nat) (l : List Arc) (x wt : Nat) (w : World) (hn : n ≤ 1048575) (hx : x ≤ 1048576) (hb : ∀ a ∈ l, a.1 ≤ 1048576) (hs : ArcsAsc l)
    (hown : w.ownsRow base 148 2 (.slice a n cap) n (arcCells l)) (hbase : base ≤ w.heap.size) :
    Calls Tryz.prog 47 #[.slice a n cap, .int .i64 x, .float .f64 wt] w (SetPost w base a n cap l x wt) := by
  have hl : n = l.length := by have := hown.1; rw [arcCells_length] at this; omega
  subst hl
  obtain ⟨a0, c0, hv, hnil, hc, _⟩ := owns_cells hown
  injection hv with hv1 _ hv3
  subst hv1; subst hv3
  have hsearch := Lib.hid (searchArc_any 62 (fun args w => by simp [go_sem]) setCmp_any a l.length cap l x w rfl (by omega) hx hb hc hs)
  have hst := store_float Tryz.prog
  go_enter Tryz.func47, Tryz.ntmps47
  go_wp2_with fail
  refine (unhide hsearch).mono ?_
  rintro e w1 ⟨rfl, hb1⟩
  rcases hh : arcHas l x with _ | _
  · go_wp2_with fail
    have hg1 : w.grownBy (w1.alloc (.cells #[.int .i64 (x : Int), .float .f64 wt] 148)) none := grown_trans (grown_of_below hb1) (World.grownBy_alloc w1 _ none)
    have hown1 := hown.kept hg1 (by cases (Value.slice a l.length cap).ownBlock <;> simp)
    have hlt := hown.lt
    refine (insert_any base a l.length cap (arcPos l x) l (x, wt) w1.heap.size _ (arcPos_le l x) (by omega) hown1 (Nat.le_trans hbase hg1.size) (heap_alloc_new w1 _) (fun g h => ?_)).mono ?_
    · subst h
      have := (hlt g rfl).2
      have := hb1.size
      omega
    · rintro e w2 ⟨a', cap', rfl, hown2, hg2, ha⟩
      go_wp2
      go_ret
      refine ⟨a', l.length + 1, cap', rfl, ?_, ?_, grown_trans ?_ hg2, ?_⟩
      · simp only [setArc, hh]; simp; have := arcPos_le l x; omega
      · simp only [setArc, hh]; exact hown2
      · exact ⟨hg1.os, hg1.tape, hg1.output, hg1.size, fun k hk _ => hg1.block k hk (by simp)⟩
      · rcases ha with ha | ⟨g, ha, hg⟩
        · exact .inl ha
        · exact .inr ⟨g, ha, Nat.le_trans hg1.size hg⟩
  · obtain ⟨hp, hpx⟩ := arcHas_at hs hh
    obtain ⟨b, rfl, _, hbs, hnc⟩ := owns_at hown (by omega)
    have hcell : w1.cell? ⟨b, arcPos l x * 2 + 1, none⟩ = some (.float .f64 l[arcPos l x].2) :=
      cell_below hb1 (owns_cell hown (arcCells_get l _ hp).2)
    have hfr : w1.frozen? ⟨b, arcPos l x * 2 + 1, none⟩ = false := free_below hb1 (owns_cell hown (arcCells_get l _ hp).2) (owns_free hown _)
    have hown1 := Lib.hid (hown.kept (grown_of_below (row := none) hb1) (by simp [Value.ownBlock]))
    clear hown hc
    go_wp2_with fail
    go_ret
    have hs2 := (unhide hown1).stored (arcPos l x * 2 + 1) (.float .f64 wt)
    refine ⟨some ⟨b, 0, none⟩, l.length, cap, rfl, ?_, ?_, ?_, .inl rfl⟩
    · simp [setArc, hh]
    · simp only [setArc, hh, if_true]
      rw [← arcCells_set l _ x wt hp hpx]
      exact hs2.1
    · exact grown_trans (grown_of_below hb1) hs2.2
end Go.Proofs.YtgkimjjodhnmiaaGreat
