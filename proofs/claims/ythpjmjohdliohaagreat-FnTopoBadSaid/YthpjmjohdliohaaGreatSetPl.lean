/- impl.set: an arc laid into an ascending list of arcs.
   A plain graph while it is being built: two tables of rows of arcs. No program in sight but for the types' numbers. -/
import Derived.Test.YthpjmjohdliohaaGreatInsert
namespace Go.Proofs.YthpjmjohdliohaaGreat
open Go.RowKit

theorem insert_any (base : Nat) (a : Option Addr) (n cap i : Nat) (l : List Arc) (z : Arc) (vb : Nat) (w : World) (hi : i ≤ n) (hn : n ≤ 1048576) (hown : w.ownsRow base 202 2 (.slice a n cap) n (arcCells l)) (hbase : base ≤ w.heap.size)
    (hv : w.heap[vb]? = some (.cells #[.int .i64 z.1, .float .f64 z.2] 202 (0, 0))) (hne : ∀ g, a = some ⟨g, 0, none⟩ → vb ≠ g) :
    Calls Tryz.prog 122 #[.slice a n cap, .int .i64 i, .slice (some ⟨vb, 0, none⟩) 1 1] w (InsPost w base a n cap l i z) := by
  rcases Nat.lt_or_eq_of_le hi with h | rfl
  · obtain ⟨g, rfl, _, _, hnc⟩ := owns_at hown (by omega)
    rcases Nat.lt_or_eq_of_le hnc with h' | rfl
    · exact insert_room base g n cap i l z vb w h hn h' hown hv (hne g rfl)
    · exact insert_grow base g n i l z vb w h hn hown hbase hv
  · exact insert_end base a i cap l z vb w hn hown hbase hv

/-- An arc laid into an ascending list: where one ends there, its weight is turned. -/
def setArc (l : List Arc) (x wt : Nat) : List Arc :=
  if arcHas l x then l.set (arcPos l x) (x, wt) else l.take (arcPos l x) ++ (x, wt) :: l.drop (arcPos l x)

theorem arcPos_lt {l : List Arc} (hs : ArcsAsc l) {x j : Nat} (hj : j < l.length) (h : j < arcPos l x) : l[j].1 < x := by
  rcases Nat.lt_or_ge l[j].1 x with h0 | h0
  · exact h0
  · exfalso
    have : arcPos l x ≤ j := by
      unfold arcPos
      rw [← List.take_append_drop j l, List.countP_append]
      have e2 : (l.drop j).countP (fun z => decide (z.1 < x)) = 0 := by
        rw [List.countP_eq_zero]
        intro z hz
        obtain ⟨i, hi, rfl⟩ := List.mem_iff_getElem.1 hz
        simp only [List.length_drop] at hi
        rw [List.getElem_drop]
        rcases Nat.eq_zero_or_pos i with h1 | h1
        · subst h1; simp; omega
        · have := List.pairwise_iff_getElem.1 hs j (j + i) hj (by omega) (by omega)
          simp; omega
      have e1 : (l.take j).countP (fun z => decide (z.1 < x)) ≤ j := Nat.le_trans List.countP_le_length (by simp; omega)
      omega
    omega
theorem arcPos_ge {l : List Arc} (hs : ArcsAsc l) {x j : Nat} (hj : j < l.length) (h : arcPos l x ≤ j) : x ≤ l[j].1 := by
  rcases Nat.lt_or_ge l[j].1 x with h0 | h0
  · exfalso
    have : j + 1 ≤ arcPos l x := by
      unfold arcPos
      rw [← List.take_append_drop (j + 1) l, List.countP_append]
      have e1 : (l.take (j + 1)).countP (fun z => decide (z.1 < x)) = j + 1 := by
        rw [List.countP_eq_length.2]
        · simp; omega
        · intro z hz
          obtain ⟨i, hi, rfl⟩ := List.mem_iff_getElem.1 hz
          simp only [List.length_take] at hi
          rw [List.getElem_take]
          rcases Nat.lt_or_eq_of_le (show i ≤ j by omega) with h1 | h1
          · have := List.pairwise_iff_getElem.1 hs i j (by omega) hj h1
            simp; omega
          · subst h1; simpa using h0
      omega
    omega
  · exact h0
theorem arcHas_at {l : List Arc} (hs : ArcsAsc l) {x : Nat} (h : arcHas l x = true) : ∃ hp : arcPos l x < l.length, l[arcPos l x].1 = x := by
  obtain ⟨z, hz, he⟩ := List.any_eq_true.1 h
  obtain ⟨j, hj, rfl⟩ := List.mem_iff_getElem.1 hz
  have he' : l[j].1 = x := by simpa using he
  have hpj : arcPos l x = j := by
    rcases Nat.lt_trichotomy j (arcPos l x) with h1 | h1 | h1
    · have := arcPos_lt hs hj h1; omega
    · exact h1.symm
    · have h2 := arcPos_ge hs (x := x) (j := arcPos l x) (by omega) (Nat.le_refl _)
      have h3 := List.pairwise_iff_getElem.1 hs (arcPos l x) j (by omega) hj h1
      omega
  exact ⟨by omega, by simp only [hpj]; exact he'⟩

theorem arcCells_set (l : List Arc) (p x wt : Nat) (hp : p < l.length) (hx : l[p].1 = x) : (arcCells l).set (p * 2 + 1) (.float .f64 wt) = arcCells (l.set p (x, wt)) := by
  have e1 : l.set p (x, wt) = l.take p ++ (x, wt) :: l.drop (p + 1) := by rw [List.set_eq_take_append_cons_drop, if_pos hp]
  have e2 : l = l.take p ++ (l[p] :: l.drop (p + 1)) := by rw [List.getElem_cons_drop, List.take_append_drop]
  have hl : (arcCells (l.take p)).length = p * 2 := by rw [arcCells_length, List.length_take]; omega
  have e3 : arcCells l = arcCells (l.take p) ++ ([.int .i64 (x : Int), .float .f64 l[p].2] ++ arcCells (l.drop (p + 1))) := by
    conv => lhs; rw [e2]
    rw [arcCells_append]
    show _ ++ (([.int .i64 (l[p].1 : Int), .float .f64 l[p].2] : List Value) ++ arcCells (l.drop (p + 1))) = _
    rw [hx]
  rw [e1, e3, arcCells_append, List.set_append_right _ _ (by omega), hl, show p * 2 + 1 - p * 2 = 1 by omega]
  rfl

theorem store_float (P : Program) (w : World) (a : Addr) (m : Go.Mode) (k : FloatKind) (b : Nat) : (store a (.float k b) m).run P w = stored P w a (.float k b) m := run_store P w a _ m rfl

theorem grown_of_below {w w1 : World} (h : Below w.heap.size w w1) {row : Option Nat} : w.grownBy w1 row := ⟨h.os, h.tape, h.output, h.size, fun i hi _ => h.block i hi⟩

/-- What set leaves. -/
def SetPost (w : World) (base : Nat) (a : Option Addr) (n cap : Nat) (l : List Arc) (x wt : Nat) (e : Ending) (w' : World) : Prop :=
  ∃ a' n' cap', e = .returned (.slice a' n' cap') ∧ n' = (setArc l x wt).length ∧ w'.ownsRow base 202 2 (.slice a' n' cap') n' (arcCells (setArc l x wt)) ∧
    w.grownBy w' (Value.slice a n cap).ownBlock ∧ (a' = a ∨ ∃ g, a' = some ⟨g, 0, none⟩ ∧ w.heap.size ≤ g)

set_option maxHeartbeats 1000000 in
theorem set_any (base : Nat) (a : Option Addr) (n cap : Nat) (l : List Arc) (x wt : Nat) (w : World) (hn : n ≤ 1048575) (hx : x ≤ 1048576) (hb : ∀ a ∈ l, a.1 ≤ 1048576) (hs : ArcsAsc l)
    (hown : w.ownsRow base 202 2 (.slice a n cap) n (arcCells l)) (hbase : base ≤ w.heap.size) :
    Calls Tryz.prog 92 #[.slice a n cap, .int .i64 x, .float .f64 wt] w (SetPost w base a n cap l x wt) := by
  have hl : n = l.length := by have := hown.1; rw [arcCells_length] at this; omega
  subst hl
  obtain ⟨a0, c0, hv, hnil, hc, _⟩ := owns_cells hown
  injection hv with hv1 _ hv3
  subst hv1; subst hv3
  have hsearch := Lib.hid (searchArc_any 121 (fun args w => by simp [go_sem]) setCmp_any a l.length cap l x w rfl (by omega) hx hb hc hs)
  have hst := store_float Tryz.prog
  go_enter Tryz.func92, Tryz.ntmps92
  go_wp2_with fail
  refine (unhide hsearch).mono ?_
  rintro e w1 ⟨rfl, hb1⟩
  rcases hh : arcHas l x with _ | _
  · go_wp2_with fail
    have hg1 : w.grownBy (w1.alloc (.cells #[.int .i64 (x : Int), .float .f64 wt] 202)) none := grown_trans (grown_of_below hb1) (World.grownBy_alloc w1 _ none)
    have hown1 := hown.kept hg1 (by cases (Value.slice a l.length cap).ownBlock <;> simp)
    have hlt := hown.lt
    refine (insert_any base a l.length cap (arcPos l x) l (x, wt) w1.heap.size _ (arcPos_le l x) (by omega) hown1 (Nat.le_trans hbase hg1.size) (heap_alloc_new w1 _) (fun g h => ?_)).mono ?_
    · subst h
      have := (hlt g rfl).2
      have := hb1.size
      omega
    · rintro e w2 ⟨a', cap', rfl, hown2, hg2, ha⟩
      go_wp2
      go_ret
      refine ⟨a', l.length + 1, cap', rfl, ?_, ?_, grown_trans ?_ hg2, ?_⟩
      · simp only [setArc, hh]; simp; have := arcPos_le l x; omega
      · simp only [setArc, hh]; exact hown2
      · exact ⟨hg1.os, hg1.tape, hg1.output, hg1.size, fun k hk _ => hg1.block k hk (by simp)⟩
      · rcases ha with ha | ⟨g, ha, hg⟩
        · exact .inl ha
        · exact .inr ⟨g, ha, Nat.le_trans hg1.size hg⟩
  · obtain ⟨hp, hpx⟩ := arcHas_at hs hh
    obtain ⟨b, rfl, _, hbs, hnc⟩ := owns_at hown (by omega)
    have hcell : w1.cell? ⟨b, arcPos l x * 2 + 1, none⟩ = some (.float .f64 l[arcPos l x].2) :=
      cell_below hb1 (owns_cell hown (arcCells_get l _ hp).2)
    have hfr : w1.frozen? ⟨b, arcPos l x * 2 + 1, none⟩ = false := free_below hb1 (owns_cell hown (arcCells_get l _ hp).2) (owns_free hown _)
    have hown1 := Lib.hid (hown.kept (grown_of_below (row := none) hb1) (by simp [Value.ownBlock]))
    clear hown hc
    go_wp2_with fail
    go_ret
    have hs2 := (unhide hown1).stored (arcPos l x * 2 + 1) (.float .f64 wt)
    refine ⟨some ⟨b, 0, none⟩, l.length, cap, rfl, ?_, ?_, ?_, .inl rfl⟩
    · simp [setArc, hh]
    · simp only [setArc, hh, if_true]
      rw [← arcCells_set l _ x wt hp hpx]
      exact hs2.1
    · exact grown_trans (grown_of_below hb1) hs2.2
end Go.Proofs.YthpjmjohdliohaaGreat

namespace Go.Proofs.YthpjmjohdliohaaGreat
open Go.RowKit

/-- Below B nothing has turned but the blocks g and h. -/
structure Kept (B g h : Nat) (w w' : World) : Prop where
  os : w'.os = w.os
  tape : w'.tape = w.tape
  output : w'.output = w.output
  size : w.heap.size ≤ w'.heap.size
  block : ∀ k, k < B → k ≠ g → k ≠ h → w'.heap[k]? = w.heap[k]?

theorem Kept.refl (B g h : Nat) (w : World) : Kept B g h w w := ⟨rfl, rfl, rfl, Nat.le_refl _, fun _ _ _ _ => rfl⟩
theorem Kept.trans {B g h : Nat} {a b c : World} (p : Kept B g h a b) (q : Kept B g h b c) : Kept B g h a c :=
  ⟨q.os.trans p.os, q.tape.trans p.tape, q.output.trans p.output, Nat.le_trans p.size q.size, fun k hk h1 h2 => (q.block k hk h1 h2).trans (p.block k hk h1 h2)⟩
theorem Kept.swap {B g h : Nat} {a b : World} (p : Kept B g h a b) : Kept B h g a b := ⟨p.os, p.tape, p.output, p.size, fun k hk h1 h2 => p.block k hk h2 h1⟩
theorem Kept.below {B g h A : Nat} {a b : World} (p : Kept B g h a b) (hA : A ≤ B) (hg : A ≤ g) (hh : A ≤ h) : Below A a b :=
  ⟨p.os, p.tape, p.output, p.size, fun k hk => p.block k (by omega) (by omega) (by omega)⟩
theorem Kept.ofBelow {B g h : Nat} {a b : World} (p : Below B a b) : Kept B g h a b := ⟨p.os, p.tape, p.output, p.size, fun k hk _ _ => p.block k hk⟩

/-- The rows of a table: each owned, from block B on. -/
def RowsOwn (w : World) (B : Nat) (vs : List Value) (ls : List (List Arc)) : Prop :=
  ∀ (j : Nat) (v : Value) (l : List Arc), vs[j]? = some v → ls[j]? = some l → w.ownsRow B 202 2 v l.length (arcCells l)

def Apart (u v : Value) : Prop := ∀ k, u.ownBlock = some k → v.ownBlock ≠ some k
theorem Apart.symm {u v : Value} (h : Apart u v) : Apart v u := fun k hk hu => h k hu hk

/-- A plain graph in the making: field f of the block pb is the table at the block g, field f' that at g'. -/
structure Built (w : World) (B pb n f g : Nat) (vs : List Value) (ls : List (List Arc)) (f' g' : Nat) (vs' : List Value) (ls' : List (List Arc)) : Prop where
  cell : w.cell? ⟨pb, f, none⟩ = some (.slice (some ⟨g, 0, none⟩) n n)
  cell' : w.cell? ⟨pb, f', none⟩ = some (.slice (some ⟨g', 0, none⟩) n n)
  pbB : pb < B
  gB : g < B
  gB' : g' < B
  hB : B ≤ w.heap.size
  pg : pb ≠ g
  pg' : pb ≠ g'
  gg : g ≠ g'
  own : w.ownsRow 0 174 1 (.slice (some ⟨g, 0, none⟩) n n) n vs
  own' : w.ownsRow 0 174 1 (.slice (some ⟨g', 0, none⟩) n n) n vs'
  len : ls.length = n
  len' : ls'.length = n
  rows : RowsOwn w B vs ls
  rows' : RowsOwn w B vs' ls'
  dis : ∀ (i j : Nat) u v, vs[i]? = some u → vs[j]? = some v → i ≠ j → Apart u v
  dis' : ∀ (i j : Nat) u v, vs'[i]? = some u → vs'[j]? = some v → i ≠ j → Apart u v
  cross : ∀ (i j : Nat) u v, vs[i]? = some u → vs'[j]? = some v → Apart u v

theorem Built.swap {w : World} {B pb n f g : Nat} {vs : List Value} {ls : List (List Arc)} {f' g' : Nat} {vs' : List Value} {ls' : List (List Arc)} (h : Built w B pb n f g vs ls f' g' vs' ls') :
    Built w B pb n f' g' vs' ls' f g vs ls where
  cell := h.cell'
  cell' := h.cell
  pbB := h.pbB
  gB := h.gB'
  gB' := h.gB
  hB := h.hB
  pg := h.pg'
  pg' := h.pg
  gg := h.gg.symm
  own := h.own'
  own' := h.own
  len := h.len'
  len' := h.len
  rows := h.rows'
  rows' := h.rows
  dis := h.dis'
  dis' := h.dis
  cross := fun i j u v hu hv => (h.cross j i v u hv hu).symm

theorem Built.vlen {w : World} {B pb n f g : Nat} {vs : List Value} {ls : List (List Arc)} {f' g' : Nat} {vs' : List Value} {ls' : List (List Arc)} (h : Built w B pb n f g vs ls f' g' vs' ls') : vs.length = n := by
  have := h.own.1; omega

theorem kept_of {w w1 : World} {B e size n : Nat} {v u : Value} {xs : List Value} (hg : w.grownBy w1 v.ownBlock) (hu : w.ownsRow B e size u n xs) (ha : Apart u v) : w1.ownsRow B e size u n xs := by
  refine hu.kept hg ?_
  cases hc : u.ownBlock with
  | none => exact .inl rfl
  | some k => exact .inr fun e => ha k hc e.symm

theorem set_old {w : World} {B e size n g i : Nat} {u x : Value} {xs : List Value} (hu : w.ownsRow B e size u n xs) (hgB : g < B) : (w.setCell ⟨g, i, none⟩ x).ownsRow B e size u n xs := by
  refine hu.kept (row := some g) ⟨rfl, rfl, rfl, by simp [World.setCell], fun k hk hne => Below.heap_setCell _ _ _ _ (by intro e; exact hne (by rw [e]))⟩ ?_
  cases hc : u.ownBlock with
  | none => exact .inl rfl
  | some k => exact .inr fun e => by injection e with e; have := (hu.lt k hc).1; omega

/-- A row of a table laid anew, and the new one stored. -/
theorem Built.put {w : World} {B pb n f g : Nat} {vs : List Value} {ls : List (List Arc)} {f' g' : Nat} {vs' : List Value} {ls' : List (List Arc)} (h : Built w B pb n f g vs ls f' g' vs' ls')
    {i : Nat} {v v1 : Value} {l l1 : List Arc} {w1 : World} (hv : vs[i]? = some v) (hl : ls[i]? = some l) (hg : w.grownBy w1 v.ownBlock)
    (hv1 : w1.ownsRow B 202 2 v1 l1.length (arcCells l1)) (hn : v1.ownBlock = v.ownBlock ∨ ∀ k, v1.ownBlock = some k → w.heap.size ≤ k) :
    Built (w1.setCell ⟨g, i, none⟩ v1) B pb n f g (vs.set i v1) (ls.set i l1) f' g' vs' ls' ∧ Kept B g g' w (w1.setCell ⟨g, i, none⟩ v1) := by
  have hin : i < n := by
    have h1 := (List.getElem?_eq_some_iff.1 hl).1
    have h2 := h.len
    omega
  have hvB : ∀ k, v.ownBlock = some k → B ≤ k ∧ k < w.heap.size := (h.rows i v l hv hl).lt
  have hold : ∀ k, k < B → some k ≠ v.ownBlock := fun k hk e => by have := (hvB k e.symm).1; omega
  have hset : w1.grownBy (w1.setCell ⟨g, i, none⟩ v1) (some g) := ⟨rfl, rfl, rfl, by simp [World.setCell], fun k hk hne => Below.heap_setCell _ _ _ _ (by intro e; exact hne (by rw [e]))⟩
  have hB := h.hB
  have hown1 : w1.ownsRow 0 174 1 (.slice (some ⟨g, 0, none⟩) n n) n vs := h.own.kept hg (.inr (hold g h.gB))
  have hown1' : w1.ownsRow 0 174 1 (.slice (some ⟨g', 0, none⟩) n n) n vs' := h.own'.kept hg (.inr (hold g' h.gB'))
  have hap : ∀ (j : Nat) u, vs[j]? = some u → i ≠ j → Apart u v1 := fun j u hu hij => by
    intro k hk hk1
    obtain ⟨lj, hlj⟩ : ∃ lj, ls[j]? = some lj := by
      have h1 := (List.getElem?_eq_some_iff.1 hu).1
      have h2 := h.vlen; have h3 := h.len
      exact ⟨ls[j]'(by omega), List.getElem?_eq_getElem (by omega)⟩
    rcases hn with hn | hn
    · exact h.dis j i u v hu hv (fun e => hij e.symm) k hk (hn ▸ hk1)
    · have h1 := hn k hk1
      have h2 := ((h.rows j u lj hu hlj).lt k hk).2
      omega
  have hap' : ∀ (j : Nat) u, vs'[j]? = some u → Apart u v1 := fun j u hu => by
    intro k hk hk1
    obtain ⟨lj, hlj⟩ : ∃ lj, ls'[j]? = some lj := by
      have h1 := (List.getElem?_eq_some_iff.1 hu).1
      have h2 := h.swap.vlen; have h3 := h.len'
      exact ⟨ls'[j]'(by omega), List.getElem?_eq_getElem (by omega)⟩
    rcases hn with hn | hn
    · exact (h.cross i j v u hv hu).symm k hk (hn ▸ hk1)
    · have h1 := hn k hk1
      have h2 := ((h.rows' j u lj hu hlj).lt k hk).2
      omega
  refine ⟨⟨?_, ?_, h.pbB, h.gB, h.gB', ?_, h.pg, h.pg', h.gg, (hown1.stored i v1).1, ?_, by rw [List.length_set]; exact h.len, h.len', ?_, ?_, ?_, h.dis', ?_⟩, ?_⟩
  · exact hset.cell (hg.cell h.cell (hold pb h.pbB)) (fun e => h.pg (by injection e))
  · exact hset.cell (hg.cell h.cell' (hold pb h.pbB)) (fun e => h.pg (by injection e))
  · exact Nat.le_trans hB (Nat.le_trans hg.size hset.size)
  · exact hown1'.kept hset (.inr (fun e => h.gg (by simp only [Value.ownBlock] at e; injection e with e; exact e.symm)))
  · intro j u lj hu hlj
    rw [List.getElem?_set] at hu hlj
    by_cases hij : i = j
    · rw [if_pos hij] at hu hlj
      split at hu
      · split at hlj
        · injection hu with hu; injection hlj with hlj
          subst hu; subst hlj
          exact set_old hv1 h.gB
        · cases hlj
      · cases hu
    · rw [if_neg hij] at hu hlj
      exact set_old (kept_of hg (h.rows j u lj hu hlj) (h.dis j i u v hu hv (fun e => hij e.symm))) h.gB
  · intro j u lj hu hlj
    exact set_old (kept_of hg (h.rows' j u lj hu hlj) (h.cross i j v u hv hu).symm) h.gB
  · intro a b x y hx hy hab
    rw [List.getElem?_set] at hx hy
    by_cases ha : i = a
    · rw [if_pos ha] at hx
      rw [if_neg (by omega)] at hy
      split at hx
      · injection hx with hx; subst hx
        exact (hap b y hy (by omega)).symm
      · cases hx
    · rw [if_neg ha] at hx
      by_cases hb : i = b
      · rw [if_pos hb] at hy
        split at hy
        · injection hy with hy; subst hy
          exact hap a x hx ha
        · cases hy
      · rw [if_neg hb] at hy
        exact h.dis a b x y hx hy hab
  · intro a b x y hx hy
    rw [List.getElem?_set] at hx
    by_cases ha : i = a
    · rw [if_pos ha] at hx
      split at hx
      · injection hx with hx; subst hx
        exact (hap' b y hy).symm
      · cases hx
    · rw [if_neg ha] at hx
      exact h.cross a b x y hx hy
  · refine ⟨hg.os, hg.tape, hg.output, Nat.le_trans hg.size hset.size, fun k hk h1 _ => ?_⟩
    rw [hset.block k (by have := hg.size; omega) (fun e => h1 (by injection e)), hg.block k (by omega) (hold k hk)]

/-- A row well laid: its ends ascend, and are below n. -/
def RowOk (n : Nat) (l : List Arc) : Prop := ArcsAsc l ∧ ∀ a ∈ l, a.1 < n

theorem RowOk.nil (n : Nat) : RowOk n [] := ⟨List.Pairwise.nil, fun _ h => by cases h⟩

theorem asc_short {n : Nat} {l : List Arc} (h : RowOk n l) : l.length ≤ n := by
  have : ∀ (l : List Arc) (m : Nat), l.Pairwise (fun a b => a.1 < b.1) → (∀ a ∈ l, m ≤ a.1 ∧ a.1 < n) → l.length ≤ n - m := by
    intro l
    induction l with
    | nil => intro m _ _; simp
    | cons a l ih =>
      intro m hp hb
      rw [List.pairwise_cons] at hp
      have h1 := ih (a.1 + 1) hp.2 (fun b hb' => ⟨hp.1 b hb', (hb b (List.mem_cons_of_mem _ hb')).2⟩)
      have h2 := hb a List.mem_cons_self
      rw [List.length_cons]; omega
  have := this l 0 h.1 (fun a ha => ⟨Nat.zero_le _, h.2 a ha⟩)
  omega

theorem setArc_ok {n : Nat} {l : List Arc} (h : RowOk n l) {x wt : Nat} (hx : x < n) : RowOk n (setArc l x wt) := by
  unfold setArc
  split
  · rename_i hh
    obtain ⟨hp, he⟩ := arcHas_at h.1 hh
    refine ⟨?_, ?_⟩
    · unfold ArcsAsc
      rw [List.pairwise_iff_getElem]
      intro i j hi hj hij
      rw [List.length_set] at hi hj
      have h0 := List.pairwise_iff_getElem.1 h.1 i j hi hj hij
      have e : ∀ (k : Nat) (hk : k < l.length), ((l.set (arcPos l x) (x, wt))[k]'(by rw [List.length_set]; exact hk)).1 = l[k].1 := by
        intro k hk
        rw [List.getElem_set]
        split
        · rename_i e; subst e; exact he.symm
        · rfl
      rw [e i hi, e j hj]; exact h0
    · intro a ha
      rcases List.mem_or_eq_of_mem_set ha with ha | ha
      · exact h.2 a ha
      · subst ha; exact hx
  · rename_i hh
    have hno : ∀ a ∈ l, a.1 ≠ x := fun a ha e => hh (List.any_eq_true.2 ⟨a, ha, by simp [e]⟩)
    refine ⟨?_, ?_⟩
    · unfold ArcsAsc
      rw [List.pairwise_append, List.pairwise_cons]
      refine ⟨h.1.sublist (List.take_sublist _ _), ⟨?_, h.1.sublist (List.drop_sublist _ _)⟩, ?_⟩
      · intro b hb
        obtain ⟨j, hj, rfl⟩ := List.mem_iff_getElem.1 hb
        rw [List.length_drop] at hj
        rw [List.getElem_drop]
        have h1 := arcPos_ge h.1 (x := x) (j := arcPos l x + j) (by omega) (by omega)
        have h2 := hno (l[arcPos l x + j]'(by omega)) (List.getElem_mem _)
        show x < _
        omega
      · intro a ha b hb
        have ha' : a.1 < x := by
          obtain ⟨j, hj, rfl⟩ := List.mem_iff_getElem.1 ha
          rw [List.length_take] at hj
          rw [List.getElem_take]
          exact arcPos_lt h.1 (by omega) (by omega)
        rcases List.mem_cons.1 hb with rfl | hb
        · exact ha'
        · obtain ⟨j, hj, rfl⟩ := List.mem_iff_getElem.1 hb
          rw [List.length_drop] at hj
          rw [List.getElem_drop]
          have h1 := arcPos_ge h.1 (x := x) (j := arcPos l x + j) (by omega) (by omega)
          omega
    · intro a ha
      rcases List.mem_append.1 ha with ha | ha
      · exact h.2 a (List.mem_of_mem_take ha)
      · rcases List.mem_cons.1 ha with rfl | ha
        · exact hx
        · exact h.2 a (List.mem_of_mem_drop ha)

theorem setArc_has {n : Nat} {l : List Arc} (h : RowOk n l) (x wt y : Nat) : arcHas (setArc l x wt) y = (arcHas l y || decide (x = y)) := by
  rw [Bool.eq_iff_iff]
  unfold setArc
  split
  · rename_i hh
    obtain ⟨hp, he⟩ := arcHas_at h.1 hh
    unfold arcHas
    simp only [List.any_eq_true, beq_iff_eq, Bool.or_eq_true, decide_eq_true_eq]
    constructor
    · rintro ⟨a, ha, rfl⟩
      rcases List.mem_or_eq_of_mem_set ha with ha | ha
      · exact .inl ⟨a, ha, rfl⟩
      · subst ha; exact .inr rfl
    · rintro (⟨a, ha, rfl⟩ | rfl)
      · obtain ⟨j, hj, rfl⟩ := List.mem_iff_getElem.1 ha
        by_cases hjp : arcPos l x = j
        · refine ⟨(x, wt), List.mem_set hp _, ?_⟩
          subst hjp; exact he.symm
        · exact ⟨l[j], List.mem_iff_getElem.2 ⟨j, by rw [List.length_set]; exact hj, by rw [List.getElem_set_ne hjp]⟩, rfl⟩
      · exact ⟨(x, wt), List.mem_set hp _, rfl⟩
  · unfold arcHas
    simp only [List.any_append, List.any_cons, Bool.or_eq_true, List.any_eq_true, beq_iff_eq, decide_eq_true_eq]
    constructor
    · rintro (⟨a, ha, rfl⟩ | rfl | ⟨a, ha, rfl⟩)
      · exact .inl ⟨a, List.mem_of_mem_take ha, rfl⟩
      · exact .inr rfl
      · exact .inl ⟨a, List.mem_of_mem_drop ha, rfl⟩
    · rintro (⟨a, ha, rfl⟩ | rfl)
      · rw [← List.take_append_drop (arcPos l x) l] at ha
        rcases List.mem_append.1 ha with ha | ha
        · exact .inl ⟨a, ha, rfl⟩
        · exact .inr (.inr ⟨a, ha, rfl⟩)
      · exact .inr (.inl rfl)
end Go.Proofs.YthpjmjohdliohaaGreat
