/- A plain graph while it is being built: two tables of rows of arcs. No program in sight but for the types' numbers. -/
import Derived.Test.YtgkimjjodhnmiaaGreatSet
namespace Go.Proofs.YtgkimjjodhnmiaaGreat
open Go.RowKit

/-- Below B nothing has turned but the blocks g and h. -/
structure Kept (B g h : Nat) (w w' : World) : Prop where
  os : w'.os = w.os
  tape : w'.tape = w.tape
  output : w'.output = w.output
  size : w.heap.size ≤ w'.heap.size
  block : ∀ k, k < B → k ≠ g → k ≠ h → w'.heap[k]? = w.heap[k]?

theorem Kept.refl (B g h : Nat) (w : World) : Kept B g h w w := ⟨rfl, rfl, rfl, Nat.le_refl _, fun _ _ _ _ => rfl⟩
theorem Kept.trans {B g h : Nat} {a b c : World} (p : Kept B g h a b) (q : Kept B g h b c) : Kept B g h a c :=
  ⟨q.os.trans p.os, q.tape.trans p.tape, q.output.trans p.output, Nat.le_trans p.size q.size, fun k hk h1 h2 => (q.block k hk h1 h2).trans (p.block k hk h1 h2)⟩
theorem Kept.swap {B g h : Nat} {a b : World} (p : Kept B g h a b) : Kept B h g a b := ⟨p.os, p.tape, p.output, p.size, fun k hk h1 h2 => p.block k hk h2 h1⟩
theorem Kept.below {B g h A : Nat} {a b : World} (p : Kept B g h a b) (hA : A ≤ B) (hg : A ≤ g) (hh : A ≤ h) : Below A a b :=
  ⟨p.os, p.tape, p.output, p.size, fun k hk => p.block k (by omega) (by omega) (by omega)⟩
theorem Kept.ofBelow {B g h : Nat} {a b : World} (p : Below B a b) : Kept B g h a b := ⟨p.os, p.tape, p.output, p.size, fun k hk _ _ => p.block k hk⟩

/-- The rows of a table: each owned, from block B on. -/
def RowsOwn (w : World) (B : Nat) (vs : List Value) (ls : List (List Arc)) : Prop :=
  ∀ (j : Nat) (v : Value) (l : List Arc), vs[j]? = some v → ls[j]? = some l → w.ownsRow B 148 2 v l.length (arcCells l)

def Apart (u v : Value) : Prop := ∀ k, u.ownBlock = some k → v.ownBlock ≠ some k
theorem Apart.symm {u v : Value} (h : Apart u v) : Apart v u := fun k hk hu => h k hu hk

/-- A plain graph in the making: field f of the block pb is the table at the block g, field f' that at g'. -/
structure Built (w : World) (B pb n f g : Nat) (vs : List Value) (ls : List (List Arc)) (f' g' : Nat) (vs' : List Value) (ls' : List (List Arc)) : Prop where
  cell : w.cell? ⟨pb, f, none⟩ = some (.slice (some ⟨g, 0, none⟩) n n)
  cell' : w.cell? ⟨pb, f', none⟩ = some (.slice (some ⟨g', 0, none⟩) n n)
  pbB : pb < B
  gB : g < B
  gB' : g' < B
  hB : B ≤ w.heap.size
  pg : pb ≠ g
  pg' : pb ≠ g'
  gg : g ≠ g'
  own : w.ownsRow 0 131 1 (.slice (some ⟨g, 0, none⟩) n n) n vs
  own' : w.ownsRow 0 131 1 (.slice (some ⟨g', 0, none⟩) n n) n vs'
  len : ls.length = n
  len' : ls'.length = n
  rows : RowsOwn w B vs ls
  rows' : RowsOwn w B vs' ls'
  dis : ∀ (i j : Nat) u v, vs[i]? = some u → vs[j]? = some v → i ≠ j → Apart u v
  dis' : ∀ (i j : Nat) u v, vs'[i]? = some u → vs'[j]? = some v → i ≠ j → Apart u v
  cross : ∀ (i j : Nat) u v, vs[i]? = some u → vs'[j]? = some v → Apart u v

theorem Built.swap {w : World} {B pb n f g : Nat} {vs : List Value} {ls : List (List Arc)} {f' g' : Nat} {vs' : List Value} {ls' : List (List Arc)} (h : Built w B pb n f g vs ls f' g' vs' ls') :
    Built w B pb n f' g' vs' ls' f g vs ls where
  cell := h.cell'
  cell' := h.cell
  pbB := h.pbB
  gB := h.gB'
  gB' := h.gB
  hB := h.hB
  pg := h.pg'
  pg' := h.pg
  gg := h.gg.symm
  own := h.own'
  own' := h.own
  len := h.len'
  len' := h.len
  rows := h.rows'
  rows' := h.rows
  dis := h.dis'
  dis' := h.dis
  cross := fun i j u v hu hv => (h.cross j i v u hv hu).symm

theorem Built.vlen {w : World} {B pb n f g : Nat} {vs : List Value} {ls : List (List Arc)} {f' g' : Nat} {vs' : List Value} {ls' : List (List Arc)} (h : Built w B pb n f g vs ls f' g' vs' ls') : vs.length = n := by
  have := h.own.1; omega

theorem kept_of {w w1 : World} {B e size n : Nat} {v u : Value} {xs : List Value} (hg : w.grownBy w1 v.ownBlock) (hu : w.ownsRow B e size u n xs) (ha : Apart u v) : w1.ownsRow B e size u n xs := by
  refine hu.kept hg ?_
  cases hc : u.ownBlock with
  | none => exact .inl rfl
  | some k => exact .inr fun e => ha k hc e.symm

theorem set_old {w : World} {B e size n g i : Nat} {u x : Value} {xs : List Value} (hu : w.ownsRow B e size u n xs) (hgB : g < B) : (w.setCell ⟨g, i, none⟩ x).ownsRow B e size u n xs := by
  refine hu.kept (row := some g) ⟨rfl, rfl, rfl, by simp [World.setCell], fun k hk hne => Below.heap_setCell _ _ _ _ (by intro e; exact hne (by rw [e]))⟩ ?_
  cases hc : u.ownBlock with
  | none => exact .inl rfl
  | some k => exact .inr fun e => by injection e with e; have := (hu.lt k hc).1; omega

/-- A row of a table laid anew, and the new one stored. -/
theorem Built.put {w : World} {B pb n f g : Nat} {vs : List Value} {ls : List (List Arc)} {f' g' : Nat} {vs' : List Value} {ls' : List (List Arc)} (h : Built w B pb n f g vs ls f' g' vs' ls')
    {i : Nat} {v v1 : Value} {l l1 : List Arc} {w1 : World} (hv : vs[i]? = some v) (hl : ls[i]? = some l) (hg : w.grownBy w1 v.ownBlock)
    (hv1 : w1.ownsRow B 148 2 v1 l1.length (arcCells l1)) (hn : v1.ownBlock = v.ownBlock ∨ ∀ k, v1.ownBlock = some k → w.heap.size ≤ k) :
    Built (w1.setCell ⟨g, i, none⟩ v1) B pb n f g (vs.set i v1) (ls.set i l1) f' g' vs' ls' ∧ Kept B g g' w (w1.setCell ⟨g, i, none⟩ v1) := by
  have hin : i < n := by
    have h1 := (List.getElem?_eq_some_iff.1 hl).1
    have h2 := h.len
    omega
  have hvB : ∀ k, v.ownBlock = some k → B ≤ k ∧ k < w.heap.size := (h.rows i v l hv hl).lt
  have hold : ∀ k, k < B → some k ≠ v.ownBlock := fun k hk e => by have := (hvB k e.symm).1; omega
  have hset : w1.grownBy (w1.setCell ⟨g, i, none⟩ v1) (some g) := ⟨rfl, rfl, rfl, by simp [World.setCell], fun k hk hne => Below.heap_setCell _ _ _ _ (by intro e; exact hne (by rw [e]))⟩
  have hB := h.hB
  have hown1 : w1.ownsRow 0 131 1 (.slice (some ⟨g, 0, none⟩) n n) n vs := h.own.kept hg (.inr (hold g h.gB))
  have hown1' : w1.ownsRow 0 131 1 (.slice (some ⟨g', 0, none⟩) n n) n vs' := h.own'.kept hg (.inr (hold g' h.gB'))
  have hap : ∀ (j : Nat) u, vs[j]? = some u → i ≠ j → Apart u v1 := fun j u hu hij => by
    intro k hk hk1
    obtain ⟨lj, hlj⟩ : ∃ lj, ls[j]? = some lj := by
      have h1 := (List.getElem?_eq_some_iff.1 hu).1
      have h2 := h.vlen; have h3 := h.len
      exact ⟨ls[j]'(by omega), List.getElem?_eq_getElem (by omega)⟩
    rcases hn with hn | hn
    · exact h.dis j i u v hu hv (fun e => hij e.symm) k hk (hn ▸ hk1)
    · have h1 := hn k hk1
      have h2 := ((h.rows j u lj hu hlj).lt k hk).2
      omega
  have hap' : ∀ (j : Nat) u, vs'[j]? = some u → Apart u v1 := fun j u hu => by
    intro k hk hk1
    obtain ⟨lj, hlj⟩ : ∃ lj, ls'[j]? = some lj := by
      have h1 := (List.getElem?_eq_some_iff.1 hu).1
      have h2 := h.swap.vlen; have h3 := h.len'
      exact ⟨ls'[j]'(by omega), List.getElem?_eq_getElem (by omega)⟩
    rcases hn with hn | hn
    · exact (h.cross i j v u hv hu).symm k hk (hn ▸ hk1)
    · have h1 := hn k hk1
      have h2 := ((h.rows' j u lj hu hlj).lt k hk).2
      omega
  refine ⟨⟨?_, ?_, h.pbB, h.gB, h.gB', ?_, h.pg, h.pg', h.gg, (hown1.stored i v1).1, ?_, by rw [List.length_set]; exact h.len, h.len', ?_, ?_, ?_, h.dis', ?_⟩, ?_⟩
  · exact hset.cell (hg.cell h.cell (hold pb h.pbB)) (fun e => h.pg (by injection e))
  · exact hset.cell (hg.cell h.cell' (hold pb h.pbB)) (fun e => h.pg (by injection e))
  · exact Nat.le_trans hB (Nat.le_trans hg.size hset.size)
  · exact hown1'.kept hset (.inr (fun e => h.gg (by simp only [Value.ownBlock] at e; injection e with e; exact e.symm)))
  · intro j u lj hu hlj
    rw [List.getElem?_set] at hu hlj
    by_cases hij : i = j
    · rw [if_pos hij] at hu hlj
      split at hu
      · split at hlj
        · injection hu with hu; injection hlj with hlj
          subst hu; subst hlj
          exact set_old hv1 h.gB
        · cases hlj
      · cases hu
    · rw [if_neg hij] at hu hlj
      exact set_old (kept_of hg (h.rows j u lj hu hlj) (h.dis j i u v hu hv (fun e => hij e.symm))) h.gB
  · intro j u lj hu hlj
    exact set_old (kept_of hg (h.rows' j u lj hu hlj) (h.cross i j v u hv hu).symm) h.gB
  · intro a b x y hx hy hab
    rw [List.getElem?_set] at hx hy
    by_cases ha : i = a
    · rw [if_pos ha] at hx
      rw [if_neg (by omega)] at hy
      split at hx
      · injection hx with hx; subst hx
        exact (hap b y hy (by omega)).symm
      · cases hx
    · rw [if_neg ha] at hx
      by_cases hb : i = b
      · rw [if_pos hb] at hy
        split at hy
        · injection hy with hy; subst hy
          exact hap a x hx ha
        · cases hy
      · rw [if_neg hb] at hy
        exact h.dis a b x y hx hy hab
  · intro a b x y hx hy
    rw [List.getElem?_set] at hx
    by_cases ha : i = a
    · rw [if_pos ha] at hx
      split at hx
      · injection hx with hx; subst hx
        exact (hap' b y hy).symm
      · cases hx
    · rw [if_neg ha] at hx
      exact h.cross a b x y hx hy
  · refine ⟨hg.os, hg.tape, hg.output, Nat.le_trans hg.size hset.size, fun k hk h1 _ => ?_⟩
    rw [hset.block k (by have := hg.size; omega) (fun e => h1 (by injection e)), hg.block k (by omega) (hold k hk)]

/-- A row well laid: its ends ascend, and are below n. -/
def RowOk (n : Nat) (l : List Arc) : Prop := ArcsAsc l ∧ ∀ a ∈ l, a.1 < n

theorem RowOk.nil (n : Nat) : RowOk n [] := ⟨List.Pairwise.nil, fun _ h => by cases h⟩

theorem asc_short {n : Nat} {l : List Arc} (h : RowOk n l) : l.length ≤ n := by
  have : ∀ (l : List Arc) (m : Nat), l.Pairwise (fun a b => a.1 < b.1) → (∀ a ∈ l, m ≤ a.1 ∧ a.1 < n) → l.length ≤ n - m := by
    intro l
    induction l with
    | nil => intro m _ _; simp
    | cons a l ih =>
      intro m hp hb
      rw [List.pairwise_cons] at hp
      have h1 := ih (a.1 + 1) hp.2 (fun b hb' => ⟨hp.1 b hb', (hb b (List.mem_cons_of_mem _ hb')).2⟩)
      have h2 := hb a List.mem_cons_self
      rw [List.length_cons]; omega
  have := this l 0 h.1 (fun a ha => ⟨Nat.zero_le _, h.2 a ha⟩)
  omega

theorem setArc_ok {n : Nat} {l : List Arc} (h : RowOk n l) {x wt : Nat} (hx : x < n) : RowOk n (setArc l x wt) := by
  unfold setArc
  split
  · rename_i hh
    obtain ⟨hp, he⟩ := arcHas_at h.1 hh
    refine ⟨?_, ?_⟩
    · unfold ArcsAsc
      rw [List.pairwise_iff_getElem]
      intro i j hi hj hij
      rw [List.length_set] at hi hj
      have h0 := List.pairwise_iff_getElem.1 h.1 i j hi hj hij
      have e : ∀ (k : Nat) (hk : k < l.length), ((l.set (arcPos l x) (x, wt))[k]'(by rw [List.length_set]; exact hk)).1 = l[k].1 := by
        intro k hk
        rw [List.getElem_set]
        split
        · rename_i e; subst e; exact he.symm
        · rfl
      rw [e i hi, e j hj]; exact h0
    · intro a ha
      rcases List.mem_or_eq_of_mem_set ha with ha | ha
      · exact h.2 a ha
      · subst ha; exact hx
  · rename_i hh
    have hno : ∀ a ∈ l, a.1 ≠ x := fun a ha e => hh (List.any_eq_true.2 ⟨a, ha, by simp [e]⟩)
    refine ⟨?_, ?_⟩
    · unfold ArcsAsc
      rw [List.pairwise_append, List.pairwise_cons]
      refine ⟨h.1.sublist (List.take_sublist _ _), ⟨?_, h.1.sublist (List.drop_sublist _ _)⟩, ?_⟩
      · intro b hb
        obtain ⟨j, hj, rfl⟩ := List.mem_iff_getElem.1 hb
        rw [List.length_drop] at hj
        rw [List.getElem_drop]
        have h1 := arcPos_ge h.1 (x := x) (j := arcPos l x + j) (by omega) (by omega)
        have h2 := hno (l[arcPos l x + j]'(by omega)) (List.getElem_mem _)
        show x < _
        omega
      · intro a ha b hb
        have ha' : a.1 < x := by
          obtain ⟨j, hj, rfl⟩ := List.mem_iff_getElem.1 ha
          rw [List.length_take] at hj
          rw [List.getElem_take]
          exact arcPos_lt h.1 (by omega) (by omega)
        rcases List.mem_cons.1 hb with rfl | hb
        · exact ha'
        · obtain ⟨j, hj, rfl⟩ := List.mem_iff_getElem.1 hb
          rw [List.length_drop] at hj
          rw [List.getElem_drop]
          have h1 := arcPos_ge h.1 (x := x) (j := arcPos l x + j) (by omega) (by omega)
          omega
    · intro a ha
      rcases List.mem_append.1 ha with ha | ha
      · exact h.2 a (List.mem_of_mem_take ha)
      · rcases List.mem_cons.1 ha with rfl | ha
        · exact hx
        · exact h.2 a (List.mem_of_mem_drop ha)

theorem setArc_has {n : Nat} {l : List Arc} (h : RowOk n l) (x wt y : Nat) : arcHas (setArc l x wt) y = (arcHas l y || decide (x = y)) := by
  rw [Bool.eq_iff_iff]
  unfold setArc
  split
  · rename_i hh
    obtain ⟨hp, he⟩ := arcHas_at h.1 hh
    unfold arcHas
    simp only [List.any_eq_true, beq_iff_eq, Bool.or_eq_true, decide_eq_true_eq]
    constructor
    · rintro ⟨a, ha, rfl⟩
      rcases List.mem_or_eq_of_mem_set ha with ha | ha
      · exact .inl ⟨a, ha, rfl⟩
      · subst ha; exact .inr rfl
    · rintro (⟨a, ha, rfl⟩ | rfl)
      · obtain ⟨j, hj, rfl⟩ := List.mem_iff_getElem.1 ha
        by_cases hjp : arcPos l x = j
        · refine ⟨(x, wt), List.mem_set hp _, ?_⟩
          subst hjp; exact he.symm
        · exact ⟨l[j], List.mem_iff_getElem.2 ⟨j, by rw [List.length_set]; exact hj, by rw [List.getElem_set_ne hjp]⟩, rfl⟩
      · exact ⟨(x, wt), List.mem_set hp _, rfl⟩
  · unfold arcHas
    simp only [List.any_append, List.any_cons, Bool.or_eq_true, List.any_eq_true, beq_iff_eq, decide_eq_true_eq]
    constructor
    · rintro (⟨a, ha, rfl⟩ | rfl | ⟨a, ha, rfl⟩)
      · exact .inl ⟨a, List.mem_of_mem_take ha, rfl⟩
      · exact .inr rfl
      · exact .inl ⟨a, List.mem_of_mem_drop ha, rfl⟩
    · rintro (⟨a, ha, rfl⟩ | rfl)
      · rw [← List.take_append_drop (arcPos l x) l] at ha
        rcases List.mem_append.1 ha with ha | ha
        · exact .inl ⟨a, ha, rfl⟩
        · exact .inr (.inr ⟨a, ha, rfl⟩)
      · exact .inr (.inl rfl)
end Go.Proofs.YtgkimjjodhnmiaaGreat
