/- impl.read: a graph laid into a plain one. -/
import Derived.Test.YtgkimjjodhnmiaaGreatLay
import Derived.Test.YtgkimjjodhnmiaaGreatSort64
import Derived.Test.YtgkimjjodhnmiaaGreatBase
import Derived.Deep.OwnRows
namespace Go.Proofs.YtgkimjjodhnmiaaGreat
open Go.RowKit

/-- The block of a plain graph's three fields. -/
def PBlock (w : World) (pb : Nat) (x y z : Value) : Prop := w.heap[pb]? = some (.cells #[x, y, z] 115 (0, 0))

theorem PBlock.lt {w : World} {pb : Nat} {x y z : Value} (h : PBlock w pb x y z) : pb < w.heap.size := lt_of_block h
theorem PBlock.c0 {w : World} {pb : Nat} {x y z : Value} (h : PBlock w pb x y z) : w.cell? ⟨pb, 0, none⟩ = some x := by
  unfold PBlock at h; simp [World.cell?, h]
theorem PBlock.c1 {w : World} {pb : Nat} {x y z : Value} (h : PBlock w pb x y z) : w.cell? ⟨pb, 1, none⟩ = some y := by
  unfold PBlock at h; simp [World.cell?, h]
theorem PBlock.c2 {w : World} {pb : Nat} {x y z : Value} (h : PBlock w pb x y z) : w.cell? ⟨pb, 2, none⟩ = some z := by
  unfold PBlock at h; simp [World.cell?, h]
theorem PBlock.free {w : World} {pb : Nat} {x y z : Value} (h : PBlock w pb x y z) (j : Nat) : w.frozen? ⟨pb, j, none⟩ = false := by
  unfold PBlock at h; simp [World.frozen?, h]
theorem PBlock.set0 {w : World} {pb : Nat} {x y z : Value} (h : PBlock w pb x y z) (u : Value) : PBlock (w.setCell ⟨pb, 0, none⟩ u) pb u y z := by
  unfold PBlock at h ⊢; simp [World.setCell, Array.getElem?_modify, h]
theorem PBlock.kept {w w' : World} {pb : Nat} {x y z : Value} {row : Option Nat} (h : PBlock w pb x y z) (hg : w.grownBy w' row) (hne : some pb ≠ row) : PBlock w' pb x y z := by
  unfold PBlock at h ⊢; rw [hg.block pb (lt_of_block h) hne]; exact h
theorem PBlock.below {w w' : World} {pb B : Nat} {x y z : Value} (h : PBlock w pb x y z) (hb : Below B w w') (hB : pb < B) : PBlock w' pb x y z := by
  unfold PBlock at h ⊢; rw [hb.block pb hB]; exact h

theorem ints_take (zs : List Int) (k : Nat) (hk : k < zs.length) : ints (zs.take k) ++ [.int .i64 zs[k]] = ints (zs.take (k + 1)) := by
  unfold ints
  rw [List.take_succ_eq_append_getElem hk, List.map_append]; rfl

theorem new_one (w : World) (x : Value) (e : TypeId) : ∀ (j : Nat) u, [x][j]? = some u → (w.alloc (.cells #[x] e)).cell? ((⟨w.heap.size, 0, none⟩ : Addr).add j) = some u := by
  intro j u hj
  rw [Addr.add_mid, Nat.zero_add]
  rcases j with _ | j
  · simp at hj; subst hj; unfold World.cell?; rw [heap_alloc_new]; rfl
  · simp at hj
theorem one_int (x : Int) : ∀ u ∈ [Value.int .i64 x], u.oneCell' = true := by
  intro u hu
  rw [List.mem_singleton] at hu
  subst hu; rfl
theorem take_all {α : Type} {l : List α} {k : Nat} (h1 : k ≤ l.length) (h2 : ¬ k < l.length) : l.take k = l := List.take_of_length_le (by omega)

/-- The two tables made and hung into the plain graph's block. -/
def MadeAt (w w' : World) (pb n : Nat) (x : Value) : Prop :=
  ∃ g1 g2, PBlock w' pb x (.slice (some ⟨g1, 0, none⟩) n n) (.slice (some ⟨g2, 0, none⟩) n n) ∧ w'.heap[g1]? = some (.cells (madeCells #[.slice none 0 0] n) 131 (0, 0)) ∧
    w'.heap[g2]? = some (.cells (madeCells #[.slice none 0 0] n) 131 (0, 0)) ∧ g1 ≠ g2 ∧ w.heap.size ≤ g1 ∧ w.heap.size ≤ g2 ∧ w.heap.size ≤ w'.heap.size ∧
    w'.os = w.os ∧ w'.tape = w.tape ∧ w'.output = w.output ∧ ∀ k, k < w.heap.size → k ≠ pb → w'.heap[k]? = w.heap[k]?

theorem PBlock.set1 {w : World} {pb : Nat} {x y z : Value} (h : PBlock w pb x y z) (u : Value) : PBlock (w.setCell ⟨pb, 1, none⟩ u) pb x u z := by
  unfold PBlock at h ⊢; simp [World.setCell, Array.getElem?_modify, h]
theorem PBlock.set2 {w : World} {pb : Nat} {x y z : Value} (h : PBlock w pb x y z) (u : Value) : PBlock (w.setCell ⟨pb, 2, none⟩ u) pb x y u := by
  unfold PBlock at h ⊢; simp [World.setCell, Array.getElem?_modify, h]
theorem PBlock.alloc {w : World} {pb : Nat} {x y z : Value} (h : PBlock w pb x y z) (o : Obj) : PBlock (w.alloc o) pb x y z := h.below (alloc_below w o) h.lt

theorem size_setCell (w : World) (p : Addr) (u : Value) : (w.setCell p u).heap.size = w.heap.size := by simp [World.setCell]

theorem made_12 {w : World} {pb n : Nat} {x y z : Value} (h : PBlock w pb x y z) (i j : Nat) (hij : (i = w.heap.size ∧ j = w.heap.size + 1) ∨ (i = w.heap.size + 1 ∧ j = w.heap.size)) :
    MadeAt w ((((w.alloc (.cells (madeCells #[.slice none 0 0] n) 131)).alloc (.cells (madeCells #[.slice none 0 0] n) 131)).setCell ⟨pb, 1, none⟩ (.slice (some ⟨i, 0, none⟩) n n)).setCell ⟨pb, 2, none⟩ (.slice (some ⟨j, 0, none⟩) n n)).drew pb n x := by
  have hlt := h.lt
  have h1 := ((h.alloc (.cells (madeCells #[.slice none 0 0] n) 131)).alloc (.cells (madeCells #[.slice none 0 0] n) 131))
  have hn : ((w.alloc (.cells (madeCells #[.slice none 0 0] n) 131)).alloc (.cells (madeCells #[.slice none 0 0] n) 131)).heap[w.heap.size]? = some (.cells (madeCells #[.slice none 0 0] n) 131 (0, 0)) := by
    rw [Below.heap_alloc _ _ _ (by simp), heap_alloc_new]
  have hm : ((w.alloc (.cells (madeCells #[.slice none 0 0] n) 131)).alloc (.cells (madeCells #[.slice none 0 0] n) 131)).heap[w.heap.size + 1]? = some (.cells (madeCells #[.slice none 0 0] n) 131 (0, 0)) := by
    have := heap_alloc_new (w.alloc (.cells (madeCells #[.slice none 0 0] n) 131)) (.cells (madeCells #[.slice none 0 0] n) 131)
    rwa [show (w.alloc (.cells (madeCells #[.slice none 0 0] n) 131)).heap.size = w.heap.size + 1 by simp] at this
  have hold : ∀ k, k < w.heap.size → ((w.alloc (.cells (madeCells #[.slice none 0 0] n) 131)).alloc (.cells (madeCells #[.slice none 0 0] n) 131)).heap[k]? = w.heap[k]? := fun k hk => by
    rw [Below.heap_alloc _ _ _ (by simp; omega), Below.heap_alloc _ _ _ hk]
  have hz : ((w.alloc (.cells (madeCells #[.slice none 0 0] n) 131)).alloc (.cells (madeCells #[.slice none 0 0] n) 131)).heap.size = w.heap.size + 2 := by simp
  have ho : ((w.alloc (.cells (madeCells #[.slice none 0 0] n) 131)).alloc (.cells (madeCells #[.slice none 0 0] n) 131)).os = w.os ∧ ((w.alloc (.cells (madeCells #[.slice none 0 0] n) 131)).alloc (.cells (madeCells #[.slice none 0 0] n) 131)).tape = w.tape ∧ ((w.alloc (.cells (madeCells #[.slice none 0 0] n) 131)).alloc (.cells (madeCells #[.slice none 0 0] n) 131)).output = w.output := ⟨rfl, rfl, rfl⟩
  generalize (w.alloc (.cells (madeCells #[.slice none 0 0] n) 131)).alloc (.cells (madeCells #[.slice none 0 0] n) 131) = v at *
  have hh : ∀ k, k ≠ pb → (((v.setCell ⟨pb, 1, none⟩ (.slice (some ⟨i, 0, none⟩) n n)).setCell ⟨pb, 2, none⟩ (.slice (some ⟨j, 0, none⟩) n n)).drew).heap[k]? = v.heap[k]? := fun k hk => by
    show ((v.setCell ⟨pb, 1, none⟩ (.slice (some ⟨i, 0, none⟩) n n)).setCell ⟨pb, 2, none⟩ (.slice (some ⟨j, 0, none⟩) n n)).heap[k]? = _
    rw [Below.heap_setCell _ _ _ _ hk, Below.heap_setCell _ _ _ _ hk]
  refine ⟨i, j, (h1.set1 _).set2 _, ?_, ?_, by omega, by omega, by omega, ?_, ho.1, ho.2.1, ho.2.2, fun k hk hp => (hh k hp).trans (hold k hk)⟩
  · rw [hh i (by omega)]
    rcases hij with ⟨rfl, _⟩ | ⟨rfl, _⟩
    · exact hn
    · exact hm
  · rw [hh j (by omega)]
    rcases hij with ⟨_, rfl⟩ | ⟨_, rfl⟩
    · exact hm
    · exact hn
  · show w.heap.size ≤ ((v.setCell ⟨pb, 1, none⟩ (.slice (some ⟨i, 0, none⟩) n n)).setCell ⟨pb, 2, none⟩ (.slice (some ⟨j, 0, none⟩) n n)).heap.size
    rw [size_setCell, size_setCell, hz]; omega

theorem made_mid {w : World} {pb n : Nat} {x y z : Value} (h : PBlock w pb x y z) :
    MadeAt w ((((w.alloc (.cells (madeCells #[.slice none 0 0] n) 131)).setCell ⟨pb, 1, none⟩ (.slice (some ⟨w.heap.size, 0, none⟩) n n)).alloc (.cells (madeCells #[.slice none 0 0] n) 131)).setCell ⟨pb, 2, none⟩ (.slice (some ⟨w.heap.size + 1, 0, none⟩) n n)).drew pb n x := by
  have e : ((w.alloc (.cells (madeCells #[.slice none 0 0] n) 131)).setCell ⟨pb, 1, none⟩ (.slice (some ⟨w.heap.size, 0, none⟩) n n)).alloc (.cells (madeCells #[.slice none 0 0] n) 131) =
      ((w.alloc (.cells (madeCells #[.slice none 0 0] n) 131)).alloc (.cells (madeCells #[.slice none 0 0] n) 131)).setCell ⟨pb, 1, none⟩ (.slice (some ⟨w.heap.size, 0, none⟩) n n) := by
    have hlt := h.lt
    unfold World.setCell World.alloc
    simp only
    congr 1
    apply Array.ext_getElem?
    intro k
    simp only [Array.getElem?_push, Array.getElem?_modify, Array.size_modify, Array.size_push]
    by_cases hk : pb = k
    · subst hk
      rw [if_neg (by omega), if_pos rfl, if_pos rfl, if_neg (by omega), if_neg (by omega)]
    · rw [if_neg hk, if_neg hk]
  rw [e]
  exact made_12 h _ _ (.inl ⟨rfl, rfl⟩)

theorem made_list (n : Nat) : (madeCells #[.slice none 0 0] n).toList = List.replicate n (Value.slice none 0 0) := by
  apply List.ext_getElem?
  intro j
  unfold madeCells
  rw [Array.getElem?_toList, Array.getElem?_map, List.getElem?_replicate]
  by_cases hj : j < n
  · simp [hj, Nat.mod_one]
  · simp [hj]

/-- What is in the two tables at the beginning. -/
theorem made_built {w w' : World} {pb n : Nat} {x : Value} (h : MadeAt w w' pb n x) (hpb : pb < w.heap.size) (hn : n ≤ 1048575) :
    ∃ g1 g2, Built w' w'.heap.size pb n 1 g1 (List.replicate n (.slice none 0 0)) (List.replicate n []) 2 g2 (List.replicate n (.slice none 0 0)) (List.replicate n []) ∧ w'.cell? ⟨pb, 0, none⟩ = some x ∧
      w.heap.size ≤ g1 ∧ w.heap.size ≤ g2 ∧ w.grownBy w' (some pb) := by
  obtain ⟨g1, g2, hp, h1, h2, hne, hg1, hg2, hz, ho, ht, hu, hk⟩ := h
  have own : ∀ g, w'.heap[g]? = some (.cells (madeCells #[.slice none 0 0] n) 131 (0, 0)) → w'.ownsRow 0 131 1 (.slice (some ⟨g, 0, none⟩) n n) n (List.replicate n (.slice none 0 0)) := fun g hg =>
    ⟨by simp, .inr ⟨g, n, _, rfl, Nat.zero_le _, hg, Nat.le_refl _, by unfold maxLen; omega, by rw [size_madeCells, Nat.mul_one], by rw [made_list, Nat.mul_one]; exact List.take_of_length_le (by simp)⟩⟩
  have rows : RowsOwn w' w'.heap.size (List.replicate n (.slice none 0 0)) (List.replicate n []) := by
    intro j v l hv hl
    rw [List.getElem?_replicate] at hv hl
    by_cases hj : j < n
    · rw [if_pos hj] at hv hl
      injection hv with hv; injection hl with hl
      subst hv; subst hl
      exact World.ownsRow_nil _ _ _ _
    · rw [if_neg hj] at hv; cases hv
  have ap : ∀ (i j : Nat) (u v : Value), (List.replicate n (Value.slice none 0 0))[i]? = some u → (List.replicate n (Value.slice none 0 0))[j]? = some v → Apart u v := by
    intro i j u v hu _
    rw [List.getElem?_replicate] at hu
    split at hu
    · injection hu with hu; subst hu
      intro k hk; cases hk
    · cases hu
  exact ⟨g1, g2, ⟨hp.c1, hp.c2, hp.lt, lt_of_block h1, lt_of_block h2, Nat.le_refl _, by omega, by omega, hne, own g1 h1, own g2 h2, by simp, by simp, rows, rows,
    fun i j u v hu hv _ => ap i j u v hu hv, fun i j u v hu hv _ => ap i j u v hu hv, ap⟩, hp.c0, hg1, hg2, ho, ht, hu, hz, fun k hk' hne' => hk k hk' (fun e => hne' (by rw [e]))⟩

theorem Built.alloc {w : World} {B pb n f g : Nat} {vs : List Value} {ls : List (List Arc)} {f' g' : Nat} {vs' : List Value} {ls' : List (List Arc)} (h : Built w B pb n f g vs ls f' g' vs' ls') (o : Obj) : Built (w.alloc o) B pb n f g vs ls f' g' vs' ls' :=
  ⟨cell_alloc h.cell o, cell_alloc h.cell' o, h.pbB, h.gB, h.gB', by have := h.hB; simp; omega, h.pg, h.pg', h.gg, h.own.alloc o, h.own'.alloc o, h.len, h.len',
    fun j v l hv hl => (h.rows j v l hv hl).alloc o, fun j v l hv hl => (h.rows' j v l hv hl).alloc o, h.dis, h.dis', h.cross⟩

/-- An edge laid into the tables. -/
def layE (bits : Int → Nat) (ids : List Int) (dir : Bool) (t : List (List Arc) × List (List Arc)) (e : Int × Int × Int) : List (List Arc) × List (List Arc) :=
  if dir then (turnRow t.1 (posOf ids e.1) (posOf ids e.2.1) (bits e.2.2), turnRow t.2 (posOf ids e.2.1) (posOf ids e.1) (bits e.2.2))
  else (turnRow (turnRow t.1 (posOf ids e.1) (posOf ids e.2.1) (bits e.2.2)) (posOf ids e.2.1) (posOf ids e.1) (bits e.2.2),
    turnRow (turnRow t.2 (posOf ids e.2.1) (posOf ids e.1) (bits e.2.2)) (posOf ids e.1) (posOf ids e.2.1) (bits e.2.2))

/-- The tables behind some edges. -/
def tabs (bits : Int → Nat) (ids : List Int) (dir : Bool) (es : List (Int × Int × Int)) : List (List Arc) × List (List Arc) :=
  es.foldl (layE bits ids dir) (List.replicate ids.length [], List.replicate ids.length [])

theorem tabs_step (bits : Int → Nat) (ids : List Int) (dir : Bool) (es : List (Int × Int × Int)) (k : Nat) (hk : k < es.length) : tabs bits ids dir (es.take (k + 1)) = layE bits ids dir (tabs bits ids dir (es.take k)) es[k] := by
  unfold tabs
  rw [List.take_succ_eq_append_getElem hk, List.foldl_append]; rfl

theorem owns_same {w w' : World} {B e size n : Nat} {u : Value} {xs : List Value} (hu : w.ownsRow B e size u n xs) (h : ∀ k, u.ownBlock = some k → w'.heap[k]? = w.heap[k]?) : w'.ownsRow B e size u n xs := by
  refine ⟨hu.1, ?_⟩
  rcases hu.2 with hn | ⟨g, cap, cur, rfl, hb, hg, r⟩
  · exact .inl hn
  · exact .inr ⟨g, cap, cur, rfl, hb, (h g rfl).trans hg, r⟩

/-- A weight as the program's float. -/
def bitsOf (x : Int) : Nat := floatOfInt FloatKind.f64 x

/-- A table of rows of arcs in memory. -/
def TableAt (w : World) (pb f n : Nat) (ls : List (List Arc)) : Prop :=
  ∃ g, w.cell? ⟨pb, f, none⟩ = some (.slice (some ⟨g, 0, none⟩) n n) ∧ ls.length = n ∧ ∀ (j : Nat) (l : List Arc), ls[j]? = some l → ∃ a c, w.cell? ⟨g, j, none⟩ = some (.slice a l.length c) ∧ Cells w a (arcCells l)

theorem TableAt.below {w w' : World} {pb f n : Nat} {ls : List (List Arc)} (h : TableAt w pb f n ls) (hb : Below w.heap.size w w') : TableAt w' pb f n ls := by
  obtain ⟨g, h1, h2, h3⟩ := h
  refine ⟨g, cell_below hb h1, h2, fun j l hl => ?_⟩
  obtain ⟨a, c, h4, h5⟩ := h3 j l hl
  exact ⟨a, c, cell_below hb h4, h5.below hb⟩

theorem Built.table {w : World} {B pb n f g : Nat} {vs : List Value} {ls : List (List Arc)} {f' g' : Nat} {vs' : List Value} {ls' : List (List Arc)} (h : Built w B pb n f g vs ls f' g' vs' ls') : TableAt w pb f n ls := by
  refine ⟨g, h.cell, h.len, fun j l hl => ?_⟩
  have hj := (List.getElem?_eq_some_iff.1 hl).1
  have hv : vs[j]? = some (vs[j]'(by have := h.vlen; have := h.len; omega)) := List.getElem?_eq_getElem _
  obtain ⟨a, c, e, _, hc, _⟩ := owns_cells (h.rows j _ l hv hl)
  rw [e] at hv
  exact ⟨a, c, owns_cell h.own hv, hc⟩

/-- A plain graph in memory. -/
structure PlainAt (w : World) (pb : Nat) (ids : List Int) (outs ins : List (List Arc)) : Prop where
  row : ∃ a c, w.cell? ⟨pb, 0, none⟩ = some (.slice a ids.length c) ∧ Cells w a (ints ids)
  up : ids.Pairwise (· < ·)
  out : TableAt w pb 1 ids.length outs
  inn : TableAt w pb 2 ids.length ins
  okOut : ∀ l ∈ outs, RowOk ids.length l
  okIn : ∀ l ∈ ins, RowOk ids.length l

theorem PlainAt.below {w w' : World} {pb : Nat} {ids : List Int} {outs ins : List (List Arc)} (h : PlainAt w pb ids outs ins) (hb : Below w.heap.size w w') : PlainAt w' pb ids outs ins := by
  obtain ⟨a, c, h1, h2⟩ := h.row
  exact ⟨⟨a, c, cell_below hb h1, h2.below hb⟩, h.up, h.out.below hb, h.inn.below hb, h.okOut, h.okIn⟩

/-- A plain graph that stays whatever is done to other blocks than those from lo on. -/
def FarAt (lo : Nat) (w : World) (pb : Nat) (ids : List Int) (outs ins : List (List Arc)) : Prop :=
  ∀ W : World, w.heap.size ≤ W.heap.size → (∀ j, lo ≤ j → j < w.heap.size → W.heap[j]? = w.heap[j]?) → PlainAt W pb ids outs ins

section
variable {lo : Nat} {w w' : World} {pb : Nat} {ids : List Int} {outs ins : List (List Arc)} (h : FarAt lo w pb ids outs ins)
include h
theorem FarAt.plain : PlainAt w pb ids outs ins := h w (Nat.le_refl _) (fun _ _ _ => rfl)
theorem FarAt.keep (hs : w.heap.size ≤ w'.heap.size) (hk : ∀ j, lo ≤ j → j < w.heap.size → w'.heap[j]? = w.heap[j]?) : FarAt lo w' pb ids outs ins :=
  fun W h1 h2 => h W (Nat.le_trans hs h1) fun j hj hl => (h2 j hj (Nat.lt_of_lt_of_le hl hs)).trans (hk j hj hl)
theorem FarAt.below (hb : Below w.heap.size w w') : FarAt lo w' pb ids outs ins := h.keep hb.size fun j _ hj => hb.block j hj
theorem FarAt.set {b o : Nat} (hb : b < lo) (v : Value) : FarAt lo (w.setCell ⟨b, o, none⟩ v) pb ids outs ins :=
  h.keep (by simp [World.setCell]) fun j hj _ => Below.heap_setCell _ _ _ _ (show j ≠ b by omega)
theorem FarAt.low {l : Nat} (hl : l ≤ lo) : FarAt l w pb ids outs ins := fun W h1 h2 => h W h1 fun j hj hs => h2 j (Nat.le_trans hl hj) hs
end

theorem Built.far {w W : World} {B pb n f g : Nat} {vs : List Value} {ls : List (List Arc)} {f' g' : Nat} {vs' : List Value} {ls' : List (List Arc)} (h : Built w B pb n f g vs ls f' g' vs' ls') {lo : Nat} (h1 : lo ≤ pb) (h2 : lo ≤ g) (h3 : lo ≤ g') (_h4 : lo ≤ B)
    (hz : w.heap.size ≤ W.heap.size) (hk : ∀ j, lo ≤ j → j < w.heap.size → W.heap[j]? = w.heap[j]?) : Built W B pb n f g vs ls f' g' vs' ls' := by
  have a1 := h.pbB
  have a2 := h.gB
  have a3 := h.gB'
  have a4 := h.hB
  have hrow : ∀ {e s k : Nat} {v : Value} {xs : List Value}, w.ownsRow B e s v k xs → W.ownsRow B e s v k xs := fun o => owns_same o fun j hj => by
    have := o.lt j hj
    exact hk j (by omega) this.2
  exact { h with
    cell := (World.cell?_of_block (hk pb h1 (by omega))).trans h.cell
    cell' := (World.cell?_of_block (hk pb h1 (by omega))).trans h.cell'
    hB := Nat.le_trans a4 hz
    own := owns_same h.own fun j hj => by
      have e : g = j := by injection hj
      subst e
      exact hk g h2 (by omega)
    own' := owns_same h.own' fun j hj => by
      have e : g' = j := by injection hj
      subst e
      exact hk g' h3 (by omega)
    rows := fun j v l hv hl => hrow (h.rows j v l hv hl)
    rows' := fun j v l hv hl => hrow (h.rows' j v l hv hl) }

/-- What read leaves. -/
def ReadPost (w : World) (g : Gr) (e : Ending) (w' : World) : Prop :=
  ∃ b, e = .returned (.tuple #[.pointer (some ⟨w.heap.size + 1, 0, none⟩), .bool b]) ∧ b = okGraph g ∧ Below w.heap.size w w' ∧ w.heap.size + 1 < w'.heap.size ∧
    (okGraph g = true → FarAt w.heap.size w' (w.heap.size + 1) (asc g.nodes) (tabs bitsOf (asc g.nodes) g.dir g.edges).1 (tabs bitsOf (asc g.nodes) g.dir g.edges).2)

theorem asc_incr {zs : List Int} (h : zs.Nodup) : (asc zs).Pairwise (· < ·) := by
  have h1 := incr_asc zs
  unfold incr at h1
  rw [decide_eq_true h] at h1
  exact of_decide_eq_true h1

theorem layE_ok {n : Nat} {bits : Int → Nat} {ids : List Int} {dir : Bool} {t : List (List Arc) × List (List Arc)} {e : Int × Int × Int} (h1 : ∀ l ∈ t.1, RowOk n l) (h2 : ∀ l ∈ t.2, RowOk n l) (hu : posOf ids e.1 < n) (hv : posOf ids e.2.1 < n) :
    (∀ l ∈ (layE bits ids dir t e).1, RowOk n l) ∧ (∀ l ∈ (layE bits ids dir t e).2, RowOk n l) := by
  unfold layE
  cases dir
  · exact ⟨turnRow_ok (turnRow_ok h1 hv) hu, turnRow_ok (turnRow_ok h2 hu) hv⟩
  · exact ⟨turnRow_ok h1 hv, turnRow_ok h2 hu⟩

theorem okGraph_true {g : Gr} (h : g.nodes.Nodup) (hok : ∀ j (hj : j < g.edges.length), okEdge g.nodes g.edges[j] = true) : okGraph g = true := by
  unfold okGraph
  rw [decide_eq_true h, Bool.true_and, List.all_eq_true]
  intro e he
  obtain ⟨j, hj, rfl⟩ := List.mem_iff_getElem.1 he
  exact hok j hj

theorem plain_of {w : World} {B pb g1 g2 : Nat} {ids : List Int} {v1 v2 : List Value} {l1 l2 : List (List Arc)} {a : Option Addr} {c n : Nat} (hn : ids.length = n) (h : Built w B pb n 1 g1 v1 l1 2 g2 v2 l2) (h0 : w.cell? ⟨pb, 0, none⟩ = some (.slice a n c)) (hc : Cells w a (ints ids))
    (hu : ids.Pairwise (· < ·)) (h1 : ∀ l ∈ l1, RowOk n l) (h2 : ∀ l ∈ l2, RowOk n l) : PlainAt w pb ids l1 l2 := by
  subst hn
  exact ⟨⟨a, c, h0, hc⟩, hu, h.table, h.swap.table, h1, h2⟩

theorem full_nodup {zs : List Int} {m n : Nat} (h : m = n ↔ (asc zs).Pairwise (· < ·)) : ((m : Int) != (n : Int)) = !decide zs.Nodup := by
  have h1 := incr_asc zs
  unfold incr at h1
  rw [← h1]
  by_cases e : m = n
  · have e2 := decide_eq_true (h.1 e)
    rw [e2]; simp [e]
  · have e2 := decide_eq_false (fun k => e (h.2 k))
    rw [e2]; simp; omega

end Go.Proofs.YtgkimjjodhnmiaaGreat
