/- A graph in the making: its block, its nodes elsewhere, its edges a row of its own.
   impl.seen over a simple graph with weights: what it gives, in plain Lean. -/
import Derived.Test.YtgkimjjodhnmiaaGreatNodes
import Derived.Test.YtgkimjjodhnmiaaGreatLaws1
import Derived.Test.YtgkimjjodhnmiaaGreatWReadA
import Derived.Test.YtgkimjjodhnmiaaGreatFl
namespace Go.Proofs.YtgkimjjodhnmiaaGreat
open Go.RowKit

theorem info_edge : (Tryz.prog.info? 33).map (fun i => (i.zero, i.size, i.bytes)) = some (some (.agg #[.int .i64 0, .int .i64 0, .int .i64 0]), 3, 24) := by kernel_rfl
theorem new_three (w : World) (x y z : Value) (e : TypeId) : ∀ (j : Nat) u, [x, y, z][j]? = some u → (w.alloc (.cells #[x, y, z] e)).cell? ((⟨w.heap.size, 0, none⟩ : Addr).add j) = some u := by
  intro j u hj
  rw [Addr.add_mid, Nat.zero_add]
  rcases j with _ | _ | _ | j
  · simp at hj; subst hj; unfold World.cell?; rw [heap_alloc_new]; rfl
  · simp at hj; subst hj; unfold World.cell?; rw [heap_alloc_new]; rfl
  · simp at hj; subst hj; unfold World.cell?; rw [heap_alloc_new]; rfl
  · simp at hj
theorem new_three_at (w : World) (x y z : Value) (e : TypeId) {s : Nat} (hs : w.heap.size = s) : ∀ (j : Nat) u, [x, y, z][j]? = some u → (w.alloc (.cells #[x, y, z] e)).cell? ((⟨s, 0, none⟩ : Addr).add j) = some u := by
  subst hs; exact new_three w x y z e
theorem one_edge (x y z : Int) : ∀ u ∈ [Value.int .i64 x, Value.int .i64 y, Value.int .i64 z], u.oneCell' = true := by
  intro u hu
  simp at hu
  rcases hu with rfl | rfl | rfl <;> rfl

/-- The graph in the making: block ob; all else that stood in w0 stands. -/
structure EG (w0 w : World) (ob : Nat) (dir : Bool) (vn : Value) (es : List (Int × Int × Int)) (v : Value) : Prop where
  blk : w.heap[ob]? = some (.cells #[.bool dir, vn, v] 25 (0, 0))
  e : w.ownsRow w0.heap.size 33 3 v es.length (edgeCells es)
  fr : w0.grownBy w (some ob)
  lt : ob < w0.heap.size

section
variable {w0 w w1 : World} {ob n c c1 : Nat} {dir : Bool} {vn : Value} {es : List (Int × Int × Int)} {b b1 : Option Addr} {o : Obj}

theorem EG.start {w : World} {ob : Nat} {dir : Bool} {vn : Value} (h : w.heap[ob]? = some (.cells #[.bool dir, vn, .slice none 0 0] 25 (0, 0))) : EG w w ob dir vn [] (.slice none 0 0) :=
  ⟨h, World.ownsRow_nil _ _ _ _, World.grownBy.refl _ _, lt_of_block h⟩
theorem EG.at0 {v : Value} (h : EG w0 w ob dir vn es v) : w.cell? ⟨ob, 0, none⟩ = some (.bool dir) := by have := h.blk; simp [World.cell?, this]
theorem EG.at1 {v : Value} (h : EG w0 w ob dir vn es v) : w.cell? ⟨ob, 1, none⟩ = some vn := by have := h.blk; simp [World.cell?, this]
theorem EG.at2 {v : Value} (h : EG w0 w ob dir vn es v) : w.cell? ⟨ob, 2, none⟩ = some v := by have := h.blk; simp [World.cell?, this]
theorem EG.keep {v : Value} (h : EG w0 w ob dir vn es v) (hb : Below w.heap.size w w1) : EG w0 w1 ob dir vn es v :=
  have hf := h.fr
  ⟨(hb.block ob (lt_of_block h.blk)).trans h.blk, owns_same h.e fun j hj => hb.block j (h.e.lt j hj).2,
    ⟨hb.os.trans hf.os, hb.tape.trans hf.tape, hb.output.trans hf.output, Nat.le_trans hf.size hb.size, fun j hj hn => (hb.block j (Nat.lt_of_lt_of_le hj hf.size)).trans (hf.block j hj hn)⟩, h.lt⟩

theorem EG.add {x : Int × Int × Int} (h : EG w0 w ob dir vn es (.slice b n c)) (hn : n = es.length) (hg : (w.alloc o).grownBy w1 (Value.slice b n c).ownBlock)
    (ho : w1.ownsRow w0.heap.size 33 3 (.slice b1 (n + 1) c1) (n + 1) (edgeCells es ++ [.int .i64 x.1, .int .i64 x.2.1, .int .i64 x.2.2])) :
    w1.cell? ⟨ob, 2, none⟩ = some (.slice b n c) ∧ w1.frozen? ⟨ob, 2, none⟩ = false ∧ Hid (EG w0 (w1.setCell ⟨ob, 2, none⟩ (.slice b1 (n + 1) c1)) ob dir vn (es ++ [x]) (.slice b1 (n + 1) c1)) := by
  subst hn
  have hz : (w.alloc o).heap.size = w.heap.size + 1 := by simp
  have hbl := lt_of_block h.blk
  have hlt := h.lt
  have hf := h.fr
  have hsz := hf.size
  have hgs := hg.size
  have hk : ∀ j, j < w.heap.size → (Value.slice b es.length c).ownBlock ≠ some j → w1.heap[j]? = w.heap[j]? := fun j hj hn => by
    rw [hg.block j (by omega) (fun e => hn e.symm), Below.heap_alloc _ _ _ hj]
  have hb1 := (hk ob hbl fun e => by have := (h.e.lt ob e).1; omega).trans h.blk
  have hset : ∀ j, j ≠ ob → (w1.setCell ⟨ob, 2, none⟩ (.slice b1 (es.length + 1) c1)).heap[j]? = w1.heap[j]? := fun j hj => Below.heap_setCell _ _ _ _ hj
  refine ⟨by simp [World.cell?, hb1], by simp [World.frozen?, hb1], (heap_set_self hb1 2 _).trans rfl, ?_, ?_, hlt⟩
  · have e1 : (es ++ [x]).length = es.length + 1 := by simp
    have e2 : edgeCells (es ++ [x]) = edgeCells es ++ [.int .i64 x.1, .int .i64 x.2.1, .int .i64 x.2.2] := by simp [edgeCells]
    rw [e1, e2]
    exact owns_same ho fun j hj => hset j (by have := (ho.lt j hj).1; omega)
  · refine ⟨(hg.os.trans rfl).trans hf.os, (hg.tape.trans rfl).trans hf.tape, (hg.output.trans rfl).trans hf.output, by rw [size_setCell]; omega, fun j hj hn => ?_⟩
    rw [hset j (fun e => hn (by rw [e])), hk j (by omega) (fun e => by have := (h.e.lt j e).1; omega), hf.block j hj hn]

theorem EG.mid (h : EG w0 w ob dir vn es (.slice b n c)) (hg : (w.alloc o).grownBy w1 (Value.slice b n c).ownBlock) : w0.grownBy w1 (some ob) := by
  have hz : (w.alloc o).heap.size = w.heap.size + 1 := by simp
  have hf := h.fr
  have hsz := hf.size
  have hgs := hg.size
  refine ⟨(hg.os.trans rfl).trans hf.os, (hg.tape.trans rfl).trans hf.tape, (hg.output.trans rfl).trans hf.output, by omega, fun j hj hn => ?_⟩
  rw [hg.block j (by omega) (fun e => by have := (h.e.lt j e.symm).1; omega), Below.heap_alloc _ _ _ (by omega), hf.block j hj hn]
theorem EG.mid2 (h : EG w0 w ob dir vn es (.slice b n c)) (hg : (w.alloc o).grownBy w1 (Value.slice b n c).ownBlock) (v : Value) : w0.grownBy (w1.setCell ⟨ob, 2, none⟩ v) (some ob) := by
  have hm := h.mid hg
  exact ⟨hm.os, hm.tape, hm.output, by rw [size_setCell]; exact hm.size, fun j hj hn => (Below.heap_setCell _ _ _ _ (fun e => hn (by rw [e]))).trans (hm.block j hj hn)⟩
theorem EG.draw {v : Value} (h : EG w0 w ob dir vn es v) : EG w0 w.drew ob dir vn es v := h.keep (drew_below w)

/-- What was in w0, elsewhere, is there. -/
theorem EG.cells {v : Value} {a : Option Addr} {cs : List Value} (h : EG w0 w ob dir vn es v) (hc : Cells w0 a cs) (ha : ∀ g k, a = some ⟨g, k, none⟩ → g ≠ ob) : Cells w a cs := by
  rcases hc with rfl | ⟨g, k, rfl, hlt, hr⟩
  · exact .inl rfl
  · have hf := h.fr
    have hne := ha g k rfl
    refine .inr ⟨g, k, rfl, Nat.lt_of_lt_of_le hlt hf.size, ?_⟩
    intro j u hj
    have := hr j u hj
    unfold World.cell? at this ⊢
    rwa [hf.block g hlt (fun e => by injection e with e; exact hne e)]

theorem EG.shape {v : Value} (h : EG w0 w ob dir vn es v) : ∃ a2 c2, v = .slice a2 es.length c2 ∧ Cells w a2 (edgeCells es) := by
  obtain ⟨a2, c2, e2, _, h2, _⟩ := owns_cells h.e
  exact ⟨a2, c2, e2, h2⟩
end

theorem fresh_own {b b1 : Option Addr} {n m c c1 s j : Nat} (hat : b1 = b ∨ b1 = some ⟨s, 0, none⟩) (hj : (Value.slice b1 m c1).ownBlock = some j) : (Value.slice b n c).ownBlock = some j ∨ j = s := by
  rcases hat with rfl | rfl
  · left; cases b1 <;> exact hj
  · right
    simp only [Value.ownBlock] at hj
    injection hj with hj
    exact hj.symm

/-- The same, while the blocks from lo to hi stay as they are in wz. -/
structure EZ (w0 wz w : World) (lo hi ob : Nat) (dir : Bool) (vn : Value) (es : List (Int × Int × Int)) (v : Value) : Prop where
  eg : EG w0 w ob dir vn es v
  zone : ∀ j, lo ≤ j → j < hi → w.heap[j]? = wz.heap[j]?
  away : ∀ j, v.ownBlock = some j → j < lo ∨ hi ≤ j
  zh : hi ≤ w.heap.size
  zl : w0.heap.size ≤ lo

section
variable {w0 wz w w1 : World} {lo hi ob n c c1 : Nat} {dir : Bool} {vn : Value} {es : List (Int × Int × Int)} {b b1 : Option Addr} {o : Obj}

theorem EZ.keep {v : Value} (h : EZ w0 wz w lo hi ob dir vn es v) (hb : Below w.heap.size w w1) : EZ w0 wz w1 lo hi ob dir vn es v :=
  ⟨h.eg.keep hb, fun j h1 h2 => (hb.block j (Nat.lt_of_lt_of_le h2 h.zh)).trans (h.zone j h1 h2), h.away, Nat.le_trans h.zh hb.size, h.zl⟩

theorem EZ.add {x : Int × Int × Int} (h : EZ w0 wz w lo hi ob dir vn es (.slice b n c)) (hn : n = es.length) (hg : (w.alloc o).grownBy w1 (Value.slice b n c).ownBlock)
    (ho : w1.ownsRow w0.heap.size 33 3 (.slice b1 (n + 1) c1) (n + 1) (edgeCells es ++ [.int .i64 x.1, .int .i64 x.2.1, .int .i64 x.2.2])) (hat : b1 = b ∨ b1 = some ⟨(w.alloc o).heap.size, 0, none⟩) :
    w1.cell? ⟨ob, 2, none⟩ = some (.slice b n c) ∧ w1.frozen? ⟨ob, 2, none⟩ = false ∧ Hid (EZ w0 wz (w1.setCell ⟨ob, 2, none⟩ (.slice b1 (n + 1) c1)) lo hi ob dir vn (es ++ [x]) (.slice b1 (n + 1) c1)) := by
  obtain ⟨h1, h2, h3⟩ := h.eg.add hn hg ho
  have hz : (w.alloc o).heap.size = w.heap.size + 1 := by simp
  have hzh := h.zh
  have hgs := hg.size
  have hlt := h.eg.lt
  have hzl := h.zl
  refine ⟨h1, h2, h3, fun j k1 k2 => ?_, fun j hj => ?_, by rw [size_setCell]; omega, hzl⟩
  · rw [Below.heap_setCell _ _ _ _ (show j ≠ ob by omega), hg.block j (by omega) (fun e => by
      rcases h.away j e.symm with e | e <;> omega), Below.heap_alloc _ _ _ (by omega)]
    exact h.zone j k1 k2
  · rcases fresh_own (n := n) (c := c) hat hj with e | e
    · exact h.away j e
    · right; omega
end
end Go.Proofs.YtgkimjjodhnmiaaGreat

namespace Go.Proofs.YtgkimjjodhnmiaaGreat
open Go.RowKit Go.Maps

theorem ebox3 {w : World} {q : Nat} {a b c : Value} {ty : TypeId} (h : w.heap[q]? = some (.cells #[a, b, c] ty (0, 0))) (u v z : Value) :
    w.cell? ⟨q, 0, none⟩ = some a ∧ w.frozen? ⟨q, 0, none⟩ = false ∧ (w.setCell ⟨q, 0, none⟩ u).cell? ⟨q, 1, none⟩ = some b ∧ (w.setCell ⟨q, 0, none⟩ u).frozen? ⟨q, 1, none⟩ = false ∧
    ((w.setCell ⟨q, 0, none⟩ u).setCell ⟨q, 1, none⟩ v).cell? ⟨q, 2, none⟩ = some c ∧ ((w.setCell ⟨q, 0, none⟩ u).setCell ⟨q, 1, none⟩ v).frozen? ⟨q, 2, none⟩ = false ∧
    (((w.setCell ⟨q, 0, none⟩ u).setCell ⟨q, 1, none⟩ v).setCell ⟨q, 2, none⟩ z).cell? ⟨q, 0, none⟩ = some u ∧ (((w.setCell ⟨q, 0, none⟩ u).setCell ⟨q, 1, none⟩ v).setCell ⟨q, 2, none⟩ z).cell? ⟨q, 1, none⟩ = some v ∧
    (((w.setCell ⟨q, 0, none⟩ u).setCell ⟨q, 1, none⟩ v).setCell ⟨q, 2, none⟩ z).cell? ⟨q, 2, none⟩ = some z := by
  have h1 : (w.setCell ⟨q, 0, none⟩ u).heap[q]? = some (.cells #[u, b, c] ty (0, 0)) := (heap_set_self h 0 _).trans rfl
  have h2 : ((w.setCell ⟨q, 0, none⟩ u).setCell ⟨q, 1, none⟩ v).heap[q]? = some (.cells #[u, v, c] ty (0, 0)) := (heap_set_self h1 1 _).trans rfl
  have h3 : (((w.setCell ⟨q, 0, none⟩ u).setCell ⟨q, 1, none⟩ v).setCell ⟨q, 2, none⟩ z).heap[q]? = some (.cells #[u, v, z] ty (0, 0)) := (heap_set_self h2 2 _).trans rfl
  refine ⟨by simp [World.cell?, h], by simp [World.frozen?, h], by simp [World.cell?, h1], by simp [World.frozen?, h1], by simp [World.cell?, h2], by simp [World.frozen?, h2], by simp [World.cell?, h3], by simp [World.cell?, h3], by simp [World.cell?, h3]⟩

/-- A row of edges. -/
def rowW (dir : Bool) (W : Int → Int → Int) (u : Int) (l : List Int) : List (Int × Int × Int) := (l.filter fun v => dir || decide (u ≤ v)).map fun v => (u, v, W u v)
/-- The edges that impl.seen tells of the nodes A. -/
def seenW (dir : Bool) (W : Int → Int → Int) (A : List Int) (S : Int → List Int) : List (Int × Int × Int) := A.flatMap fun u => rowW dir W u (S u)

theorem seenW_succ (dir : Bool) (W : Int → Int → Int) (A : List Int) (S : Int → List Int) {k : Nat} (hk : k < A.length) : seenW dir W (A.take (k + 1)) S = seenW dir W (A.take k) S ++ rowW dir W A[k] (S A[k]) := by
  unfold seenW
  rw [List.take_succ_eq_append_getElem hk, List.flatMap_append]
  simp
theorem rowW_succ (dir : Bool) (W : Int → Int → Int) (u : Int) (l : List Int) {k : Nat} (hk : k < l.length) : rowW dir W u (l.take (k + 1)) = rowW dir W u (l.take k) ++ if (dir || decide (u ≤ l[k])) = true then [(u, l[k], W u l[k])] else [] := by
  unfold rowW
  rw [List.take_succ_eq_append_getElem hk, List.filter_append, List.map_append]
  congr 1
  by_cases h : (dir || decide (u ≤ l[k])) = true
  · rw [if_pos h, List.filter_cons_of_pos (p := fun v => dir || decide (u ≤ v)) h]; rfl
  · rw [if_neg h, List.filter_cons_of_neg (p := fun v => dir || decide (u ≤ v)) h]; rfl
theorem rowW_len (dir : Bool) (W : Int → Int → Int) (u : Int) (l : List Int) : (rowW dir W u l).length ≤ l.length := by
  unfold rowW
  rw [List.length_map]
  exact List.length_filter_le _ _
theorem seenW_len (dir : Bool) (W : Int → Int → Int) (A : List Int) (S : Int → List Int) (m : Nat) (hS : ∀ u, (S u).length ≤ m) : (seenW dir W A S).length ≤ A.length * m := by
  induction A with
  | nil => simp [seenW]
  | cons a A ih =>
    unfold seenW at ih ⊢
    rw [List.flatMap_cons, List.length_append, List.length_cons, Nat.succ_mul]
    have h1 := rowW_len dir W a (S a)
    have h2 := hS a
    omega

/-- What is iterated over, whatever iterator it is. -/
theorem it_any {w w1 : World} {P : Int → Prop} {e : Ending} {l : List Int} (h : ItPost w P e w1) (hl : l.Pairwise (· < ·)) (hm : ∀ x, x ∈ l ↔ P x) (hn : l.length ≤ 1000) :
    ∃ v, e = .returned v ∧ Below w.heap.size w w1 ∧ Calls Tryz.prog 31 #[v] w1 fun e w2 => ∃ (a : Option Addr) (c : Nat), e = .returned (.slice a l.length c) ∧ w2.ownsRow w1.heap.size 3 1 (.slice a l.length c) l.length (ints l) ∧ Below w.heap.size w1 w2 := by
  have hnd : l.Nodup := hl.imp fun h => Int.ne_of_lt h
  have key : ∀ ns : List Int, ns.Nodup → (∀ x, x ∈ ns ↔ P x) → asc ns = l ∧ ns.length = l.length := fun ns h1 h2 => by
    have hp : l.Perm ns := (List.perm_ext_iff_of_nodup hnd h1).2 fun x => (hm x).trans (h2 x).symm
    exact ⟨(asc_unique hp (hl.imp fun h => Int.le_of_lt h)).symm, hp.length_eq.symm⟩
  rcases h with ⟨rfl, rfl, hno⟩ | ⟨ib, ns, rfl, hi, h1, h2, hb⟩ | ⟨ib, ns, rfl, hi, h1, h2, hb⟩
  · obtain ⟨k1, k2⟩ := key [] (by simp) (fun x => by simpa using hno x)
    refine ⟨_, rfl, Below.refl _ _, (iterated0_any w).mono fun e w2 ⟨a, c, r1, r2, r3⟩ => ?_⟩
    rw [k1, k2] at r2
    rw [k2] at r1
    exact ⟨a, c, r1, r2, r3⟩
  · obtain ⟨k1, k2⟩ := key ns h1 h2
    refine ⟨_, rfl, hb, (iteratedMN_any w.heap.size w1.heap.size ib ns w1 (by omega) hi (Nat.le_refl _)).mono fun e w2 ⟨a, c, r1, r2, r3⟩ => ?_⟩
    rw [k1, k2] at r2
    rw [k2] at r1
    exact ⟨a, c, r1, r2, r3⟩
  · obtain ⟨k1, k2⟩ := key ns h1 h2
    refine ⟨_, rfl, hb, (iteratedME_any w.heap.size w1.heap.size ib ns w1 (by omega) hi (Nat.le_refl _)).mono fun e w2 ⟨a, c, r1, r2, r3⟩ => ?_⟩
    rw [k1, k2] at r2
    rw [k2] at r1
    exact ⟨a, c, r1, r2, r3⟩

/-- What impl.seen gives. -/
def SeenWPost (w : World) (d : Bool) (ids : List Int) (es : List (Int × Int × Int)) (e : Ending) (w' : World) : Prop :=
  ∃ (an : Option Addr) (cn : Nat) (ae : Option Addr) (ce : Nat), e = .returned (.agg #[.bool d, .slice an ids.length cn, .slice ae es.length ce]) ∧ Cells w' an (ints ids) ∧ (an = none → cn = 0) ∧ Cells w' ae (edgeCells es) ∧ (∀ g k, an = some ⟨g, k, none⟩ → w.heap.size ≤ g) ∧ (∀ g k, ae = some ⟨g, k, none⟩ → w.heap.size ≤ g) ∧ Below w.heap.size w w'

theorem seenW_start {w w1 w2 w3 w4 : World} {d : Bool} {an : Option Addr} {cn ob : Nat} {ids : List Int} {vn : Value} (hw1 : w1 = w.alloc (.cells #[.bool false, .slice none 0 0, .slice none 0 0] 25)) (hb2 : Below w1.heap.size w1 w2) (hb3 : Below w1.heap.size w2 w3)
    (own3 : w3.ownsRow w2.heap.size 3 1 (.slice an ids.length cn) ids.length (ints ids)) (hob : ob = w3.heap.size) (hw4 : w4 = w3.alloc (.cells #[.bool d, .slice an ids.length cn, .slice none 0 0] 25)) (hvn : vn = Value.slice an ids.length cn)
    (kz : w1.heap[w.heap.size]? = some (.cells #[.bool false, .slice none 0 0, .slice none 0 0] 25 (0, 0))) (hz1 : w1.heap.size = w.heap.size + 1) :
    EG w4 w4 ob d vn [] (.slice none 0 0) ∧ ∀ wr, w4.grownBy wr (some ob) → Below w.heap.size w wr ∧ Cells wr an (ints ids) ∧ wr.heap[w.heap.size]? = some (.cells #[.bool false, .slice none 0 0, .slice none 0 0] 25 (0, 0)) := by
  have b4 : Below w3.heap.size w3 w4 := by rw [hw4]; exact alloc_below _ _
  have hE : EG w4 w4 ob d vn [] (.slice none 0 0) := EG.start (by rw [hob, hvn, hw4]; exact heap_alloc_new _ _)
  have s2 := hb2.size
  have s3 := hb3.size
  have s4 := b4.size
  have b14 : Below w1.heap.size w1 w4 := (hb2.trans hb3).trans (b4.mono (by omega))
  have b04 : Below w.heap.size w w4 := by
    have : Below w.heap.size w w1 := by rw [hw1]; exact alloc_below _ _
    exact this.trans (b14.mono (by omega))
  refine ⟨hE, fun wr h => ⟨?_, ?_, ?_⟩⟩
  · exact ⟨h.os.trans b04.os, h.tape.trans b04.tape, h.output.trans b04.output, by have := h.size; have := b04.size; omega, fun j hj => by
      rw [h.block j (by omega) (fun e => by injection e with e; omega), b04.block j hj]⟩
  · have hr : wr.ownsRow w2.heap.size 3 1 (.slice an ids.length cn) ids.length (ints ids) := owns_same own3 fun j hj => by
      have h1 := (own3.lt j hj).2
      rw [h.block j (by omega) (fun e => by injection e with e; omega), b4.block j h1]
    obtain ⟨a', c', e', _, hc, _⟩ := owns_cells hr
    injection e' with e1 _ _
    subst e1
    exact hc
  · rw [h.block _ (by omega) (fun e => by injection e with e; omega), b14.block _ (by omega)]
    exact kz

theorem Cells.sameAt' {w w' : World} {a : Option Addr} {cs : List Value} {q : Nat} (h : Cells w a cs) (hk : ∀ j, q < j → w'.heap[j]? = w.heap[j]?) (hs : w.heap.size ≤ w'.heap.size) (ha : ∀ g k, a = some ⟨g, k, none⟩ → q < g) : Cells w' a cs := by
  rcases h with h | ⟨b, off, h1, h2, h3⟩
  · exact .inl h
  · refine .inr ⟨b, off, h1, by omega, fun j v hj => ?_⟩
    have := h3 j v hj
    unfold World.cell? at this ⊢
    rwa [hk b (ha b off h1)]

theorem own_slot' {w : World} {base e size n c : Nat} {g k m : Nat} {xs : List Value} (h : w.ownsRow base e size (.slice (some ⟨g, k, none⟩) n c) m xs) : base ≤ g ∧ g < w.heap.size := h.lt g rfl
theorem seenW_done {w w4 wr : World} {d : Bool} {an b : Option Addr} {cn c2 ob m : Nat} {ids : List Int} {vn : Value} {es : List (Int × Int × Int)} (hob : w.heap.size < ob) (hm : m = es.length) (hE : EG w4 wr ob d vn es (.slice b m c2)) (hcn : Cells wr an (ints ids)) (hbw : Below w.heap.size w wr)
    (hanb : ∀ g k, an = some ⟨g, k, none⟩ → w.heap.size < g) (hnone : an = none → cn = 0) (hvn : vn = Value.slice an ids.length cn) :
    SeenWPost w d ids es (.returned (.agg #[.bool d, vn, .slice b m c2])) (((wr.setCell ⟨w.heap.size, 0, none⟩ (.bool d)).setCell ⟨w.heap.size, 1, none⟩ vn).setCell ⟨w.heap.size, 2, none⟩ (.slice b m c2)) := by
  have hlt := hE.lt
  have hse : ∀ j, j ≠ w.heap.size → (((wr.setCell ⟨w.heap.size, 0, none⟩ (.bool d)).setCell ⟨w.heap.size, 1, none⟩ vn).setCell ⟨w.heap.size, 2, none⟩ (.slice b m c2)).heap[j]? = wr.heap[j]? := fun j hj => by
    rw [Below.heap_setCell _ _ _ _ hj, Below.heap_setCell _ _ _ _ hj, Below.heap_setCell _ _ _ _ hj]
  have hrow := owns_same (w' := ((wr.setCell ⟨w.heap.size, 0, none⟩ (.bool d)).setCell ⟨w.heap.size, 1, none⟩ vn).setCell ⟨w.heap.size, 2, none⟩ (.slice b m c2)) hE.e fun j hj => hse j (by have := (hE.e.lt j hj).1; omega)
  obtain ⟨a', c', e', _, hcs, _⟩ := owns_cells hrow
  injection e' with e1 _ _
  subst e1
  refine ⟨an, cn, b, c2, by rw [hvn, hm], hcn.sameAt' (fun j hj => hse j (by omega)) (by simp only [size_setCell]; exact Nat.le_refl _) hanb, hnone, hcs, fun g k e => by have := hanb g k e; omega, fun g k e => ?_, ?_⟩
  · have := (own_slot' (by rw [e] at hrow; exact hrow)).1; omega
  · exact ((hbw.setCell (Nat.le_refl _) _).setCell (Nat.le_refl _) _).setCell (Nat.le_refl _) _

end Go.Proofs.YtgkimjjodhnmiaaGreat
