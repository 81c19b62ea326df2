/- A graph in the making: its block, its nodes elsewhere, its edges a row of its own. -/
import Derived.Test.YtanbhibllilccaaGreatNodes
import Derived.Test.YtanbhibllilccaaGreatLaws1
namespace Go.Proofs.YtanbhibllilccaaGreat
open Go.RowKit

theorem info_edge : (Tryz.prog.info? 55).map (fun i => (i.zero, i.size, i.bytes)) = some (some (.agg #[.int .i64 0, .int .i64 0, .int .i64 0]), 3, 24) := by kernel_rfl
theorem new_three (w : World) (x y z : Value) (e : TypeId) : ∀ (j : Nat) u, [x, y, z][j]? = some u → (w.alloc (.cells #[x, y, z] e)).cell? ((⟨w.heap.size, 0, none⟩ : Addr).add j) = some u := by
  intro j u hj
  rw [Addr.add_mid, Nat.zero_add]
  rcases j with _ | _ | _ | j
  · simp at hj; subst hj; unfold World.cell?; rw [heap_alloc_new]; rfl
  · simp at hj; subst hj; unfold World.cell?; rw [heap_alloc_new]; rfl
  · simp at hj; subst hj; unfold World.cell?; rw [heap_alloc_new]; rfl
  · simp at hj
theorem new_three_at (w : World) (x y z : Value) (e : TypeId) {s : Nat} (hs : w.heap.size = s) : ∀ (j : Nat) u, [x, y, z][j]? = some u → (w.alloc (.cells #[x, y, z] e)).cell? ((⟨s, 0, none⟩ : Addr).add j) = some u := by
  subst hs; exact new_three w x y z e
theorem one_edge (x y z : Int) : ∀ u ∈ [Value.int .i64 x, Value.int .i64 y, Value.int .i64 z], u.oneCell' = true := by
  intro u hu
  simp at hu
  rcases hu with rfl | rfl | rfl <;> rfl

/-- The graph in the making: block ob; all else that stood in w0 stands. -/
structure EG (w0 w : World) (ob : Nat) (dir : Bool) (vn : Value) (es : List (Int × Int × Int)) (v : Value) : Prop where
  blk : w.heap[ob]? = some (.cells #[.bool dir, vn, v] 25 (0, 0))
  e : w.ownsRow w0.heap.size 55 3 v es.length (edgeCells es)
  fr : w0.grownBy w (some ob)
  lt : ob < w0.heap.size

section
variable {w0 w w1 : World} {ob n c c1 : Nat} {dir : Bool} {vn : Value} {es : List (Int × Int × Int)} {b b1 : Option Addr} {o : Obj}

theorem EG.start {w : World} {ob : Nat} {dir : Bool} {vn : Value} (h : w.heap[ob]? = some (.cells #[.bool dir, vn, .slice none 0 0] 25 (0, 0))) : EG w w ob dir vn [] (.slice none 0 0) :=
  ⟨h, World.ownsRow_nil _ _ _ _, World.grownBy.refl _ _, lt_of_block h⟩
theorem EG.at0 {v : Value} (h : EG w0 w ob dir vn es v) : w.cell? ⟨ob, 0, none⟩ = some (.bool dir) := by have := h.blk; simp [World.cell?, this]
theorem EG.at1 {v : Value} (h : EG w0 w ob dir vn es v) : w.cell? ⟨ob, 1, none⟩ = some vn := by have := h.blk; simp [World.cell?, this]
theorem EG.at2 {v : Value} (h : EG w0 w ob dir vn es v) : w.cell? ⟨ob, 2, none⟩ = some v := by have := h.blk; simp [World.cell?, this]
theorem EG.keep {v : Value} (h : EG w0 w ob dir vn es v) (hb : Below w.heap.size w w1) : EG w0 w1 ob dir vn es v :=
  have hf := h.fr
  ⟨(hb.block ob (lt_of_block h.blk)).trans h.blk, owns_same h.e fun j hj => hb.block j (h.e.lt j hj).2,
    ⟨hb.os.trans hf.os, hb.tape.trans hf.tape, hb.output.trans hf.output, Nat.le_trans hf.size hb.size, fun j hj hn => (hb.block j (Nat.lt_of_lt_of_le hj hf.size)).trans (hf.block j hj hn)⟩, h.lt⟩

theorem EG.add {x : Int × Int × Int} (h : EG w0 w ob dir vn es (.slice b n c)) (hn : n = es.length) (hg : (w.alloc o).grownBy w1 (Value.slice b n c).ownBlock)
    (ho : w1.ownsRow w0.heap.size 55 3 (.slice b1 (n + 1) c1) (n + 1) (edgeCells es ++ [.int .i64 x.1, .int .i64 x.2.1, .int .i64 x.2.2])) :
    w1.cell? ⟨ob, 2, none⟩ = some (.slice b n c) ∧ w1.frozen? ⟨ob, 2, none⟩ = false ∧ Hid (EG w0 (w1.setCell ⟨ob, 2, none⟩ (.slice b1 (n + 1) c1)) ob dir vn (es ++ [x]) (.slice b1 (n + 1) c1)) := by
  subst hn
  have hz : (w.alloc o).heap.size = w.heap.size + 1 := by simp
  have hbl := lt_of_block h.blk
  have hlt := h.lt
  have hf := h.fr
  have hsz := hf.size
  have hgs := hg.size
  have hk : ∀ j, j < w.heap.size → (Value.slice b es.length c).ownBlock ≠ some j → w1.heap[j]? = w.heap[j]? := fun j hj hn => by
    rw [hg.block j (by omega) (fun e => hn e.symm), Below.heap_alloc _ _ _ hj]
  have hb1 := (hk ob hbl fun e => by have := (h.e.lt ob e).1; omega).trans h.blk
  have hset : ∀ j, j ≠ ob → (w1.setCell ⟨ob, 2, none⟩ (.slice b1 (es.length + 1) c1)).heap[j]? = w1.heap[j]? := fun j hj => Below.heap_setCell _ _ _ _ hj
  refine ⟨by simp [World.cell?, hb1], by simp [World.frozen?, hb1], (heap_set_self hb1 2 _).trans rfl, ?_, ?_, hlt⟩
  · have e1 : (es ++ [x]).length = es.length + 1 := by simp
    have e2 : edgeCells (es ++ [x]) = edgeCells es ++ [.int .i64 x.1, .int .i64 x.2.1, .int .i64 x.2.2] := by simp [edgeCells]
    rw [e1, e2]
    exact owns_same ho fun j hj => hset j (by have := (ho.lt j hj).1; omega)
  · refine ⟨(hg.os.trans rfl).trans hf.os, (hg.tape.trans rfl).trans hf.tape, (hg.output.trans rfl).trans hf.output, by rw [size_setCell]; omega, fun j hj hn => ?_⟩
    rw [hset j (fun e => hn (by rw [e])), hk j (by omega) (fun e => by have := (h.e.lt j e).1; omega), hf.block j hj hn]

theorem EG.mid (h : EG w0 w ob dir vn es (.slice b n c)) (hg : (w.alloc o).grownBy w1 (Value.slice b n c).ownBlock) : w0.grownBy w1 (some ob) := by
  have hz : (w.alloc o).heap.size = w.heap.size + 1 := by simp
  have hf := h.fr
  have hsz := hf.size
  have hgs := hg.size
  refine ⟨(hg.os.trans rfl).trans hf.os, (hg.tape.trans rfl).trans hf.tape, (hg.output.trans rfl).trans hf.output, by omega, fun j hj hn => ?_⟩
  rw [hg.block j (by omega) (fun e => by have := (h.e.lt j e.symm).1; omega), Below.heap_alloc _ _ _ (by omega), hf.block j hj hn]
theorem EG.mid2 (h : EG w0 w ob dir vn es (.slice b n c)) (hg : (w.alloc o).grownBy w1 (Value.slice b n c).ownBlock) (v : Value) : w0.grownBy (w1.setCell ⟨ob, 2, none⟩ v) (some ob) := by
  have hm := h.mid hg
  exact ⟨hm.os, hm.tape, hm.output, by rw [size_setCell]; exact hm.size, fun j hj hn => (Below.heap_setCell _ _ _ _ (fun e => hn (by rw [e]))).trans (hm.block j hj hn)⟩
theorem EG.draw {v : Value} (h : EG w0 w ob dir vn es v) : EG w0 w.drew ob dir vn es v := h.keep (drew_below w)

/-- What was in w0, elsewhere, is there. -/
theorem EG.cells {v : Value} {a : Option Addr} {cs : List Value} (h : EG w0 w ob dir vn es v) (hc : Cells w0 a cs) (ha : ∀ g k, a = some ⟨g, k, none⟩ → g ≠ ob) : Cells w a cs := by
  rcases hc with rfl | ⟨g, k, rfl, hlt, hr⟩
  · exact .inl rfl
  · have hf := h.fr
    have hne := ha g k rfl
    refine .inr ⟨g, k, rfl, Nat.lt_of_lt_of_le hlt hf.size, ?_⟩
    intro j u hj
    have := hr j u hj
    unfold World.cell? at this ⊢
    rwa [hf.block g hlt (fun e => by injection e with e; exact hne e)]

theorem EG.shape {v : Value} (h : EG w0 w ob dir vn es v) : ∃ a2 c2, v = .slice a2 es.length c2 ∧ Cells w a2 (edgeCells es) := by
  obtain ⟨a2, c2, e2, _, h2, _⟩ := owns_cells h.e
  exact ⟨a2, c2, e2, h2⟩
end

theorem fresh_own {b b1 : Option Addr} {n m c c1 s j : Nat} (hat : b1 = b ∨ b1 = some ⟨s, 0, none⟩) (hj : (Value.slice b1 m c1).ownBlock = some j) : (Value.slice b n c).ownBlock = some j ∨ j = s := by
  rcases hat with rfl | rfl
  · left; cases b1 <;> exact hj
  · right
    simp only [Value.ownBlock] at hj
    injection hj with hj
    exact hj.symm

/-- The same, while the blocks from lo to hi stay as they are in wz. -/
structure EZ (w0 wz w : World) (lo hi ob : Nat) (dir : Bool) (vn : Value) (es : List (Int × Int × Int)) (v : Value) : Prop where
  eg : EG w0 w ob dir vn es v
  zone : ∀ j, lo ≤ j → j < hi → w.heap[j]? = wz.heap[j]?
  away : ∀ j, v.ownBlock = some j → j < lo ∨ hi ≤ j
  zh : hi ≤ w.heap.size
  zl : w0.heap.size ≤ lo

section
variable {w0 wz w w1 : World} {lo hi ob n c c1 : Nat} {dir : Bool} {vn : Value} {es : List (Int × Int × Int)} {b b1 : Option Addr} {o : Obj}

theorem EZ.keep {v : Value} (h : EZ w0 wz w lo hi ob dir vn es v) (hb : Below w.heap.size w w1) : EZ w0 wz w1 lo hi ob dir vn es v :=
  ⟨h.eg.keep hb, fun j h1 h2 => (hb.block j (Nat.lt_of_lt_of_le h2 h.zh)).trans (h.zone j h1 h2), h.away, Nat.le_trans h.zh hb.size, h.zl⟩

theorem EZ.add {x : Int × Int × Int} (h : EZ w0 wz w lo hi ob dir vn es (.slice b n c)) (hn : n = es.length) (hg : (w.alloc o).grownBy w1 (Value.slice b n c).ownBlock)
    (ho : w1.ownsRow w0.heap.size 55 3 (.slice b1 (n + 1) c1) (n + 1) (edgeCells es ++ [.int .i64 x.1, .int .i64 x.2.1, .int .i64 x.2.2])) (hat : b1 = b ∨ b1 = some ⟨(w.alloc o).heap.size, 0, none⟩) :
    w1.cell? ⟨ob, 2, none⟩ = some (.slice b n c) ∧ w1.frozen? ⟨ob, 2, none⟩ = false ∧ Hid (EZ w0 wz (w1.setCell ⟨ob, 2, none⟩ (.slice b1 (n + 1) c1)) lo hi ob dir vn (es ++ [x]) (.slice b1 (n + 1) c1)) := by
  obtain ⟨h1, h2, h3⟩ := h.eg.add hn hg ho
  have hz : (w.alloc o).heap.size = w.heap.size + 1 := by simp
  have hzh := h.zh
  have hgs := hg.size
  have hlt := h.eg.lt
  have hzl := h.zl
  refine ⟨h1, h2, h3, fun j k1 k2 => ?_, fun j hj => ?_, by rw [size_setCell]; omega, hzl⟩
  · rw [Below.heap_setCell _ _ _ _ (show j ≠ ob by omega), hg.block j (by omega) (fun e => by
      rcases h.away j e.symm with e | e <;> omega), Below.heap_alloc _ _ _ (by omega)]
    exact h.zone j k1 k2
  · rcases fresh_own (n := n) (c := c) hat hj with e | e
    · exact h.away j e
    · right; omega
end
end Go.Proofs.YtanbhibllilccaaGreat
