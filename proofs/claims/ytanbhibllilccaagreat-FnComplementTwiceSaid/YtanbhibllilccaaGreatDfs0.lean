/- The walk depth first: its record in memory, with the list that its visits are noted in. -/
import Derived.Test.YtanbhibllilccaaGreatISet
import Derived.Test.YtanbhibllilccaaGreatDfsLaw
namespace Go.Proofs.YtanbhibllilccaaGreat
open Go.RowKit

/-- The record of a walk depth first. -/
def DBlk (w : World) (tb : Nat) (fv ft s m : Value) : Prop := w.heap[tb]? = some (.cells #[fv, ft, s, m] 102 (0, 0))
section
variable {w : World} {tb : Nat} {fv ft s m : Value} (h : DBlk w tb fv ft s m)
include h
theorem DBlk.lt : tb < w.heap.size := lt_of_block h
theorem DBlk.c0 : w.cell? ⟨tb, 0, none⟩ = some fv := by unfold DBlk at h; simp [World.cell?, h]
theorem DBlk.c1 : w.cell? ⟨tb, 1, none⟩ = some ft := by unfold DBlk at h; simp [World.cell?, h]
theorem DBlk.c2 : w.cell? ⟨tb, 2, none⟩ = some s := by unfold DBlk at h; simp [World.cell?, h]
theorem DBlk.c3 : w.cell? ⟨tb, 3, none⟩ = some m := by unfold DBlk at h; simp [World.cell?, h]
theorem DBlk.free (j : Nat) : w.frozen? ⟨tb, j, none⟩ = false := by unfold DBlk at h; simp [World.frozen?, h]
theorem DBlk.set2 (u : Value) : DBlk (w.setCell ⟨tb, 2, none⟩ u) tb fv ft u m := (heap_set_self h 2 _).trans rfl
theorem DBlk.set3 (u : Value) : DBlk (w.setCell ⟨tb, 3, none⟩ u) tb fv ft s u := (heap_set_self h 3 _).trans rfl
end

/-- A variable in a block of its own. -/
def VBlk (w : World) (b : Nat) (t : TypeId) (v : Value) : Prop := w.heap[b]? = some (.cells #[v] t (0, 0))
section
variable {w : World} {b : Nat} {t : TypeId} {v : Value} (h : VBlk w b t v)
include h
theorem VBlk.lt : b < w.heap.size := lt_of_block h
theorem VBlk.c0 : w.cell? ⟨b, 0, none⟩ = some v := by unfold VBlk at h; simp [World.cell?, h]
theorem VBlk.free (j : Nat) : w.frozen? ⟨b, j, none⟩ = false := by unfold VBlk at h; simp [World.frozen?, h]
theorem VBlk.set (u : Value) : VBlk (w.setCell ⟨b, 0, none⟩ u) b t u := (heap_set_self h 0 _).trans rfl
end

/-- The blocks of a walk. -/
def dfoot (tb mb pb : Nat) (sa pa : Value) : List Nat := [tb, mb, pb] ++ sa.ownBlock.toList ++ pa.ownBlock.toList
theorem mem_dfoot {j tb mb pb : Nat} {sa pa : Value} : j ∈ dfoot tb mb pb sa pa ↔ j = tb ∨ j = mb ∨ j = pb ∨ sa.ownBlock = some j ∨ pa.ownBlock = some j := by
  unfold dfoot
  cases h1 : sa.ownBlock <;> cases h2 : pa.ownBlock <;> simp [eq_comm]

structure DfsAt (w : World) (ids : List Int) (A B tb mb pb : Nat) (fv ft : Value) (tp te : TypeId) (rep : Int → Value) (O S P : List Int) (sa pa : Value) : Prop where
  blk : DBlk w tb fv ft sa (.map (some mb))
  stk : w.ownsRow B 104 1 sa S.length (nodes S.reverse)
  set : ISetAt w ids mb O
  pblk : VBlk w pb tp pa
  prow : w.ownsRow B te 1 pa P.length (P.map rep)
  lts : tb < B ∧ mb < B ∧ pb < B ∧ B ≤ w.heap.size
  low : A ≤ tb ∧ A ≤ mb ∧ A ≤ pb
  ne : tb ≠ mb ∧ tb ≠ pb ∧ mb ≠ pb
  ap : ∀ j, sa.ownBlock = some j → pa.ownBlock ≠ some j

section
variable {w w' : World} {ids : List Int} {A B tb mb pb : Nat} {fv ft : Value} {tp te : TypeId} {rep : Int → Value} {O S P : List Int} {sa pa : Value}

theorem DfsAt.footlow (h : DfsAt w ids A B tb mb pb fv ft tp te rep O S P sa pa) : ∀ k ∈ dfoot tb mb pb sa pa, A ≤ k := fun k hk => by
  have l := h.lts
  have o := h.low
  rcases mem_dfoot.1 hk with e | e | e | e | e
  · omega
  · omega
  · omega
  · have := (h.stk.lt k e).1; omega
  · have := (h.prow.lt k e).1; omega

theorem DfsAt.footlt (h : DfsAt w ids A B tb mb pb fv ft tp te rep O S P sa pa) : ∀ k ∈ dfoot tb mb pb sa pa, k < w.heap.size := fun k hk => by
  have l := h.lts
  rcases mem_dfoot.1 hk with e | e | e | e | e
  · omega
  · omega
  · omega
  · exact (h.stk.lt k e).2
  · exact (h.prow.lt k e).2

theorem DfsAt.same (h : DfsAt w ids A B tb mb pb fv ft tp te rep O S P sa pa) (hf : ∀ j ∈ dfoot tb mb pb sa pa, w'.heap[j]? = w.heap[j]?) (hs : w.heap.size ≤ w'.heap.size) : DfsAt w' ids A B tb mb pb fv ft tp te rep O S P sa pa :=
  ⟨(hf tb (mem_dfoot.2 (by simp))).trans h.blk, owns_same h.stk fun j hj => hf j (mem_dfoot.2 (by simp [hj])), h.set.same (hf mb (mem_dfoot.2 (by simp))), (hf pb (mem_dfoot.2 (by simp))).trans h.pblk,
    owns_same h.prow fun j hj => hf j (mem_dfoot.2 (by simp [hj])), ⟨h.lts.1, h.lts.2.1, h.lts.2.2.1, Nat.le_trans h.lts.2.2.2 hs⟩, h.low, h.ne, h.ap⟩

theorem DfsAt.below (h : DfsAt w ids A B tb mb pb fv ft tp te rep O S P sa pa) (hb : Below w.heap.size w w') : DfsAt w' ids A B tb mb pb fv ft tp te rep O S P sa pa :=
  h.same (fun j hj => hb.block j (h.footlt j hj)) hb.size

/-- The set of what was visited has grown. -/
theorem DfsAt.put (h : DfsAt w ids A B tb mb pb fv ft tp te rep O S P sa pa) {O' : List Int} (hg : w.grownBy w' (some mb)) (hi : ISetAt w' ids mb O') : DfsAt w' ids A B tb mb pb fv ft tp te rep O' S P sa pa := by
  have l := h.lts
  have hk : ∀ j, j < w.heap.size → j ≠ mb → w'.heap[j]? = w.heap[j]? := fun j hj hn => hg.block j hj (fun e => by injection e with e; exact hn e)
  refine ⟨(hk tb (by omega) h.ne.1).trans h.blk, owns_same h.stk fun j hj => ?_, hi, (hk pb (by omega) (fun e => h.ne.2.2 e.symm)).trans h.pblk, owns_same h.prow fun j hj => ?_, ⟨l.1, l.2.1, l.2.2.1, Nat.le_trans l.2.2.2 hg.size⟩, h.low, h.ne, h.ap⟩
  · have := h.stk.lt j hj; exact hk j this.2 (by omega)
  · have := h.prow.lt j hj; exact hk j this.2 (by omega)

/-- Another stack, behind what may have written its row. -/
theorem DfsAt.setS (h : DfsAt w ids A B tb mb pb fv ft tp te rep O S P sa pa) {w1 : World} {sa' : Value} {T : List Int} (hk : ∀ j, j < w.heap.size → sa.ownBlock ≠ some j → w1.heap[j]? = w.heap[j]?) (hz : w.heap.size ≤ w1.heap.size)
    (ho : w1.ownsRow B 104 1 sa' T.length (nodes T.reverse)) (hv : ∀ j, sa'.ownBlock = some j → pa.ownBlock ≠ some j) :
    DBlk w1 tb fv ft sa (.map (some mb)) ∧ DfsAt (w1.setCell ⟨tb, 2, none⟩ sa') ids A B tb mb pb fv ft tp te rep O T P sa' pa := by
  have l := h.lts
  have n := h.ne
  have hs := h.stk.lt
  have hlow : ∀ j, j < B → sa.ownBlock ≠ some j := fun j hj e => by have := (hs j e).1; omega
  have b1 : DBlk w1 tb fv ft sa (.map (some mb)) := (hk tb (by omega) (hlow tb (by omega))).trans h.blk
  have hh : ∀ j, j ≠ tb → (w1.setCell ⟨tb, 2, none⟩ sa').heap[j]? = w1.heap[j]? := fun j hj => Below.heap_setCell _ _ _ _ hj
  refine ⟨b1, b1.set2 _, owns_same ho (fun j hj => by have := ho.lt j hj; exact hh j (by omega)), h.set.same ((hh mb (by omega)).trans (hk mb (by omega) (hlow mb (by omega)))), (hh pb (by omega)).trans ((hk pb (by omega) (hlow pb (by omega))).trans h.pblk),
    owns_same h.prow (fun j hj => by have := h.prow.lt j hj; exact (hh j (by omega)).trans (hk j (by omega) (fun e => h.ap j e hj))), ⟨l.1, l.2.1, l.2.2.1, by simp [World.setCell]; omega⟩, h.low, h.ne, hv⟩

/-- A node pushed: behind the append, and the store of its result. -/
theorem DfsAt.push {a : Option Addr} {k c : Nat} (h : DfsAt w ids A B tb mb pb fv ft tp te rep O S P (.slice a k c) pa) (x : Int) {o : Obj} {w1 : World} {b1 : Option Addr} {c1 : Nat} (hk : k = S.length) (hg : (w.alloc o).grownBy w1 (Value.slice a k c).ownBlock)
    (ho : w1.ownsRow B 104 1 (.slice b1 (k + 1) c1) (k + 1) (nodes S.reverse ++ [.iface 253 (.int .i64 x)])) (hat : b1 = a ∨ b1 = some ⟨(w.alloc o).heap.size, 0, none⟩) :
    DBlk w1 tb fv ft (.slice a k c) (.map (some mb)) ∧ Hid (DfsAt (w1.setCell ⟨tb, 2, none⟩ (.slice b1 (k + 1) c1)) ids A B tb mb pb fv ft tp te rep O (x :: S) P (.slice b1 (k + 1) c1) pa ∧
      Moves (dfoot tb mb pb (.slice a k c) pa) w (dfoot tb mb pb (.slice b1 (k + 1) c1) pa) (w1.setCell ⟨tb, 2, none⟩ (.slice b1 (k + 1) c1))) := by
  subst hk
  have l := h.lts
  have hz : (w.alloc o).heap.size = w.heap.size + 1 := by simp
  have hkk : ∀ j, j < w.heap.size → (Value.slice a S.length c).ownBlock ≠ some j → w1.heap[j]? = w.heap[j]? := fun j hj hn => by
    rw [hg.block j (by omega) (fun e => hn e.symm), Below.heap_alloc _ _ _ hj]
  have hsz : w.heap.size ≤ w1.heap.size := by have := hg.size; omega
  have hnew : ∀ j, (Value.slice b1 (S.length + 1) c1).ownBlock = some j → (Value.slice a S.length c).ownBlock = some j ∨ w.heap.size ≤ j := by
    intro j hj
    rcases hat with rfl | rfl
    · left; cases b1 <;> exact hj
    · right
      simp only [Value.ownBlock] at hj
      injection hj with hj
      omega
  obtain ⟨q1, q2⟩ := h.setS hkk hsz (T := x :: S) (by
    rw [List.reverse_cons]
    unfold nodes at ho ⊢
    rw [List.map_append]
    exact ho) (fun j hj => by
      rcases hnew j hj with e | e
      · exact h.ap j e
      · exact fun e' => by have := (h.prow.lt j e').2; omega)
  refine ⟨q1, q2, hg.os, hg.tape, hg.output, by simp [World.setCell]; omega, fun j hj hn => ?_, fun j hj => ?_⟩
  · have hjt : j ≠ tb := fun e => hn (mem_dfoot.2 (.inl e))
    rw [Below.heap_setCell _ _ _ _ hjt]
    exact hkk j hj (fun e => hn (mem_dfoot.2 (by simp [e])))
  · rcases mem_dfoot.1 hj with e | e | e | e | e
    · exact .inl (mem_dfoot.2 (by simp [e]))
    · exact .inl (mem_dfoot.2 (by simp [e]))
    · exact .inl (mem_dfoot.2 (by simp [e]))
    · rcases hnew j e with e' | e'
      · exact .inl (mem_dfoot.2 (by simp [e']))
      · exact .inr e'
    · exact .inl (mem_dfoot.2 (by simp [e]))

/-- The top of the stack taken off. -/
theorem DfsAt.pop {g k c : Nat} {y : Int} {T : List Int} (h : DfsAt w ids A B tb mb pb fv ft tp te rep O S P (.slice (some ⟨g, 0, none⟩) k c) pa) (hs : S = y :: T) (hk : k = S.length) :
    w.cell? ⟨g, k - 1, none⟩ = some (.iface 253 (.int .i64 y)) ∧ k ≤ c ∧ DfsAt (w.setCell ⟨tb, 2, none⟩ (.slice (some ⟨g, 0, none⟩) (k - 1) c)) ids A B tb mb pb fv ft tp te rep O T P (.slice (some ⟨g, 0, none⟩) (k - 1) c) pa ∧
      Moves (dfoot tb mb pb (.slice (some ⟨g, 0, none⟩) k c) pa) w (dfoot tb mb pb (.slice (some ⟨g, 0, none⟩) (k - 1) c) pa) (w.setCell ⟨tb, 2, none⟩ (.slice (some ⟨g, 0, none⟩) (k - 1) c)) := by
  subst hk
  have hos := h.stk
  have hl : S.length = T.length + 1 := by rw [hs]; simp
  have hrev : nodes S.reverse = nodes T.reverse ++ [.iface 253 (.int .i64 y)] := by
    rw [hs, List.reverse_cons]; unfold nodes; rw [List.map_append]; rfl
  have hcap : S.length ≤ c := by
    obtain ⟨_, _, _, _, h4⟩ := owns_at hos (by omega)
    exact h4
  have hcut := owns_cut hos (i := S.length - 1) (by omega)
  rw [hrev, Nat.mul_one, List.take_left' (by rw [nodes_length, List.length_reverse]; omega)] at hcut
  refine ⟨owns_cell hos ?_, hcap, (h.setS (w1 := w) (sa' := .slice (some ⟨g, 0, none⟩) (S.length - 1) c) (T := T) (fun _ _ _ => rfl) (Nat.le_refl _) ?_ (fun j hj => h.ap j hj)).2, (Moves.of_setCell w _ (mem_dfoot.2 (.inl rfl))).sub fun k hk => .inl ?_⟩
  · rw [hrev, List.getElem?_append_right (by rw [nodes_length, List.length_reverse]; omega), nodes_length, List.length_reverse]
    have : S.length - 1 - T.length = 0 := by omega
    rw [this]; rfl
  · rw [show T.length = S.length - 1 by omega]; exact hcut
  · exact mem_dfoot.2 (mem_dfoot.1 hk)

/-- A visit noted: behind the append, and the store of its result. -/
theorem DfsAt.note {a : Option Addr} {k c : Nat} (h : DfsAt w ids A B tb mb pb fv ft tp te rep O S P sa (.slice a k c)) (x : Int) {o : Obj} {w1 : World} {b1 : Option Addr} {c1 : Nat} (hk : k = P.length) (hg : (w.alloc o).grownBy w1 (Value.slice a k c).ownBlock)
    (ho : w1.ownsRow B te 1 (.slice b1 (k + 1) c1) (k + 1) (P.map rep ++ [rep x])) (hat : ∀ j, (Value.slice b1 (k + 1) c1).ownBlock = some j → (Value.slice a k c).ownBlock = some j ∨ w.heap.size ≤ j) :
    VBlk w1 pb tp (.slice a k c) ∧ Hid (DfsAt (w1.setCell ⟨pb, 0, none⟩ (.slice b1 (k + 1) c1)) ids A B tb mb pb fv ft tp te rep O S (P ++ [x]) sa (.slice b1 (k + 1) c1) ∧
      Moves (dfoot tb mb pb sa (.slice a k c)) w (dfoot tb mb pb sa (.slice b1 (k + 1) c1)) (w1.setCell ⟨pb, 0, none⟩ (.slice b1 (k + 1) c1))) := by
  subst hk
  have l := h.lts
  have n := h.ne
  have hp := h.prow.lt
  have hz : (w.alloc o).heap.size = w.heap.size + 1 := by simp
  have hkk : ∀ j, j < w.heap.size → (Value.slice a P.length c).ownBlock ≠ some j → w1.heap[j]? = w.heap[j]? := fun j hj hn => by
    rw [hg.block j (by omega) (fun e => hn e.symm), Below.heap_alloc _ _ _ hj]
  have hsz : w.heap.size ≤ w1.heap.size := by have := hg.size; omega
  have hlow : ∀ j, j < B → (Value.slice a P.length c).ownBlock ≠ some j := fun j hj e => by have := (hp j e).1; omega
  have b1' : VBlk w1 pb tp (.slice a P.length c) := (hkk pb (by omega) (hlow pb (by omega))).trans h.pblk
  have hh : ∀ j, j ≠ pb → (w1.setCell ⟨pb, 0, none⟩ (.slice b1 (P.length + 1) c1)).heap[j]? = w1.heap[j]? := fun j hj => Below.heap_setCell _ _ _ _ hj
  refine ⟨b1', ⟨?_, ?_, ?_, b1'.set _, ?_, ⟨l.1, l.2.1, l.2.2.1, by simp [World.setCell]; omega⟩, h.low, h.ne, fun j hj e => ?_⟩, hg.os, hg.tape, hg.output, by simp [World.setCell]; omega, fun j hj hn => ?_, fun j hj => ?_⟩
  · exact (hh tb (by omega)).trans ((hkk tb (by omega) (hlow tb (by omega))).trans h.blk)
  · exact owns_same h.stk fun j hj => by have := h.stk.lt j hj; exact (hh j (by omega)).trans (hkk j this.2 (h.ap j hj))
  · exact h.set.same ((hh mb (by omega)).trans (hkk mb (by omega) (hlow mb (by omega))))
  · have e1 : (P ++ [x]).length = P.length + 1 := by simp
    have e2 : (P ++ [x]).map rep = P.map rep ++ [rep x] := by simp
    rw [e1, e2]
    exact owns_same ho fun j hj => by have := ho.lt j hj; exact hh j (by omega)
  · rcases hat j e with e' | e'
    · exact h.ap j hj e'
    · have := (h.stk.lt j hj).2; omega
  · have hjt : j ≠ pb := fun e => hn (mem_dfoot.2 (.inr (.inr (.inl e))))
    rw [hh j hjt]
    exact hkk j hj (fun e => hn (mem_dfoot.2 (by simp [e])))
  · rcases mem_dfoot.1 hj with e | e | e | e | e
    · exact .inl (mem_dfoot.2 (by simp [e]))
    · exact .inl (mem_dfoot.2 (by simp [e]))
    · exact .inl (mem_dfoot.2 (by simp [e]))
    · exact .inl (mem_dfoot.2 (by simp [e]))
    · rcases hat j e with e' | e'
      · exact .inl (mem_dfoot.2 (by simp [e']))
      · exact .inr e'
end

/-- A plain graph in the blocks from lo to hi. -/
def FarIn (lo hi : Nat) (w : World) (gb : Nat) (ids : List Int) (outs ins : List (List Arc)) : Prop :=
  hi ≤ w.heap.size ∧ ∀ W : World, hi ≤ W.heap.size → (∀ j, lo ≤ j → j < hi → W.heap[j]? = w.heap[j]?) → PlainAt W gb ids outs ins
section
variable {lo hi : Nat} {w w' : World} {gb : Nat} {ids : List Int} {outs ins : List (List Arc)}
theorem FarAt.within (h : FarAt lo w gb ids outs ins) : FarIn lo w.heap.size w gb ids outs ins := ⟨Nat.le_refl _, h⟩
theorem FarIn.plain (h : FarIn lo hi w gb ids outs ins) : PlainAt w gb ids outs ins := h.2 w h.1 fun _ _ _ => rfl
theorem FarIn.keep (h : FarIn lo hi w gb ids outs ins) (hs : w.heap.size ≤ w'.heap.size) (hk : ∀ j, lo ≤ j → j < hi → w'.heap[j]? = w.heap[j]?) : FarIn lo hi w' gb ids outs ins :=
  ⟨Nat.le_trans h.1 hs, fun W h1 h2 => h.2 W h1 fun j hj hl => (h2 j hj hl).trans (hk j hj hl)⟩
theorem FarIn.below (h : FarIn lo hi w gb ids outs ins) (hb : Below w.heap.size w w') : FarIn lo hi w' gb ids outs ins := h.keep hb.size fun j _ hj => hb.block j (Nat.lt_of_lt_of_le hj h.1)
theorem FarIn.moves (h : FarIn lo hi w gb ids outs ins) {S S' : List Nat} (m : Moves S w S' w') (hS : ∀ k ∈ S, k < lo ∨ hi ≤ k) : FarIn lo hi w' gb ids outs ins :=
  h.keep m.size fun j h1 h2 => m.block j (Nat.lt_of_lt_of_le h2 h.1) fun hj => by have := hS j hj; omega
end
end Go.Proofs.YtanbhibllilccaaGreat
