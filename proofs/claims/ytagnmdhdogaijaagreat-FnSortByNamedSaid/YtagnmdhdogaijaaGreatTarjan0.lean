/- Tarjan's state in memory: what each step leaves of it. -/
import Derived.Test.YtagnmdhdogaijaaGreatISet
import Derived.Test.YtagnmdhdogaijaaGreatNodes
namespace Go.Proofs.YtagnmdhdogaijaaGreat
open Go.RowKit

/-- The state as memory holds it: the set beside the stack. -/
structure TM where
  n : Nat
  idx : Int → Nat
  low : Int → Nat
  stk : List Int
  on : List Int
  sccs : List (List Int)

def TS.tm (st : TS) : TM := ⟨st.n, st.idx, st.low, st.stack, st.stack, st.sccs⟩

/-- The block of the struct. -/
def TarBlk (w : World) (tb : Nat) (fn : Value) (n : Nat) (m1 m2 m3 : Nat) (sa sv : Value) : Prop :=
  w.heap[tb]? = some (.cells #[fn, .int .i64 n, .map (some m1), .map (some m2), .map (some m3), sa, sv] 122 (0, 0))

section
variable {w : World} {tb n m1 m2 m3 : Nat} {fn sa sv : Value} (h : TarBlk w tb fn n m1 m2 m3 sa sv)
include h
theorem TarBlk.c0 : w.cell? ⟨tb, 0, none⟩ = some fn := by unfold TarBlk at h; simp [World.cell?, h]
theorem TarBlk.c1 : w.cell? ⟨tb, 1, none⟩ = some (.int .i64 n) := by unfold TarBlk at h; simp [World.cell?, h]
theorem TarBlk.c2 : w.cell? ⟨tb, 2, none⟩ = some (.map (some m1)) := by unfold TarBlk at h; simp [World.cell?, h]
theorem TarBlk.c3 : w.cell? ⟨tb, 3, none⟩ = some (.map (some m2)) := by unfold TarBlk at h; simp [World.cell?, h]
theorem TarBlk.c4 : w.cell? ⟨tb, 4, none⟩ = some (.map (some m3)) := by unfold TarBlk at h; simp [World.cell?, h]
theorem TarBlk.c5 : w.cell? ⟨tb, 5, none⟩ = some sa := by unfold TarBlk at h; simp [World.cell?, h]
theorem TarBlk.c6 : w.cell? ⟨tb, 6, none⟩ = some sv := by unfold TarBlk at h; simp [World.cell?, h]
theorem TarBlk.free (j : Nat) : w.frozen? ⟨tb, j, none⟩ = false := by unfold TarBlk at h; simp [World.frozen?, h]
theorem TarBlk.lt : tb < w.heap.size := lt_of_block h
theorem TarBlk.set1 (k : Nat) : TarBlk (w.setCell ⟨tb, 1, none⟩ (.int .i64 k)) tb fn k m1 m2 m3 sa sv := (heap_set_self h 1 _).trans rfl
theorem TarBlk.set5 (u : Value) : TarBlk (w.setCell ⟨tb, 5, none⟩ u) tb fn n m1 m2 m3 u sv := (heap_set_self h 5 _).trans rfl
theorem TarBlk.set6 (u : Value) : TarBlk (w.setCell ⟨tb, 6, none⟩ u) tb fn n m1 m2 m3 sa u := (heap_set_self h 6 _).trans rfl
end

theorem info_nrow : (Tryz.prog.info? 58).map (fun i => (i.zero, i.size, i.bytes)) = some (some (.slice none 0 0), 1, 24) := by kernel_rfl
theorem one_row (a : Option Addr) (n c : Nat) : ∀ u ∈ [Value.slice a n c], u.oneCell' = true := by
  intro u hu
  rw [List.mem_singleton] at hu
  subst hu; rfl

/-- Lists of nodes, each in a row of its own. -/
def NRows (w : World) (B : Nat) (vs : List Value) (l : List (List Int)) : Prop :=
  vs.length = l.length ∧ ∀ (k : Nat) (v : Value) (c : List Int), vs[k]? = some v → l[k]? = some c → w.ownsRow B 81 1 v c.length (nodes c)

def blks (vs : List Value) : List Nat := vs.filterMap Value.ownBlock
theorem blks_mem {vs : List Value} {k : Nat} {v : Value} {j : Nat} (h : vs[k]? = some v) (hj : v.ownBlock = some j) : j ∈ blks vs := List.mem_filterMap.2 ⟨v, List.mem_of_getElem? h, hj⟩

theorem NRows.lt {w : World} {B : Nat} {vs : List Value} {l : List (List Int)} (h : NRows w B vs l) : ∀ j ∈ blks vs, B ≤ j ∧ j < w.heap.size := by
  intro j hj
  obtain ⟨v, hv, hvj⟩ := List.mem_filterMap.1 hj
  obtain ⟨k, hk, rfl⟩ := List.mem_iff_getElem.1 hv
  have hl : k < l.length := by rw [← h.1]; exact hk
  exact (h.2 k _ _ (List.getElem?_eq_getElem hk) (List.getElem?_eq_getElem hl)).lt j hvj

theorem NRows.same {w w' : World} {B : Nat} {vs : List Value} {l : List (List Int)} (h : NRows w B vs l) (hs : ∀ j ∈ blks vs, w'.heap[j]? = w.heap[j]?) : NRows w' B vs l :=
  ⟨h.1, fun k v c hv hc => owns_same (h.2 k v c hv hc) fun j hj => hs j (blks_mem hv hj)⟩

theorem NRows.more {w : World} {B : Nat} {vs : List Value} {l : List (List Int)} {v : Value} {c : List Int} (h : NRows w B vs l) (hv : w.ownsRow B 81 1 v c.length (nodes c)) : NRows w B (vs ++ [v]) (l ++ [c]) := by
  refine ⟨by simp [h.1], fun k v' c' hv' hc' => ?_⟩
  rcases Nat.lt_or_ge k vs.length with hk | hk
  · rw [List.getElem?_append_left hk] at hv'
    rw [List.getElem?_append_left (by rw [← h.1]; exact hk)] at hc'
    exact h.2 k v' c' hv' hc'
  · rw [List.getElem?_append_right hk] at hv'
    rw [List.getElem?_append_right (by rw [← h.1]; exact hk), ← h.1] at hc'
    rcases hj : k - vs.length with _ | m
    · rw [hj] at hv' hc'
      simp at hv' hc'
      subst hv'; subst hc'
      exact hv
    · rw [hj] at hv'; simp at hv'

/-- The blocks that a call turns. -/
def foot (tb m1 m2 m3 : Nat) (sa sv : Value) : List Nat := [tb, m1, m2, m3] ++ sa.ownBlock.toList ++ sv.ownBlock.toList

structure TarAt (w : World) (ids : List Int) (A B tb m1 m2 m3 : Nat) (fn : Value) (t : TM) (sa sv : Value) (vs : List Value) : Prop where
  blk : TarBlk w tb fn t.n m1 m2 m3 sa sv
  i1 : IMapAt w ids m1 t.idx
  i2 : IMapAt w ids m2 t.low
  i3 : ISetAt w ids m3 t.on
  os : w.ownsRow B 81 1 sa t.stk.length (nodes t.stk.reverse)
  ov : w.ownsRow B 58 1 sv t.sccs.length vs
  rows : NRows w B vs t.sccs
  lts : tb < B ∧ m1 < B ∧ m2 < B ∧ m3 < B ∧ B ≤ w.heap.size
  low : A ≤ tb ∧ A ≤ m1 ∧ A ≤ m2 ∧ A ≤ m3 ∧ A ≤ B
  ne : tb ≠ m1 ∧ tb ≠ m2 ∧ tb ≠ m3 ∧ m1 ≠ m2 ∧ m1 ≠ m3 ∧ m2 ≠ m3
  av : ∀ j, sa.ownBlock = some j → sv.ownBlock ≠ some j
  rs : ∀ j ∈ blks vs, sa.ownBlock ≠ some j ∧ sv.ownBlock ≠ some j
  nd : (blks vs).Nodup

section
variable {w w' : World} {ids : List Int} {A B tb m1 m2 m3 : Nat} {fn : Value} {t : TM} {sa sv : Value} {vs : List Value}

theorem mem_foot {j : Nat} : j ∈ foot tb m1 m2 m3 sa sv ↔ j = tb ∨ j = m1 ∨ j = m2 ∨ j = m3 ∨ sa.ownBlock = some j ∨ sv.ownBlock = some j := by
  unfold foot
  simp only [List.mem_append, List.mem_cons, List.not_mem_nil, or_false, Option.mem_toList]
  constructor
  · rintro ((((h | h | h | h)) | h) | h) <;> simp [h]
  · rintro (h | h | h | h | h | h) <;> simp [h]

theorem TarAt.footlow (h : TarAt w ids A B tb m1 m2 m3 fn t sa sv vs) : ∀ k ∈ foot tb m1 m2 m3 sa sv, A ≤ k := by
  intro k hk
  have l := h.low
  rcases mem_foot.1 hk with e | e | e | e | e | e
  · omega
  · omega
  · omega
  · omega
  · have := (h.os.lt k e).1; omega
  · have := (h.ov.lt k e).1; omega

theorem TarAt.footlt (h : TarAt w ids A B tb m1 m2 m3 fn t sa sv vs) : ∀ k ∈ foot tb m1 m2 m3 sa sv, k < w.heap.size := by
  intro k hk
  have l := h.lts
  rcases mem_foot.1 hk with e | e | e | e | e | e
  · omega
  · omega
  · omega
  · omega
  · exact (h.os.lt k e).2
  · exact (h.ov.lt k e).2

/-- Where its blocks stay it stays. -/
theorem TarAt.same (h : TarAt w ids A B tb m1 m2 m3 fn t sa sv vs) (hf : ∀ j ∈ foot tb m1 m2 m3 sa sv ++ blks vs, w'.heap[j]? = w.heap[j]?) (hs : w.heap.size ≤ w'.heap.size) : TarAt w' ids A B tb m1 m2 m3 fn t sa sv vs := by
  have hh : ∀ j, j ∈ foot tb m1 m2 m3 sa sv → w'.heap[j]? = w.heap[j]? := fun j hj => hf j (List.mem_append.2 (.inl hj))
  have l := h.lts
  exact ⟨(hh tb (mem_foot.2 (.inl rfl))).trans h.blk, h.i1.same (hh m1 (mem_foot.2 (by simp))), h.i2.same (hh m2 (mem_foot.2 (by simp))), h.i3.same (hh m3 (mem_foot.2 (by simp))),
    owns_same h.os (fun j hj => hh j (mem_foot.2 (by simp [hj]))), owns_same h.ov (fun j hj => hh j (mem_foot.2 (by simp [hj]))), h.rows.same (fun j hj => hf j (List.mem_append.2 (.inr hj))),
    ⟨l.1, l.2.1, l.2.2.1, l.2.2.2.1, Nat.le_trans l.2.2.2.2 hs⟩, h.low, h.ne, h.av, h.rs, h.nd⟩

theorem TarAt.below (h : TarAt w ids A B tb m1 m2 m3 fn t sa sv vs) (hb : Below w.heap.size w w') : TarAt w' ids A B tb m1 m2 m3 fn t sa sv vs :=
  h.same (fun j hj => hb.block j (by
    rcases List.mem_append.1 hj with e | e
    · exact h.footlt j e
    · exact (h.rows.lt j e).2)) hb.size

/-- A block outside of it is turned. -/
theorem TarAt.grown (h : TarAt w ids A B tb m1 m2 m3 fn t sa sv vs) {r : Option Nat} (hg : w.grownBy w' r) (hr : ∀ j, r = some j → j ∉ foot tb m1 m2 m3 sa sv ++ blks vs) : TarAt w' ids A B tb m1 m2 m3 fn t sa sv vs :=
  h.same (fun j hj => hg.block j (by
    rcases List.mem_append.1 hj with e | e
    · exact h.footlt j e
    · exact (h.rows.lt j e).2) (fun e => hr j e.symm hj)) hg.size

/-- The numbers' map written. -/
theorem TarAt.put1 (h : TarAt w ids A B tb m1 m2 m3 fn t sa sv vs) {f : Int → Nat} (hg : w.grownBy w' (some m1)) (hi : IMapAt w' ids m1 f) : TarAt w' ids A B tb m1 m2 m3 fn { t with idx := f } sa sv vs := by
  have l := h.lts
  have n := h.ne
  have hh : ∀ j, j < w.heap.size → j ≠ m1 → w'.heap[j]? = w.heap[j]? := fun j hj hn => hg.block j hj (fun e => by injection e with e; exact hn e)
  exact ⟨(hh tb (by omega) (by omega)).trans h.blk, hi, h.i2.same (hh m2 (by omega) (by omega)), h.i3.same (hh m3 (by omega) (by omega)),
    owns_same h.os (fun j hj => by have := h.os.lt j hj; exact hh j (by omega) (by omega)), owns_same h.ov (fun j hj => by have := h.ov.lt j hj; exact hh j (by omega) (by omega)), h.rows.same (fun j hj => by have := h.rows.lt j hj; exact hh j (by omega) (by omega)),
    ⟨l.1, l.2.1, l.2.2.1, l.2.2.2.1, Nat.le_trans l.2.2.2.2 hg.size⟩, h.low, h.ne, h.av, h.rs, h.nd⟩

/-- The low links' map written. -/
theorem TarAt.put2 (h : TarAt w ids A B tb m1 m2 m3 fn t sa sv vs) {f : Int → Nat} (hg : w.grownBy w' (some m2)) (hi : IMapAt w' ids m2 f) : TarAt w' ids A B tb m1 m2 m3 fn { t with low := f } sa sv vs := by
  have l := h.lts
  have n := h.ne
  have hh : ∀ j, j < w.heap.size → j ≠ m2 → w'.heap[j]? = w.heap[j]? := fun j hj hn => hg.block j hj (fun e => by injection e with e; exact hn e)
  exact ⟨(hh tb (by omega) (by omega)).trans h.blk, h.i1.same (hh m1 (by omega) (by omega)), hi, h.i3.same (hh m3 (by omega) (by omega)),
    owns_same h.os (fun j hj => by have := h.os.lt j hj; exact hh j (by omega) (by omega)), owns_same h.ov (fun j hj => by have := h.ov.lt j hj; exact hh j (by omega) (by omega)), h.rows.same (fun j hj => by have := h.rows.lt j hj; exact hh j (by omega) (by omega)),
    ⟨l.1, l.2.1, l.2.2.1, l.2.2.2.1, Nat.le_trans l.2.2.2.2 hg.size⟩, h.low, h.ne, h.av, h.rs, h.nd⟩

/-- The set written. -/
theorem TarAt.put3 (h : TarAt w ids A B tb m1 m2 m3 fn t sa sv vs) {s : List Int} (hg : w.grownBy w' (some m3)) (hi : ISetAt w' ids m3 s) : TarAt w' ids A B tb m1 m2 m3 fn { t with on := s } sa sv vs := by
  have l := h.lts
  have n := h.ne
  have hh : ∀ j, j < w.heap.size → j ≠ m3 → w'.heap[j]? = w.heap[j]? := fun j hj hn => hg.block j hj (fun e => by injection e with e; exact hn e)
  exact ⟨(hh tb (by omega) (by omega)).trans h.blk, h.i1.same (hh m1 (by omega) (by omega)), h.i2.same (hh m2 (by omega) (by omega)), hi,
    owns_same h.os (fun j hj => by have := h.os.lt j hj; exact hh j (by omega) (by omega)), owns_same h.ov (fun j hj => by have := h.ov.lt j hj; exact hh j (by omega) (by omega)), h.rows.same (fun j hj => by have := h.rows.lt j hj; exact hh j (by omega) (by omega)),
    ⟨l.1, l.2.1, l.2.2.1, l.2.2.2.1, Nat.le_trans l.2.2.2.2 hg.size⟩, h.low, h.ne, h.av, h.rs, h.nd⟩

/-- The counter written. -/
theorem TarAt.setN (h : TarAt w ids A B tb m1 m2 m3 fn t sa sv vs) (k : Nat) : TarAt (w.setCell ⟨tb, 1, none⟩ (.int .i64 k)) ids A B tb m1 m2 m3 fn { t with n := k } sa sv vs := by
  have l := h.lts
  have n := h.ne
  have hh : ∀ j, j ≠ tb → (w.setCell ⟨tb, 1, none⟩ (.int .i64 k)).heap[j]? = w.heap[j]? := fun j hj => Below.heap_setCell _ _ _ _ hj
  exact ⟨h.blk.set1 k, h.i1.same (hh m1 (by omega)), h.i2.same (hh m2 (by omega)), h.i3.same (hh m3 (by omega)),
    owns_same h.os (fun j hj => by have := h.os.lt j hj; exact hh j (by omega)), owns_same h.ov (fun j hj => by have := h.ov.lt j hj; exact hh j (by omega)), h.rows.same (fun j hj => by have := h.rows.lt j hj; exact hh j (by omega)),
    ⟨l.1, l.2.1, l.2.2.1, l.2.2.2.1, by simp [World.setCell]; exact l.2.2.2.2⟩, h.low, h.ne, h.av, h.rs, h.nd⟩

/-- Another stack, in the row where it lay or in a new one. -/
theorem TarAt.setS (h : TarAt w ids A B tb m1 m2 m3 fn t sa sv vs) {sa' : Value} {stk : List Int} (ho : w.ownsRow B 81 1 sa' stk.length (nodes stk.reverse))
    (hv : ∀ j, sa'.ownBlock = some j → sv.ownBlock ≠ some j ∧ j ∉ blks vs) : TarAt (w.setCell ⟨tb, 5, none⟩ sa') ids A B tb m1 m2 m3 fn { t with stk := stk } sa' sv vs := by
  have l := h.lts
  have n := h.ne
  have hh : ∀ j, j ≠ tb → (w.setCell ⟨tb, 5, none⟩ sa').heap[j]? = w.heap[j]? := fun j hj => Below.heap_setCell _ _ _ _ hj
  exact ⟨h.blk.set5 _, h.i1.same (hh m1 (by omega)), h.i2.same (hh m2 (by omega)), h.i3.same (hh m3 (by omega)),
    owns_same ho (fun j hj => by have := ho.lt j hj; exact hh j (by omega)), owns_same h.ov (fun j hj => by have := h.ov.lt j hj; exact hh j (by omega)), h.rows.same (fun j hj => by have := h.rows.lt j hj; exact hh j (by omega)),
    ⟨l.1, l.2.1, l.2.2.1, l.2.2.2.1, by simp [World.setCell]; exact l.2.2.2.2⟩, h.low, h.ne, fun j hj => (hv j hj).1, fun j hj => ⟨fun e => (hv j e).2 hj, (h.rs j hj).2⟩, h.nd⟩

/-- Another list of lists, with one row more. -/
theorem TarAt.setV (h : TarAt w ids A B tb m1 m2 m3 fn t sa sv vs) {sv' v : Value} {c : List Int} (ho : w.ownsRow B 58 1 sv' (t.sccs ++ [c]).length (vs ++ [v])) (hv : w.ownsRow B 81 1 v c.length (nodes c))
    (h1 : ∀ j, sv'.ownBlock = some j → sa.ownBlock ≠ some j ∧ j ∉ blks vs ∧ v.ownBlock ≠ some j) (h2 : ∀ j, v.ownBlock = some j → sa.ownBlock ≠ some j ∧ j ∉ blks vs) :
    TarAt (w.setCell ⟨tb, 6, none⟩ sv') ids A B tb m1 m2 m3 fn { t with sccs := t.sccs ++ [c] } sa sv' (vs ++ [v]) := by
  have l := h.lts
  have n := h.ne
  have hh : ∀ j, j ≠ tb → (w.setCell ⟨tb, 6, none⟩ sv').heap[j]? = w.heap[j]? := fun j hj => Below.heap_setCell _ _ _ _ hj
  have hbl : blks (vs ++ [v]) = blks vs ++ v.ownBlock.toList := by
    unfold blks
    rw [List.filterMap_append]
    congr 1
  have hr := h.rows.more hv
  refine ⟨h.blk.set6 _, h.i1.same (hh m1 (by omega)), h.i2.same (hh m2 (by omega)), h.i3.same (hh m3 (by omega)),
    owns_same h.os (fun j hj => by have := h.os.lt j hj; exact hh j (by omega)), owns_same ho (fun j hj => by have := ho.lt j hj; exact hh j (by omega)), hr.same (fun j hj => by have := hr.lt j hj; exact hh j (by omega)),
    ⟨l.1, l.2.1, l.2.2.1, l.2.2.2.1, by simp [World.setCell]; exact l.2.2.2.2⟩, h.low, h.ne, fun j hj e => (h1 j e).1 hj, fun j hj => ?_, ?_⟩
  · rw [hbl] at hj
    rcases List.mem_append.1 hj with e | e
    · exact ⟨(h.rs j e).1, fun e' => (h1 j e').2.1 e⟩
    · rw [Option.mem_toList] at e
      exact ⟨fun e' => (h2 j e).1 e', fun e' => (h1 j e').2.2 e⟩
  · rw [hbl, List.nodup_append]
    refine ⟨h.nd, by cases v.ownBlock <;> simp, fun a ha b hb e => ?_⟩
    rw [Option.mem_toList] at hb
    subst e
    exact (h2 a hb).2 ha
/-- Another stack behind an append: its row may have been written, or be new. -/
theorem TarAt.setS' (h : TarAt w ids A B tb m1 m2 m3 fn t sa sv vs) {w1 : World} {sa' : Value} {stk : List Int} (hk : ∀ j, j < w.heap.size → sa.ownBlock ≠ some j → w1.heap[j]? = w.heap[j]?) (hz : w.heap.size ≤ w1.heap.size)
    (ho : w1.ownsRow B 81 1 sa' stk.length (nodes stk.reverse)) (hv : ∀ j, sa'.ownBlock = some j → sv.ownBlock ≠ some j ∧ j ∉ blks vs) : TarAt (w1.setCell ⟨tb, 5, none⟩ sa') ids A B tb m1 m2 m3 fn { t with stk := stk } sa' sv vs := by
  have l := h.lts
  have n := h.ne
  have hos := h.os.lt
  have hov := h.ov.lt
  have hlow : ∀ j, j < B → sa.ownBlock ≠ some j := fun j hj e => by have := (hos j e).1; omega
  have b1 : TarBlk w1 tb fn t.n m1 m2 m3 sa sv := (hk tb (by omega) (hlow tb (by omega))).trans h.blk
  have hh : ∀ j, j ≠ tb → (w1.setCell ⟨tb, 5, none⟩ sa').heap[j]? = w1.heap[j]? := fun j hj => Below.heap_setCell _ _ _ _ hj
  refine ⟨b1.set5 _, h.i1.same ((hh m1 (by omega)).trans (hk m1 (by omega) (hlow m1 (by omega)))), h.i2.same ((hh m2 (by omega)).trans (hk m2 (by omega) (hlow m2 (by omega)))), h.i3.same ((hh m3 (by omega)).trans (hk m3 (by omega) (hlow m3 (by omega)))),
    owns_same ho (fun j hj => by have := ho.lt j hj; exact hh j (by omega)), owns_same h.ov (fun j hj => by have := hov j hj; exact (hh j (by omega)).trans (hk j (by omega) (fun e => h.av j e hj))),
    h.rows.same (fun j hj => by have := h.rows.lt j hj; exact (hh j (by omega)).trans (hk j (by omega) (h.rs j hj).1)),
    ⟨l.1, l.2.1, l.2.2.1, l.2.2.2.1, by simp [World.setCell]; omega⟩, h.low, h.ne, fun j hj => (hv j hj).1, fun j hj => ⟨fun e => (hv j e).2 hj, (h.rs j hj).2⟩, h.nd⟩

/-- A node pushed: behind the append, and the store of its result. -/
theorem TarAt.push {a : Option Addr} {k c : Nat} (h : TarAt w ids A B tb m1 m2 m3 fn t (.slice a k c) sv vs) (x : Int) {o : Obj} {w1 : World} {b1 : Option Addr} {c1 : Nat} (hk : k = t.stk.length) (hg : (w.alloc o).grownBy w1 (Value.slice a k c).ownBlock)
    (ho : w1.ownsRow B 81 1 (.slice b1 (k + 1) c1) (k + 1) (nodes t.stk.reverse ++ [.iface 204 (.int .i64 x)])) (hat : b1 = a ∨ b1 = some ⟨(w.alloc o).heap.size, 0, none⟩) :
    TarBlk w1 tb fn t.n m1 m2 m3 (.slice a k c) sv ∧ Hid (TarAt (w1.setCell ⟨tb, 5, none⟩ (.slice b1 (k + 1) c1)) ids A B tb m1 m2 m3 fn { t with stk := x :: t.stk } (.slice b1 (k + 1) c1) sv vs ∧
      Moves (foot tb m1 m2 m3 (.slice a k c) sv) w (foot tb m1 m2 m3 (.slice b1 (k + 1) c1) sv) (w1.setCell ⟨tb, 5, none⟩ (.slice b1 (k + 1) c1))) := by
  subst hk
  have l := h.lts
  have hos := h.os.lt
  have hz : (w.alloc o).heap.size = w.heap.size + 1 := by simp
  have hkk : ∀ j, j < w.heap.size → (Value.slice a t.stk.length c).ownBlock ≠ some j → w1.heap[j]? = w.heap[j]? := fun j hj hn => by
    rw [hg.block j (by omega) (fun e => hn e.symm), Below.heap_alloc _ _ _ hj]
  have hsz : w.heap.size ≤ w1.heap.size := by have := hg.size; omega
  have hlow : ∀ j, j < B → (Value.slice a t.stk.length c).ownBlock ≠ some j := fun j hj e => by have := (hos j e).1; omega
  have b1' : TarBlk w1 tb fn t.n m1 m2 m3 (.slice a t.stk.length c) sv := (hkk tb (by omega) (hlow tb (by omega))).trans h.blk
  have hnew : ∀ j, (Value.slice b1 (t.stk.length + 1) c1).ownBlock = some j → (Value.slice a t.stk.length c).ownBlock = some j ∨ w.heap.size ≤ j := by
    intro j hj
    rcases hat with rfl | rfl
    · left; cases b1 <;> exact hj
    · right
      simp only [Value.ownBlock] at hj
      injection hj with hj
      omega
  refine ⟨b1', h.setS' hkk hsz (stk := x :: t.stk) (by
    rw [List.reverse_cons]
    unfold nodes at ho ⊢
    rw [List.map_append]
    exact ho) (fun j hj => ?_), ?_⟩
  · rcases hnew j hj with e | e
    · exact ⟨h.av j e, fun hm => (h.rs j hm).1 e⟩
    · exact ⟨fun e' => by have := (h.ov.lt j e').2; omega, fun hm => by have := (h.rows.lt j hm).2; omega⟩
  · refine ⟨hg.os, hg.tape, hg.output, by simp [World.setCell]; omega, fun j hj hn => ?_, fun j hj => ?_⟩
    · have hjt : j ≠ tb := fun e => hn (mem_foot.2 (.inl e))
      rw [Below.heap_setCell _ _ _ _ hjt]
      exact hkk j hj (fun e => hn (mem_foot.2 (by simp [e])))
    · rcases mem_foot.1 hj with e | e | e | e | e | e
      · exact .inl (mem_foot.2 (by simp [e]))
      · exact .inl (mem_foot.2 (by simp [e]))
      · exact .inl (mem_foot.2 (by simp [e]))
      · exact .inl (mem_foot.2 (by simp [e]))
      · rcases hnew j e with e' | e'
        · exact .inl (mem_foot.2 (by simp [e']))
        · exact .inr e'
      · exact .inl (mem_foot.2 (by simp [e]))
/-- The list of lists behind an append: its row may have been written, or be new. -/
theorem TarAt.setV' (h : TarAt w ids A B tb m1 m2 m3 fn t sa sv vs) {w1 : World} {sv' v : Value} {c : List Int} (hk : ∀ j, j < w.heap.size → sv.ownBlock ≠ some j → w1.heap[j]? = w.heap[j]?) (hz : w.heap.size ≤ w1.heap.size)
    (ho : w1.ownsRow B 58 1 sv' (t.sccs ++ [c]).length (vs ++ [v])) (hv : w1.ownsRow B 81 1 v c.length (nodes c))
    (h1 : ∀ j, sv'.ownBlock = some j → sa.ownBlock ≠ some j ∧ j ∉ blks vs ∧ v.ownBlock ≠ some j) (h2 : ∀ j, v.ownBlock = some j → sa.ownBlock ≠ some j ∧ j ∉ blks vs) :
    TarAt (w1.setCell ⟨tb, 6, none⟩ sv') ids A B tb m1 m2 m3 fn { t with sccs := t.sccs ++ [c] } sa sv' (vs ++ [v]) := by
  have l := h.lts
  have n := h.ne
  have hos := h.os.lt
  have hov := h.ov.lt
  have hlow : ∀ j, j < B → sv.ownBlock ≠ some j := fun j hj e => by have := (hov j e).1; omega
  have b1 : TarBlk w1 tb fn t.n m1 m2 m3 sa sv := (hk tb (by omega) (hlow tb (by omega))).trans h.blk
  have hh : ∀ j, j ≠ tb → (w1.setCell ⟨tb, 6, none⟩ sv').heap[j]? = w1.heap[j]? := fun j hj => Below.heap_setCell _ _ _ _ hj
  have hbl : blks (vs ++ [v]) = blks vs ++ v.ownBlock.toList := by
    unfold blks
    rw [List.filterMap_append]
    congr 1
  have hr0 : NRows w1 B vs t.sccs := h.rows.same (fun j hj => by have := h.rows.lt j hj; exact hk j (by omega) (h.rs j hj).2)
  have hr := hr0.more hv
  refine ⟨b1.set6 _, h.i1.same ((hh m1 (by omega)).trans (hk m1 (by omega) (hlow m1 (by omega)))), h.i2.same ((hh m2 (by omega)).trans (hk m2 (by omega) (hlow m2 (by omega)))), h.i3.same ((hh m3 (by omega)).trans (hk m3 (by omega) (hlow m3 (by omega)))),
    owns_same h.os (fun j hj => by have := hos j hj; exact (hh j (by omega)).trans (hk j (by omega) (h.av j hj))), owns_same ho (fun j hj => by have := ho.lt j hj; exact hh j (by omega)), hr.same (fun j hj => by have := hr.lt j hj; exact hh j (by omega)),
    ⟨l.1, l.2.1, l.2.2.1, l.2.2.2.1, by simp [World.setCell]; omega⟩, h.low, h.ne, fun j hj e => (h1 j e).1 hj, fun j hj => ?_, ?_⟩
  · rw [hbl] at hj
    rcases List.mem_append.1 hj with e | e
    · exact ⟨(h.rs j e).1, fun e' => (h1 j e').2.1 e⟩
    · rw [Option.mem_toList] at e
      exact ⟨fun e' => (h2 j e).1 e', fun e' => (h1 j e').2.2 e⟩
  · rw [hbl, List.nodup_append]
    refine ⟨h.nd, by cases v.ownBlock <;> simp, fun a ha b hb e => ?_⟩
    rw [Option.mem_toList] at hb
    subst e
    exact (h2 a hb).2 ha

/-- A list told: behind the append, and the store of its result. -/
theorem TarAt.emit {a : Option Addr} {k c : Nat} (h : TarAt w ids A B tb m1 m2 m3 fn t sa (.slice a k c) vs) {v : Value} {cl : List Int} {o : Obj} {w1 : World} {b1 : Option Addr} {c1 : Nat} (hk : k = t.sccs.length) (hv : w.ownsRow B 81 1 v cl.length (nodes cl))
    (hd : ∀ j, v.ownBlock = some j → j ∉ foot tb m1 m2 m3 sa (.slice a k c) ∧ j ∉ blks vs) (hg : (w.alloc o).grownBy w1 (Value.slice a k c).ownBlock)
    (ho : w1.ownsRow B 58 1 (.slice b1 (k + 1) c1) (k + 1) (vs ++ [v])) (hat : b1 = a ∨ b1 = some ⟨(w.alloc o).heap.size, 0, none⟩) :
    TarBlk w1 tb fn t.n m1 m2 m3 sa (.slice a k c) ∧ Hid (TarAt (w1.setCell ⟨tb, 6, none⟩ (.slice b1 (k + 1) c1)) ids A B tb m1 m2 m3 fn { t with sccs := t.sccs ++ [cl] } sa (.slice b1 (k + 1) c1) (vs ++ [v]) ∧
      Moves (foot tb m1 m2 m3 sa (.slice a k c)) w (foot tb m1 m2 m3 sa (.slice b1 (k + 1) c1)) (w1.setCell ⟨tb, 6, none⟩ (.slice b1 (k + 1) c1))) := by
  subst hk
  have l := h.lts
  have hov := h.ov.lt
  have hz : (w.alloc o).heap.size = w.heap.size + 1 := by simp
  have hkk : ∀ j, j < w.heap.size → (Value.slice a t.sccs.length c).ownBlock ≠ some j → w1.heap[j]? = w.heap[j]? := fun j hj hn => by
    rw [hg.block j (by omega) (fun e => hn e.symm), Below.heap_alloc _ _ _ hj]
  have hsz : w.heap.size ≤ w1.heap.size := by have := hg.size; omega
  have hlow : ∀ j, j < B → (Value.slice a t.sccs.length c).ownBlock ≠ some j := fun j hj e => by have := (hov j e).1; omega
  have b1' : TarBlk w1 tb fn t.n m1 m2 m3 sa (.slice a t.sccs.length c) := (hkk tb (by omega) (hlow tb (by omega))).trans h.blk
  have hnew : ∀ j, (Value.slice b1 (t.sccs.length + 1) c1).ownBlock = some j → (Value.slice a t.sccs.length c).ownBlock = some j ∨ w.heap.size ≤ j := by
    intro j hj
    rcases hat with rfl | rfl
    · left; cases b1 <;> exact hj
    · right
      simp only [Value.ownBlock] at hj
      injection hj with hj
      omega
  have hvf : ∀ j, v.ownBlock = some j → (Value.slice a t.sccs.length c).ownBlock ≠ some j ∧ sa.ownBlock ≠ some j := fun j hj => ⟨fun e => (hd j hj).1 (mem_foot.2 (by simp [e])), fun e => (hd j hj).1 (mem_foot.2 (by simp [e]))⟩
  refine ⟨b1', h.setV' hkk hsz (by simpa using ho) (owns_same hv fun j hj => hkk j (hv.lt j hj).2 (hvf j hj).1) (fun j hj => ?_) (fun j hj => ⟨(hvf j hj).2, (hd j hj).2⟩), ?_⟩
  · rcases hnew j hj with e | e
    · exact ⟨fun e' => h.av j e' e, fun hm => (h.rs j hm).2 e, fun e' => (hvf j e').1 e⟩
    · exact ⟨fun e' => by have := (h.os.lt j e').2; omega, fun hm => by have := (h.rows.lt j hm).2; omega, fun e' => by have := (hv.lt j e').2; omega⟩
  · refine ⟨hg.os, hg.tape, hg.output, by simp [World.setCell]; omega, fun j hj hn => ?_, fun j hj => ?_⟩
    · have hjt : j ≠ tb := fun e => hn (mem_foot.2 (.inl e))
      rw [Below.heap_setCell _ _ _ _ hjt]
      exact hkk j hj (fun e => hn (mem_foot.2 (by simp [e])))
    · rcases mem_foot.1 hj with e | e | e | e | e | e
      · exact .inl (mem_foot.2 (by simp [e]))
      · exact .inl (mem_foot.2 (by simp [e]))
      · exact .inl (mem_foot.2 (by simp [e]))
      · exact .inl (mem_foot.2 (by simp [e]))
      · exact .inl (mem_foot.2 (by simp [e]))
      · rcases hnew j e with e' | e'
        · exact .inl (mem_foot.2 (by simp [e']))
        · exact .inr e'

/-- The top of the stack taken off. -/
theorem TarAt.pop {g k c : Nat} {y : Int} {stk : List Int} (h : TarAt w ids A B tb m1 m2 m3 fn t (.slice (some ⟨g, 0, none⟩) k c) sv vs) (hs : t.stk = y :: stk) (hk : k = t.stk.length) :
    w.cell? ⟨g, k - 1, none⟩ = some (.iface 204 (.int .i64 y)) ∧ k ≤ c ∧ TarAt (w.setCell ⟨tb, 5, none⟩ (.slice (some ⟨g, 0, none⟩) (k - 1) c)) ids A B tb m1 m2 m3 fn { t with stk := stk } (.slice (some ⟨g, 0, none⟩) (k - 1) c) sv vs := by
  subst hk
  have hos := h.os
  have hl : t.stk.length = stk.length + 1 := by rw [hs]; simp
  have hrev : nodes t.stk.reverse = nodes stk.reverse ++ [.iface 204 (.int .i64 y)] := by
    rw [hs, List.reverse_cons]; unfold nodes; rw [List.map_append]; rfl
  have hcap : t.stk.length ≤ c := by
    obtain ⟨_, _, _, _, h4⟩ := owns_at hos (by omega)
    exact h4
  have hcut := owns_cut hos (i := t.stk.length - 1) (by omega)
  rw [hrev, Nat.mul_one, List.take_left' (by rw [nodes_length, List.length_reverse]; omega)] at hcut
  refine ⟨owns_cell hos ?_, hcap, h.setS (stk := stk) ?_ (fun j hj => ⟨h.av j hj, fun hm => (h.rs j hm).1 hj⟩)⟩
  · rw [hrev, List.getElem?_append_right (by rw [nodes_length, List.length_reverse]; omega), nodes_length, List.length_reverse]
    have : t.stk.length - 1 - stk.length = 0 := by omega
    rw [this]; rfl
  · rw [show stk.length = t.stk.length - 1 by omega]; exact hcut

theorem TarAt.on_ext (h : TarAt w ids A B tb m1 m2 m3 fn t sa sv vs) {s : List Int} (e : ∀ x, x ∈ t.on ↔ x ∈ s) : TarAt w ids A B tb m1 m2 m3 fn { t with on := s } sa sv vs :=
  ⟨h.blk, h.i1, h.i2, h.i3.ext e, h.os, h.ov, h.rows, h.lts, h.low, h.ne, h.av, h.rs, h.nd⟩
end
end Go.Proofs.YtagnmdhdogaijaaGreat
