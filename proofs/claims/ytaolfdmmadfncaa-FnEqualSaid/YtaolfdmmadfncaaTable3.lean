/- The table in memory once its rows are made: cells set, what is read of it. -/
import Derived.Test.YtaolfdmmadfncaaTable2
namespace Go.Proofs.Ytaolfdmmadfncaa
open Go.RowKit

/-- The table in memory. -/
structure Tab (w : World) (B sb n : Nat) (nv sa sw : Value) (gs hs : List Nat) (ta : List (List Bool)) (tw : List (List Int)) : Prop where
  blk : SBlock w sb nv sa sw
  sbB : sb < B
  hB : B ≤ w.heap.size
  oa : w.ownsRow B 37 1 sa n (rowVs n gs)
  ow : w.ownsRow B 22 1 sw n (rowVs n hs)
  ra : TRows w 4 Value.bool B n gs ta
  rw_ : TRows w 3 (Value.int .i64) B n hs tw
  ga : ∀ g ∈ gs ++ hs, sa.ownBlock ≠ some g
  gw : ∀ g ∈ gs ++ hs, sw.ownBlock ≠ some g
  aw : ∀ j, sa.ownBlock = some j → sw.ownBlock ≠ some j
  gh : ∀ g ∈ gs, g ∉ hs

theorem Making.tab {w : World} {B sb n : Nat} {nv sa sw : Value} {gs hs : List Nat} (M : Making w B sb n n n nv sa sw gs hs) : Tab w B sb n nv sa sw gs hs (List.replicate n (List.replicate n false)) (List.replicate n (List.replicate n 0)) :=
  ⟨M.blk, M.sbB, M.hB, M.oa, M.ow, M.ra, M.rw_, M.ga, M.gw, M.aw, M.gh⟩

theorem Making.drew {w : World} {B sb n ka kw : Nat} {nv sa sw : Value} {gs hs : List Nat} (M : Making w B sb n ka kw nv sa sw gs hs) : Making w.drew B sb n ka kw nv sa sw gs hs :=
  ⟨M.blk, M.sbB, M.hB, M.oa, M.ow, M.ra, M.rw_, M.ga, M.gw, M.aw, M.gh⟩

theorem Tab.drew {w : World} {B sb n : Nat} {nv sa sw : Value} {gs hs : List Nat} {ta : List (List Bool)} {tw : List (List Int)} (T : Tab w B sb n nv sa sw gs hs ta tw) : Tab w.drew B sb n nv sa sw gs hs ta tw :=
  ⟨T.blk, T.sbB, T.hB, T.oa, T.ow, T.ra, T.rw_, T.ga, T.gw, T.aw, T.gh⟩

theorem owns_far {w : World} {B e size n : Nat} {v : Value} {xs : List Value} (h : w.ownsRow B e size v n xs) {g : Nat} (hg : v.ownBlock ≠ some g) (k : Nat) (u : Value) : (w.setCell ⟨g, k, none⟩ u).ownsRow B e size v n xs :=
  owns_same h fun j hj => Below.heap_setCell _ _ _ _ (fun e' => hg (by rw [hj, e']))

theorem Tab.setA {w : World} {B sb n i k g : Nat} {nv sa sw : Value} {gs hs : List Nat} {ta : List (List Bool)} {tw : List (List Int)} (T : Tab w B sb n nv sa sw gs hs ta tw) (hg : gs[i]? = some g) :
    Tab (w.setCell ⟨g, k, none⟩ (.bool true)) B sb n nv sa sw gs hs (setB ta i k) tw := by
  have hm := List.mem_of_getElem? hg
  have hB := (T.ra.lt g hm).1
  have hsb := T.sbB
  have hset : ∀ j, j ≠ g → (w.setCell ⟨g, k, none⟩ (.bool true)).heap[j]? = w.heap[j]? := fun j hj => Below.heap_setCell _ _ _ _ hj
  refine ⟨(hset sb (by omega)).trans T.blk, hsb, by rw [size_setCell']; exact T.hB, owns_far T.oa (T.ga g (List.mem_append.2 (.inl hm))) _ _, owns_far T.ow (T.gw g (List.mem_append.2 (.inl hm))) _ _, T.ra.set hg true, ?_, T.ga, T.gw, T.aw, T.gh⟩
  exact T.rw_.same (by rw [size_setCell']; exact Nat.le_refl _) (fun g' hg' => hset g' (fun e => T.gh g hm (e ▸ hg')))

theorem Tab.setW {w : World} {B sb n i k g : Nat} {nv sa sw : Value} {gs hs : List Nat} {ta : List (List Bool)} {tw : List (List Int)} (T : Tab w B sb n nv sa sw gs hs ta tw) (hg : hs[i]? = some g) (x : Int) :
    Tab (w.setCell ⟨g, k, none⟩ (.int .i64 x)) B sb n nv sa sw gs hs ta (setI tw i k x) := by
  have hm := List.mem_of_getElem? hg
  have hB := (T.rw_.lt g hm).1
  have hsb := T.sbB
  have hset : ∀ j, j ≠ g → (w.setCell ⟨g, k, none⟩ (.int .i64 x)).heap[j]? = w.heap[j]? := fun j hj => Below.heap_setCell _ _ _ _ hj
  refine ⟨(hset sb (by omega)).trans T.blk, hsb, by rw [size_setCell']; exact T.hB, owns_far T.oa (T.ga g (List.mem_append.2 (.inr hm))) _ _, owns_far T.ow (T.gw g (List.mem_append.2 (.inr hm))) _ _, ?_, T.rw_.set hg x, T.ga, T.gw, T.aw, T.gh⟩
  exact T.ra.same (by rw [size_setCell']; exact Nat.le_refl _) (fun g' hg' => hset g' (fun e => T.gh g' hg' (e ▸ hm)))

theorem Tab.below {w w' : World} {B sb n : Nat} {nv sa sw : Value} {gs hs : List Nat} {ta : List (List Bool)} {tw : List (List Int)} (T : Tab w B sb n nv sa sw gs hs ta tw) (hb : Below w.heap.size w w') : Tab w' B sb n nv sa sw gs hs ta tw := by
  have hB := T.hB
  have hsb := T.sbB
  exact ⟨(hb.block sb (by omega)).trans T.blk, hsb, Nat.le_trans hB hb.size, owns_same T.oa (fun j hj => hb.block j (T.oa.lt j hj).2), owns_same T.ow (fun j hj => hb.block j (T.ow.lt j hj).2),
    T.ra.same hb.size (fun g hg => hb.block g (T.ra.lt g hg).2), T.rw_.same hb.size (fun g hg => hb.block g (T.rw_.lt g hg).2), T.ga, T.gw, T.aw, T.gh⟩

theorem rowVs_get {n i g : Nat} {gs : List Nat} (h : gs[i]? = some g) : (rowVs n gs)[i]? = some (.slice (some ⟨g, 0, none⟩) n n) := by
  simp [rowVs, h]

theorem TRows.at_ {α : Type} {w : World} {e : TypeId} {enc : α → Value} {B n : Nat} {gs : List Nat} {t : List (List α)} (h : TRows w e enc B n gs t) {i : Nat} (hi : i < t.length) :
    ∃ g, gs[i]? = some g ∧ B ≤ g ∧ g < w.heap.size ∧ t[i].length = n ∧ w.heap[g]? = some (.cells (t[i].map enc).toArray e (0, 0)) := by
  have hg : i < gs.length := by rw [h.1]; exact hi
  obtain ⟨h1, h2, h3, h4⟩ := h.2.2 i gs[i] t[i] (List.getElem?_eq_getElem hg) (List.getElem?_eq_getElem hi)
  exact ⟨gs[i], List.getElem?_eq_getElem hg, h1, h2, h3, h4⟩

theorem row_cell {w : World} {α : Type} {e : TypeId} {enc : α → Value} {g : Nat} {l : List α} (h : w.heap[g]? = some (.cells (l.map enc).toArray e (0, 0))) {k : Nat} (hk : k < l.length) : w.cell? ⟨g, k, none⟩ = some (enc l[k]) ∧ w.frozen? ⟨g, k, none⟩ = false := by
  simp [World.cell?, World.frozen?, h, hk]

/-- What two stores into the two rows of one place need. -/
theorem Tab.at_ {w : World} {B sb n i k : Nat} {nv sa sw : Value} {gs hs : List Nat} {ta : List (List Bool)} {tw : List (List Int)} (T : Tab w B sb n nv sa sw gs hs ta tw) (ha : ta.length = n) (hw : tw.length = n) (hi : i < n) (hk : k < n) :
    ∃ a0 ca w0 cw g h vb vi, sa = .slice (some ⟨a0, 0, none⟩) n ca ∧ sw = .slice (some ⟨w0, 0, none⟩) n cw ∧ gs[i]? = some g ∧ hs[i]? = some h ∧
      w.cell? ⟨a0, i, none⟩ = some (.slice (some ⟨g, 0, none⟩) n n) ∧ w.cell? ⟨w0, i, none⟩ = some (.slice (some ⟨h, 0, none⟩) n n) ∧
      w.cell? ⟨g, k, none⟩ = some vb ∧ w.frozen? ⟨g, k, none⟩ = false ∧ w.cell? ⟨h, k, none⟩ = some vi ∧ w.frozen? ⟨h, k, none⟩ = false ∧
      sb ≠ g ∧ sb ≠ h ∧ a0 ≠ g ∧ a0 ≠ h ∧ w0 ≠ g ∧ w0 ≠ h ∧ g ≠ h := by
  obtain ⟨g, hg, g1, g2, g3, g4⟩ := T.ra.at_ (i := i) (by omega)
  obtain ⟨h, hh, h1, h2, h3, h4⟩ := T.rw_.at_ (i := i) (by omega)
  obtain ⟨aa, ca, rfl, _⟩ := owns_cells T.oa
  obtain ⟨aw, cw, rfl, _⟩ := owns_cells T.ow
  obtain ⟨a0, rfl, _⟩ := owns_at T.oa (by omega)
  obtain ⟨w0, rfl, _⟩ := owns_at T.ow (by omega)
  have hmg := List.mem_of_getElem? hg
  have hmh := List.mem_of_getElem? hh
  have c1 := row_cell g4 (k := k) (by omega)
  have c2 := row_cell h4 (k := k) (by omega)
  have hsb := T.sbB
  refine ⟨a0, ca, w0, cw, g, h, _, _, rfl, rfl, hg, hh, owns_cell T.oa (rowVs_get hg), owns_cell T.ow (rowVs_get hh), c1.1, c1.2, c2.1, c2.2, by omega, by omega, fun e => ?_, fun e => ?_, fun e => ?_, fun e => ?_, fun e => T.gh g hmg (e ▸ hmh)⟩
  · exact T.ga g (List.mem_append.2 (.inl hmg)) (by rw [e]; rfl)
  · exact T.ga h (List.mem_append.2 (.inr hmh)) (by rw [e]; rfl)
  · exact T.gw g (List.mem_append.2 (.inl hmg)) (by rw [e]; rfl)
  · exact T.gw h (List.mem_append.2 (.inr hmh)) (by rw [e]; rfl)

/-- A row of Booleans as it is read. -/
theorem Tab.rowA {w : World} {B sb n i : Nat} {nv sa sw : Value} {gs hs : List Nat} {ta : List (List Bool)} {tw : List (List Int)} (T : Tab w B sb n nv sa sw gs hs ta tw) (hi : i < ta.length) :
    ∃ a0 ca g, sa = .slice (some ⟨a0, 0, none⟩) n ca ∧ w.cell? ⟨a0, i, none⟩ = some (.slice (some ⟨g, 0, none⟩) n n) ∧ w.heap[g]? = some (.cells (ta[i].map Value.bool).toArray 4 (0, 0)) ∧ ta[i].length = n := by
  obtain ⟨g, hg, g1, g2, g3, g4⟩ := T.ra.at_ hi
  have hn : 0 < n := by
    have h1 := T.oa.1
    have h2 := T.ra.1
    simp [rowVs] at h1; omega
  obtain ⟨aa, ca, rfl, _⟩ := owns_cells T.oa
  obtain ⟨a0, rfl, _⟩ := owns_at T.oa hn
  exact ⟨a0, ca, g, rfl, owns_cell T.oa (rowVs_get hg), g4, g3⟩

/-- Two new blocks and a draw. -/
theorem two_new (w : World) (o o2 : Obj) : ((w.alloc o).alloc o2).drew.heap.size = w.heap.size + 2 ∧ (∀ j, j < w.heap.size → ((w.alloc o).alloc o2).drew.heap[j]? = w.heap[j]?) ∧ ((w.alloc o).alloc o2).drew.heap[w.heap.size]? = some o ∧ ((w.alloc o).alloc o2).drew.heap[w.heap.size + 1]? = some o2 := by
  refine ⟨by simp [World.drew], fun j hj => ?_, ?_, ?_⟩
  · show ((w.alloc o).alloc o2).heap[j]? = _
    rw [Below.heap_alloc _ _ _ (by simp; omega), Below.heap_alloc _ _ _ hj]
  · show ((w.alloc o).alloc o2).heap[w.heap.size]? = _
    rw [Below.heap_alloc _ _ _ (by simp), heap_alloc_new]
  · show ((w.alloc o).alloc o2).heap[w.heap.size + 1]? = _
    have := heap_alloc_new (w.alloc o) o2
    rwa [show (w.alloc o).heap.size = w.heap.size + 1 by simp] at this

theorem made_repl (z : Value) (n : Nat) : madeCells #[z] n = (List.replicate n z).toArray := by
  rw [← toList_madeCells_one z n]

theorem size_two (w : World) (o o2 : Obj) : ((w.alloc o).alloc o2).heap.size = w.heap.size + 2 := by simp
theorem one_slice (a : Option Addr) (n c : Nat) : ∀ u ∈ [Value.slice a n c], u.oneCell' = true := by
  intro u hu
  rw [List.mem_singleton] at hu
  subst hu; rfl

/-- The table in memory, between two block numbers. -/
def TabAt (w : World) (lo hi : Nat) (ids : List Int) (nv sa sw : Value) (ta : List (List Bool)) (tw : List (List Int)) : Prop :=
  ∃ (a1 : Option Addr) (c1 B sb : Nat) (gs hs : List Nat), nv = .slice a1 ids.length c1 ∧ w.ownsRow lo 3 1 (.slice a1 ids.length c1) ids.length (ints ids) ∧ Tab w B sb ids.length nv sa sw gs hs ta tw ∧ lo ≤ sb ∧ sb < hi ∧
    (∀ j, nv.ownBlock = some j → j < hi) ∧ (∀ j, sa.ownBlock = some j → j < hi) ∧ (∀ j, sw.ownBlock = some j → j < hi) ∧ (∀ g ∈ gs ++ hs, g < hi) ∧ B ≤ hi

theorem TabAt.same {w w' : World} {lo hi : Nat} {ids : List Int} {nv sa sw : Value} {ta : List (List Bool)} {tw : List (List Int)} (h : TabAt w lo hi ids nv sa sw ta tw) (hb : ∀ j, lo ≤ j → j < hi → w'.heap[j]? = w.heap[j]?) (hs : w.heap.size ≤ w'.heap.size) :
    TabAt w' lo hi ids nv sa sw ta tw := by
  obtain ⟨a1, c1, B, sb, gs, hs', rfl, hn, T, h1, h2, h3, h4, h5, h6, h7⟩ := h
  have hsb := T.sbB
  refine ⟨a1, c1, B, sb, gs, hs', rfl, owns_same hn (fun j hj => hb j (hn.lt j hj).1 (h3 j hj)), ?_, h1, h2, h3, h4, h5, h6, h7⟩
  exact ⟨(hb sb h1 h2).trans T.blk, hsb, Nat.le_trans T.hB hs, owns_same T.oa (fun j hj => hb j (by have := (T.oa.lt j hj).1; omega) (h4 j hj)), owns_same T.ow (fun j hj => hb j (by have := (T.ow.lt j hj).1; omega) (h5 j hj)),
    T.ra.same hs (fun g hg => hb g (by have := (T.ra.lt g hg).1; omega) (h6 g (List.mem_append.2 (.inl hg)))), T.rw_.same hs (fun g hg => hb g (by have := (T.rw_.lt g hg).1; omega) (h6 g (List.mem_append.2 (.inr hg)))), T.ga, T.gw, T.aw, T.gh⟩

theorem TabAt.below {w w' : World} {lo hi : Nat} {ids : List Int} {nv sa sw : Value} {ta : List (List Bool)} {tw : List (List Int)} (h : TabAt w lo hi ids nv sa sw ta tw) (hh : hi ≤ w.heap.size) (hb : Below w.heap.size w w') : TabAt w' lo hi ids nv sa sw ta tw :=
  h.same (fun j _ hj => hb.block j (by omega)) hb.size

theorem TabAt.of {w : World} {lo B sb : Nat} {ids : List Int} {a1 : Option Addr} {c1 : Nat} {sa sw : Value} {gs hs : List Nat} {ta : List (List Bool)} {tw : List (List Int)} (hn : w.ownsRow lo 3 1 (.slice a1 ids.length c1) ids.length (ints ids))
    (T : Tab w B sb ids.length (.slice a1 ids.length c1) sa sw gs hs ta tw) (h1 : lo ≤ sb) : TabAt w lo w.heap.size ids (.slice a1 ids.length c1) sa sw ta tw :=
  ⟨a1, c1, B, sb, gs, hs, rfl, hn, T, h1, by have := T.sbB; have := T.hB; omega, fun j hj => (hn.lt j hj).2, fun j hj => (T.oa.lt j hj).2, fun j hj => (T.ow.lt j hj).2, fun g hg => by
    rcases List.mem_append.1 hg with h | h
    · exact (T.ra.lt g h).2
    · exact (T.rw_.lt g h).2, T.hB⟩
end Go.Proofs.Ytaolfdmmadfncaa
