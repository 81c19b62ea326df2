/- topo.ConnectedComponents: what is done behind each walk.
   DepthFirst.WalkAll as ConnectedComponents calls it: the state between two walks. -/
import Derived.Test.YthpjmjohdliohaaGreatCcWalk
import Derived.Deep.RegionHeld3
namespace Go.Proofs.YthpjmjohdliohaaGreat
open Go.RowKit

theorem info_nrowC : (Tryz.prog.info? 50).map (fun i => (i.zero, i.size, i.bytes)) = some (some (.slice none 0 0), 1, 24) := by kernel_rfl

/-- Lists of nodes in a variable. -/
structure CLAt (w : World) (A lb : Nat) (la : Value) (vs : List Value) (L : List (List Int)) : Prop where
  blk : VBlk w lb 58 la
  row : w.ownsRow A 50 1 la L.length vs
  rows : CRows w A vs L
  ap : ∀ j, la.ownBlock = some j → j ∉ blks vs ∧ j ≠ lb
  lbn : lb ∉ blks vs

/-- The blocks of the lists. -/
def cfoot (lb : Nat) (la : Value) (vs : List Value) : List Nat := lb :: la.ownBlock.toList ++ blks vs
theorem mem_cfoot {j lb : Nat} {la : Value} {vs : List Value} : j ∈ cfoot lb la vs ↔ j = lb ∨ la.ownBlock = some j ∨ j ∈ blks vs := by
  unfold cfoot
  cases h1 : la.ownBlock <;> simp [eq_comm]
theorem blks_add {vs : List Value} {v : Value} {j : Nat} : j ∈ blks (vs ++ [v]) ↔ j ∈ blks vs ∨ v.ownBlock = some j := by
  unfold blks
  rw [List.filterMap_append, List.mem_append]
  simp

section
variable {w w' w1 : World} {A lb n c c1 : Nat} {la : Value} {vs : List Value} {L : List (List Int)} {a b1 : Option Addr} {o : Obj}
theorem CLAt.same (h : CLAt w A lb la vs L) (hk : ∀ j ∈ cfoot lb la vs, w'.heap[j]? = w.heap[j]?) : CLAt w' A lb la vs L :=
  ⟨(hk lb (mem_cfoot.2 (.inl rfl))).trans h.blk, owns_same h.row fun j hj => hk j (mem_cfoot.2 (.inr (.inl hj))), h.rows.same fun j hj => hk j (mem_cfoot.2 (.inr (.inr hj))), h.ap, h.lbn⟩
theorem CLAt.lt (h : CLAt w A lb la vs L) : ∀ j ∈ cfoot lb la vs, j < w.heap.size := fun j hj => by
  rcases mem_cfoot.1 hj with e | e | e
  · rw [e]; exact h.blk.lt
  · exact (h.row.lt j e).2
  · exact (h.rows.lt j e).2
theorem CLAt.moves {S S' : List Nat} (h : CLAt w A lb la vs L) (m : Moves S w S' w') (hS : ∀ j ∈ cfoot lb la vs, j ∉ S) : CLAt w' A lb la vs L :=
  h.same fun j hj => m.block j (h.lt j hj) (hS j hj)

/-- An empty list more. -/
theorem CLAt.add (h : CLAt w A lb (.slice a n c) vs L) (hn : n = L.length) (_ : A ≤ w.heap.size) (hg : (w.alloc o).grownBy w1 (Value.slice a n c).ownBlock)
    (ho : w1.ownsRow A 50 1 (.slice b1 (n + 1) c1) (n + 1) (vs ++ [.slice none 0 0])) (hat : b1 = a ∨ b1 = some ⟨(w.alloc o).heap.size, 0, none⟩) :
    VBlk w1 lb 58 (.slice a n c) ∧ Hid (CLAt (w1.setCell ⟨lb, 0, none⟩ (.slice b1 (n + 1) c1)) A lb (.slice b1 (n + 1) c1) (vs ++ [.slice none 0 0]) (L ++ [[]]) ∧
      (∀ j, j < w.heap.size → j ≠ lb → (Value.slice a n c).ownBlock ≠ some j → (w1.setCell ⟨lb, 0, none⟩ (.slice b1 (n + 1) c1)).heap[j]? = w.heap[j]?) ∧
      (∀ j, (Value.slice b1 (n + 1) c1).ownBlock = some j → (Value.slice a n c).ownBlock = some j ∨ w.heap.size ≤ j) ∧ w.heap.size ≤ (w1.setCell ⟨lb, 0, none⟩ (.slice b1 (n + 1) c1)).heap.size ∧
      (w1.setCell ⟨lb, 0, none⟩ (.slice b1 (n + 1) c1)).os = w.os ∧ (w1.setCell ⟨lb, 0, none⟩ (.slice b1 (n + 1) c1)).tape = w.tape ∧ (w1.setCell ⟨lb, 0, none⟩ (.slice b1 (n + 1) c1)).output = w.output) := by
  subst hn
  have hz : (w.alloc o).heap.size = w.heap.size + 1 := by simp
  have hk : ∀ j, j < w.heap.size → (Value.slice a L.length c).ownBlock ≠ some j → w1.heap[j]? = w.heap[j]? := fun j hj hn => by
    rw [hg.block j (by omega) (fun e => hn e.symm), Below.heap_alloc _ _ _ hj]
  have hsz : w.heap.size ≤ w1.heap.size := by have := hg.size; omega
  have hnew : ∀ j, (Value.slice b1 (L.length + 1) c1).ownBlock = some j → (Value.slice a L.length c).ownBlock = some j ∨ w.heap.size ≤ j := by
    intro j hj
    rcases hat with rfl | rfl
    · left; cases b1 <;> exact hj
    · right
      simp only [Value.ownBlock] at hj
      injection hj with hj
      omega
  have hla : (Value.slice a L.length c).ownBlock ≠ some lb := fun e => (h.ap lb e).2 rfl
  have hlb := h.blk.lt
  have hb1 : VBlk w1 lb 58 (.slice a L.length c) := (hk lb hlb hla).trans h.blk
  have hs : ∀ j, j ≠ lb → (w1.setCell ⟨lb, 0, none⟩ (.slice b1 (L.length + 1) c1)).heap[j]? = w1.heap[j]? := fun j hj => Below.heap_setCell _ _ _ _ hj
  have hbn : ∀ j, (Value.slice b1 (L.length + 1) c1).ownBlock = some j → j ≠ lb := fun j hj => by
    rcases hnew j hj with e | e
    · exact (h.ap j e).2
    · omega
  have hbk : ∀ j, j ∈ blks (vs ++ [.slice none 0 0]) → j ∈ blks vs := fun j hj => by
    rcases blks_add.1 hj with e | e
    · exact e
    · simp [Value.ownBlock] at e
  refine ⟨hb1, ⟨hb1.set _, ?_, ?_, fun j hj => ⟨fun hm => ?_, hbn j hj⟩, fun hm => h.lbn (hbk _ hm)⟩, fun j h1 h2 h3 => (hs j h2).trans (hk j h1 h3), hnew, by simp [World.setCell]; omega, hg.os, hg.tape, hg.output⟩
  · rw [List.length_append, List.length_singleton]
    exact owns_same ho fun j hj => hs j (hbn j hj)
  · refine CRows.more (h.rows.same fun j hj => ?_) (World.ownsRow_nil _ _ _ _)
    have h1 := h.rows.lt j hj
    exact (hs j (fun e => h.lbn (e ▸ hj))).trans (hk j h1.2 (fun e => (h.ap j e).1 hj))
  · rcases hnew j hj with e | e
    · exact (h.ap j e).1 (hbk _ hm)
    · have := (h.rows.lt j (hbk _ hm)).2; omega

/-- The last list filled. -/
theorem CLAt.fill {g g2 m c2 : Nat} {P : List Int} (h : CLAt w A lb (.slice (some ⟨g2, 0, none⟩) (n + 1) c2) (vs ++ [.slice none 0 0]) (L ++ [[]])) (hn : n = L.length) (hvl : vs.length = n) (hg : w.grownBy w1 none)
    (ho : w1.ownsRow A 85 1 (.slice (some ⟨g, 0, none⟩) P.length m) P.length (nodes P)) (hgw : w.heap.size ≤ g) :
    w1.cell? ⟨g2, n, none⟩ = some (.slice none 0 0) ∧ w1.frozen? ⟨g2, n, none⟩ = false ∧ Hid (CLAt (w1.setCell ⟨g2, n, none⟩ (.slice (some ⟨g, 0, none⟩) P.length m)) A lb (.slice (some ⟨g2, 0, none⟩) (n + 1) c2) (vs ++ [.slice (some ⟨g, 0, none⟩) P.length m]) (L ++ [P]) ∧
      ∀ j, j < w.heap.size → j ≠ g2 → (w1.setCell ⟨g2, n, none⟩ (.slice (some ⟨g, 0, none⟩) P.length m)).heap[j]? = w.heap[j]?) := by
  subst hn
  have hk : ∀ j, j < w.heap.size → w1.heap[j]? = w.heap[j]? := fun j hj => hg.block j hj (by simp)
  have hll : (L ++ [([] : List Int)]).length = L.length + 1 := by simp
  have hrow := h.row
  rw [hll] at hrow
  have hrow1 : w1.ownsRow A 50 1 (.slice (some ⟨g2, 0, none⟩) (L.length + 1) c2) (L.length + 1) (vs ++ [.slice none 0 0]) := owns_same hrow fun j hj => hk j (hrow.lt j hj).2
  have h2w := (hrow.lt g2 rfl)
  have hs : ∀ j, j ≠ g2 → (w1.setCell ⟨g2, L.length, none⟩ (.slice (some ⟨g, 0, none⟩) P.length m)).heap[j]? = w1.heap[j]? := fun j hj => Below.heap_setCell _ _ _ _ hj
  have hg2 := h.ap g2 rfl
  have hst := (hrow1.stored L.length (.slice (some ⟨g, 0, none⟩) P.length m)).1
  have hset : (vs ++ [Value.slice none 0 0]).set L.length (.slice (some ⟨g, 0, none⟩) P.length m) = vs ++ [.slice (some ⟨g, 0, none⟩) P.length m] := by
    rw [List.set_append_right _ _ (by omega), hvl, Nat.sub_self]; rfl
  rw [hset] at hst
  refine ⟨owns_cell hrow1 (by rw [← hvl]; simp), owns_free hrow1 _, ⟨?_, ?_, ?_, fun j hj => ⟨fun hm => ?_, (h.ap j hj).2⟩, fun hm => ?_⟩, fun j h1 h2 => (hs j h2).trans (hk j h1)⟩
  · exact (hs lb (fun e => hg2.2 e.symm)).trans ((hk lb h.blk.lt).trans h.blk)
  · rw [show (L ++ [P]).length = L.length + 1 by simp]; exact hst
  · have h0 : CRows w A vs L := by
      refine ⟨by omega, fun k v c hv hc => ?_⟩
      have hkv : k < vs.length := (List.getElem?_eq_some_iff.1 hv).1
      exact h.rows.2 k v c (by rw [List.getElem?_append_left hkv]; exact hv) (by rw [List.getElem?_append_left (by omega)]; exact hc)
    have h0b : ∀ j ∈ blks vs, j ≠ g2 := fun j hj e => hg2.1 (blks_add.2 (.inl (e ▸ hj)))
    refine CRows.more (h0.same fun j hj => (hs j (h0b j hj)).trans (hk j (h0.lt j hj).2)) (owns_same ho fun j hj => hs j ?_)
    have e : some g = some j := hj
    injection e with e
    omega
  · have e : some g2 = some j := hj
    injection e with e
    subst e
    rcases blks_add.1 hm with e | e
    · exact hg2.1 (blks_add.2 (.inl e))
    · have e' : some g = some g2 := e
      injection e' with e'
      omega
  · rcases blks_add.1 hm with e | e
    · exact h.lbn (blks_add.2 (.inl e))
    · have e' : some g = some lb := e
      injection e' with e'
      have := h.blk.lt
      omega
end

/-- What the function behind each walk leaves. -/
def CAfterPost (w : World) (A lb pb : Nat) (a : Option Addr) (n c : Nat) (ap : Option Addr) (cp : Nat) (vs : List Value) (L : List (List Int)) (P : List Int) (e : Ending) (w' : World) : Prop :=
  e = .returned (.tuple #[]) ∧ ∃ a1 c1 g1 k1, CLAt w' A lb (.slice a1 (n + 1) c1) (vs ++ [.slice (some ⟨g1, 0, none⟩) P.length k1]) (L ++ [P]) ∧ VBlk w' pb 50 (.slice ap 0 cp) ∧ w.heap.size ≤ g1 ∧
    Moves (lb :: pb :: (Value.slice a n c).ownBlock.toList) w (g1 :: lb :: pb :: (Value.slice a1 (n + 1) c1).ownBlock.toList) w' ∧ ∀ j, (Value.slice a1 (n + 1) c1).ownBlock = some j → (Value.slice a n c).ownBlock = some j ∨ w.heap.size ≤ j

set_option linter.unusedSimpArgs false in
set_option maxRecDepth 100000 in
set_option maxHeartbeats 4000000 in
/-- The function that is called behind each walk. -/
theorem cafter_any (A lb pb : Nat) (a : Option Addr) (n c : Nat) (ap : Option Addr) (cp : Nat) (vs : List Value) (L : List (List Int)) (P : List Int) (w : World) (hn : n = L.length) (hn2 : n ≤ 1000) (hP0 : 0 < P.length) (hP1 : P.length ≤ 1000) (h : CLAt w A lb (.slice a n c) vs L)
    (hp : VBlk w pb 50 (.slice ap P.length cp)) (hr : w.ownsRow A 85 1 (.slice ap P.length cp) P.length (nodes P)) (hA : A ≤ w.heap.size) (hpl : pb ∉ cfoot lb (.slice a n c) vs) (hrl : ∀ j, (Value.slice ap P.length cp).ownBlock = some j → j ∉ cfoot lb (.slice a n c) vs ∧ j ≠ pb) :
    Calls Tryz.prog 48 #[.pointer (some ⟨lb, 0, none⟩), .pointer (some ⟨pb, 0, none⟩)] w (CAfterPost w A lb pb a n c ap cp vs L P) := by
  have c0 := h.blk.c0
  have hpb := hp.lt
  have hlbl := h.blk.lt
  have hne : lb ≠ pb := fun e => hpl (mem_cfoot.2 (.inl e.symm))
  obtain ⟨pg, rfl, hpgA, hpgw, hpgc⟩ := owns_at hr hP0
  have hpg := hrl pg rfl
  have hvl : Hid (vs.length = n) := by have := h.rows.1; unfold Hid; omega
  have ho : Hid (∀ o, (w.alloc o).ownsRow A 50 1 (.slice a n c) n vs) := fun o => by have := h.row.alloc o; rw [← hn] at this; exact this
  obtain ⟨i0, hi0, hz0, hz1, hz2⟩ := info_parts info_node
  have hstep := Lib.hid fun (o : Obj) (w2 : World) (b2 : Option Addr) (c2 : Nat) (hg : (w.alloc o).grownBy w2 (Value.slice a n c).ownBlock) (hown : w2.ownsRow A 50 1 (.slice b2 (n + 1) c2) (n + 1) (vs ++ [.slice none 0 0])) (hat : b2 = a ∨ b2 = some ⟨(w.alloc o).heap.size, 0, none⟩) => h.add hn hA hg hown hat
  have hpa : (Value.slice a n c).ownBlock ≠ some pb := fun e => hpl (mem_cfoot.2 (.inr (.inl e)))
  have hga : (Value.slice a n c).ownBlock ≠ some pg := fun e => hpg.1 (mem_cfoot.2 (.inr (.inl e)))
  have hgl : pg ≠ lb := fun e => hpg.1 (mem_cfoot.2 (.inl e))
  have hvb : Hid (pb ∉ blks vs) := fun hm => hpl (mem_cfoot.2 (.inr (.inr hm)))
  have hnh := Lib.hid hn
  have hph := Lib.hid hp
  have hrh := Lib.hid hr
  clear h hn hp hr hpl hrl
  go_enter Tryz.func48, Tryz.ntmps48
  go_wp2_with (at_builtin; refine append_law 58 50 (.slice none 0 0) 1 24 Tryz.underlying58 info_nrowC rfl (by omega) (by omega) rfl _ _ rfl A a n c vs rfl (unhide ho _) ⟨w.heap.size, 0, none⟩ 1 1 [.slice none 0 0] rfl rfl (new_one w _ _) (by simp [Value.oneCell']) (by omega) (by simp; omega) ?_; intro b2 c2 w2 hown2 hg2 hat2; obtain ⟨q1, q2⟩ := hstep.out _ _ _ _ hg2 hown2 hat2; have q3 := q1.c0; have q4 := q1.free 0; clear hown2 hg2 hat2 q1)
  obtain ⟨w3, hw3⟩ : ∃ w3, w3 = w2.setCell ⟨lb, 0, none⟩ (.slice b2 (n + 1) c2) := ⟨_, rfl⟩
  have q2' := q2.out
  rw [← hw3] at q2' ⊢
  obtain ⟨hC3, hk3, hb3, hz3, hos3, htp3, hop3⟩ := q2'
  have hrow3 := hC3.row
  rw [show (L ++ [([] : List Int)]).length = n + 1 by rw [List.length_append, ← hnh.out]; rfl] at hrow3
  obtain ⟨g2, rfl, hg2A, hg2w, _⟩ := owns_at hrow3 (by omega)
  have hp3 : VBlk w3 pb 50 (.slice (some ⟨pg, 0, none⟩) P.length cp) := (hk3 pb hpb (fun e => hne e.symm) hpa).trans hph.out
  have hr3 : w3.ownsRow A 85 1 (.slice (some ⟨pg, 0, none⟩) P.length cp) P.length (nodes P) := owns_same hrh.out fun j hj => by
    have e : some pg = some j := hj
    injection e with e
    subst e
    exact hk3 pg hpgw hgl hga
  have d0 := hC3.blk.c0
  have d1 : w3.cell? ⟨g2, n, none⟩ = some (.slice none 0 0) := owns_cell hrow3 (by rw [← hvl.out]; simp)
  have d2 := hp3.c0
  have hcells : Hid (∀ (j : Nat) y, (nodes P)[j]? = some y → w3.drew.cell? ((⟨pg, 0, none⟩ : Addr).add j) = some y) := hr3.cells rfl
  have hgp : g2 ≠ pb := fun e => by
    rcases hb3 g2 rfl with e' | e'
    · exact hpa (e ▸ e')
    · omega
  have hfill := Lib.hid fun (w6 : World) (g m : Nat) (hg : w3.drew.grownBy w6 none) (ho : w6.ownsRow A 85 1 (.slice (some ⟨g, 0, none⟩) P.length m) P.length (nodes P)) (hgw : w3.heap.size ≤ g) =>
    (CLAt.fill (w := w3.drew) (vs := vs) (L := L) (hC3.same fun _ _ => rfl) hnh.out hvl.out hg ho hgw)
  have hp6 := Lib.hid fun (w6 : World) (hg : w3.drew.grownBy w6 none) (x : Value) => show VBlk (w6.setCell ⟨g2, n, none⟩ x) pb 50 (.slice (some ⟨pg, 0, none⟩) P.length cp) from
    (Below.heap_setCell _ _ _ _ (show pb ≠ g2 from fun e => hgp e.symm)).trans ((hg.block pb hp3.lt (by simp)).trans hp3)
  have hn1 : (n : Int) + 1 - 1 = (n : Int) := by omega
  have hnl : (n : Int) < (n : Int) + 1 := by omega
  have hwn : IntKind.i64.wrap (n : Int) = (n : Int) := by rw [IntKind.wrap_i64]; omega
  have hAz : A ≤ w3.heap.size := by omega
  have hn0 : (0 : Int) ≤ (n : Int) := by omega
  have hcp0 : (0 : Int) ≤ (cp : Int) := by omega
  have hC3h := Lib.hid hC3
  have hk3h := Lib.hid hk3
  have hb3h := Lib.hid hb3
  have hosh := Lib.hid (And.intro hos3 (And.intro htp3 hop3))
  have hp3l := hp3.lt
  clear hC3 hk3 hb3 hos3 htp3 hop3 hrow3 hp3 hr3 hw3 q2 q3 q4 hstep c0 ho
  have hlb3 : lb < w3.drew.heap.size := show lb < w3.heap.size by omega
  go_wp2_with fail
  go_cut [] from 5 to 17 (fun wx => ∃ g6 c6, CLAt wx A lb (.slice (some ⟨g2, 0, none⟩) (n + 1) c2) (vs ++ [.slice (some ⟨g6, 0, none⟩) P.length c6]) (L ++ [P]) ∧ VBlk wx pb 50 (.slice (some ⟨pg, 0, none⟩) P.length cp) ∧ w3.heap.size ≤ g6 ∧ w3.heap.size ≤ wx.heap.size ∧ wx.os = w3.os ∧ wx.tape = w3.tape ∧ wx.output = w3.output ∧ ∀ j, j < w3.heap.size → j ≠ g2 → wx.heap[j]? = w3.heap[j]?)
  case first =>
    refine wp_region_noPanic ?_
    refine wp_region_held_drew (S := fun w' => w'.cell? ⟨lb, 0, none⟩ = some (.slice (some ⟨g2, 0, none⟩) (n + 1) c2) ∧ w'.cell? ⟨pb, 0, none⟩ = some (.slice (some ⟨pg, 0, none⟩) P.length cp)) (by kernel_rfl) ?_ (fun hHeld => ?_)
    · (try dsimp only); exact ⟨d0, d2⟩
    refine wpAnyH_take (i := 0) (oi := _) (v := ?_) rfl (by kernel_rfl) (by kernel_rfl) (by kernel_rfl) (fun _ _ _ h => h) (Or.inl ⟨by rfl, ?_⟩) (by assumption) ?_
    rotate_left
    · intro w hSw; (try dsimp only at hSw); obtain ⟨hSa, hSb⟩ := hSw; go_simp; try with_reducible rfl
    try simp only [Act.put, List.setIfInBounds_toArray, List.set_cons_zero, List.set_cons_succ]
    refine wpAnyH_take (i := 1) (oi := _) (v := ?_) rfl (by kernel_rfl) (by kernel_rfl) (by kernel_rfl) (fun _ _ _ h => h) (Or.inl ⟨by rfl, ?_⟩) (by assumption) ?_
    rotate_left
    · intro w hSw; (try dsimp only at hSw); obtain ⟨hSa, hSb⟩ := hSw; go_simp; try with_reducible rfl
    try simp only [Act.put, List.setIfInBounds_toArray, List.set_cons_zero, List.set_cons_succ]
    refine wpAnyH_take (i := 2) (oi := _) (v := ?_) rfl (by kernel_rfl) (by kernel_rfl) (by kernel_rfl) (fun _ _ _ h => h) (Or.inl ⟨by rfl, ?_⟩) (by assumption) ?_
    rotate_left
    · intro w hSw; (try dsimp only at hSw); obtain ⟨hSa, hSb⟩ := hSw; go_simp; try with_reducible rfl
    try simp only [Act.put, List.setIfInBounds_toArray, List.set_cons_zero, List.set_cons_succ]
    refine wpAnyH_take (i := 3) (oi := _) (v := ?_) rfl (by kernel_rfl) (by kernel_rfl) (by kernel_rfl) (fun _ _ _ h => h) (Or.inl ⟨by rfl, ?_⟩) (by assumption) ?_
    rotate_left
    · intro w hSw; (try dsimp only at hSw); obtain ⟨hSa, hSb⟩ := hSw; go_simp; try with_reducible rfl
    try simp only [Act.put, List.setIfInBounds_toArray, List.set_cons_zero, List.set_cons_succ]
    refine wpAnyH_take (i := 4) (oi := _) (v := ?_) rfl (by kernel_rfl) (by kernel_rfl) (by kernel_rfl) (fun _ _ _ h => h) (Or.inl ⟨by rfl, ?_⟩) (by assumption) ?_
    rotate_left
    · intro w hSw; (try dsimp only at hSw); obtain ⟨hSa, hSb⟩ := hSw; go_simp; try with_reducible rfl
    try simp only [Act.put, List.setIfInBounds_toArray, List.set_cons_zero, List.set_cons_succ]
    refine wpAnyH_take (i := 5) (oi := _) (v := ?_) rfl (by kernel_rfl) (by kernel_rfl) (by kernel_rfl) (fun _ _ _ h => h) (Or.inl ⟨by rfl, ?_⟩) (by assumption) ?_
    rotate_left
    · intro w hSw; (try dsimp only at hSw); obtain ⟨hSa, hSb⟩ := hSw; go_simp; try with_reducible rfl
    try simp only [Act.put, List.setIfInBounds_toArray, List.set_cons_zero, List.set_cons_succ]
    refine wpAnyH_take (i := 6) (oi := _) (v := ?_) rfl (by kernel_rfl) (by kernel_rfl) (by kernel_rfl) (fun _ _ _ h => h) (Or.inl ⟨by rfl, ?_⟩) (by assumption) ?_
    rotate_left
    · intro w hSw; (try dsimp only at hSw); obtain ⟨hSa, hSb⟩ := hSw; go_simp; try with_reducible rfl
    try simp only [Act.put, List.setIfInBounds_toArray, List.set_cons_zero, List.set_cons_succ]
    refine wpAnyH_take (i := 7) (oi := _) (v := ?_) rfl (by kernel_rfl) (by kernel_rfl) (by kernel_rfl) (fun _ _ _ h => h) (Or.inl ⟨by rfl, ?_⟩) (by assumption) ?_
    rotate_left
    · intro w hSw; (try dsimp only at hSw); obtain ⟨hSa, hSb⟩ := hSw; go_simp; try with_reducible rfl
    try simp only [Act.put, List.setIfInBounds_toArray, List.set_cons_zero, List.set_cons_succ]
    refine wpAnyH_take (i := 8) (oi := _) (v := ?_) rfl (by kernel_rfl) (by kernel_rfl) (by kernel_rfl) (fun _ _ _ h => h) (Or.inl ⟨by rfl, ?_⟩) (by assumption) ?_
    rotate_left
    · intro w hSw; (try dsimp only at hSw); obtain ⟨hSa, hSb⟩ := hSw; go_simp; try with_reducible rfl
    try simp only [Act.put, List.setIfInBounds_toArray, List.set_cons_zero, List.set_cons_succ]
    refine wpAnyH_take (i := 10) (oi := _) (v := ?_) rfl (by kernel_rfl) (by kernel_rfl) (by kernel_rfl) (fun _ _ _ h => h) (Or.inl ⟨by rfl, ?_⟩) (by assumption) ?_
    rotate_left
    · intro w hSw; (try dsimp only at hSw); obtain ⟨hSa, hSb⟩ := hSw; go_simp; try with_reducible rfl
    try simp only [Act.put, List.setIfInBounds_toArray, List.set_cons_zero, List.set_cons_succ]
    refine wpAnyH_ready (rs := [9]) (by kernel_rfl) (by simp) ?_
    refine AllReadyH.cons (o := _) rfl (fun K hK => ?_) AllReadyH.nil
    go_simp
    refine hK.out _ _ ?_ (fun hHeld => ?_)
    · (try dsimp only); exact ⟨d0, d2⟩
    clear hK K
    try simp only [Act.put, List.setIfInBounds_toArray, List.set_cons_zero, List.set_cons_succ]
    refine wpAnyH_ready (rs := [11]) (by kernel_rfl) (by simp) ?_
    refine AllReadyH.cons (o := _) rfl (fun K hK => ?_) AllReadyH.nil
    refine step_append_lies _ rfl (.tmp 14) (.tmp 15) 50 rfl A 85 i0 .nilIface 1 16 Tryz.underlying50 hi0 hz0 hz1 hz2 rfl (by omega) (.slice none 0 0) 0 [] rfl (World.ownsRow_nil _ _ _ _) ⟨pg, 0, none⟩ P.length cp (nodes P) rfl (by rw [nodes_length, Nat.mul_one]) hcells.out (fun u hu => by obtain ⟨z, _, rfl⟩ := List.mem_map.1 hu; rfl) (by omega) (by unfold maxLen; omega) (by omega) (by show A ≤ w3.heap.size; omega) w3.heap.size rfl ?_
    intro g6 c6 w6 hown6 hg6 hat6 _
    rw [Nat.zero_add] at hown6 ⊢
    have hge : w3.heap.size ≤ g6 := hat6.elim (fun h => absurd h (by simp [Value.ownBlock])) (fun h => by omega)
    obtain ⟨s1, s2, s3⟩ := hfill.out w6 g6 c6 hg6 hown6 hge
    have s4 := fun x => (hp6.out w6 hg6 x).c0
    have s6 := Lib.hid fun x => hp6.out w6 hg6 x
    have s7 : w6.cell? ⟨lb, 0, none⟩ = some (.slice (some ⟨g2, 0, none⟩) (n + 1) c2) := by (rw [World.cell?_of_block (hg6.block lb hlb3 (by simp [Value.ownBlock]))]; exact d0)
    have s8 : w6.cell? ⟨pb, 0, none⟩ = some (.slice (some ⟨pg, 0, none⟩) P.length cp) := by (rw [World.cell?_of_block (hg6.block pb hp3l (by simp [Value.ownBlock]))]; exact d2)
    have s9 := s3.out.1.blk.c0
    have hg6h := Lib.hid hg6
    clear hown6 hg6 hat6
    refine hK.out _ _ ?_ (fun hHeld => ?_)
    · (try dsimp only); exact ⟨s7, s8⟩
    clear hK K
    try simp only [Act.put, List.setIfInBounds_toArray, List.set_cons_zero, List.set_cons_succ]
    refine wpAnyH_take (i := 12) (oi := _) (v := ?_) rfl (by kernel_rfl) (by kernel_rfl) (by kernel_rfl) (fun _ _ _ h => h) (Or.inl ⟨by rfl, ?_⟩) (by assumption) ?_
    rotate_left
    · intro w hSw; (try dsimp only at hSw); obtain ⟨hSa, hSb⟩ := hSw; go_simp; try with_reducible rfl
    try simp only [Act.put, List.setIfInBounds_toArray, List.set_cons_zero, List.set_cons_succ]
    refine wpAnyH_ready (rs := [13]) (by kernel_rfl) (by simp) ?_
    refine AllReadyH.cons (o := _) rfl (fun K hK => ?_) AllReadyH.nil
    go_simp
    refine hK.out _ _ ?_ (fun hHeld => ?_)
    · (try dsimp only); exact ⟨s9, s4 _⟩
    clear hK K
    try simp only [Act.put, List.setIfInBounds_toArray, List.set_cons_zero, List.set_cons_succ]
    refine wpAnyH_done (by kernel_rfl) ?_ _
    refine NoPanic.normal ?_
    try simp only [List.getElem_toArray, List.getElem_cons_succ, List.getElem_cons_zero, List.setIfInBounds_toArray, List.set_cons_zero, List.set_cons_succ]
    go_wp2_with fail
    go_meet
    exact ⟨g6, c6, s3.out.1, s6.out _, hge, by simp [World.setCell]; exact hg6h.out.size, hg6h.out.os, hg6h.out.tape, hg6h.out.output, fun j h1 h2 => s3.out.2 j h1 h2⟩
  case rest =>
  obtain ⟨g6, c6, hC5, hp5, hge, hz5, hos5, htp5, hop5, hk5⟩ := hcut
  have e0 := hp5.c0
  have ef := hp5.free 0
  have hfin : Hid (CAfterPost w A lb pb a n c (some ⟨pg, 0, none⟩) cp vs L P (.returned (.tuple #[])) (wc.setCell ⟨pb, 0, none⟩ (.slice (some ⟨pg, 0, none⟩) 0 cp))) := by
    have hset : ∀ j, j ≠ pb → (wc.setCell ⟨pb, 0, none⟩ (.slice (some ⟨pg, 0, none⟩) 0 cp)).heap[j]? = wc.heap[j]? := fun j hj => Below.heap_setCell _ _ _ _ hj
    have hzw : w.heap.size ≤ wc.heap.size := by omega
    refine ⟨rfl, some ⟨g2, 0, none⟩, c2, g6, c6, hC5.same fun j hj => hset j fun e => ?_, hp5.set _, by omega, ⟨?_, ?_, ?_, by simp [World.setCell]; omega, fun j hj hn => ?_, fun j hj => ?_⟩, hb3h.out⟩
    · subst e
      rcases mem_cfoot.1 hj with e | e | e
      · exact hne e.symm
      · have e' : some g2 = some j := e
        injection e' with e'
        exact hgp e'
      · rcases blks_add.1 e with e | e
        · exact hvb.out e
        · have e' : some g6 = some j := e
          injection e' with e'
          omega
    · exact hos5.trans hosh.out.1
    · exact htp5.trans hosh.out.2.1
    · exact hop5.trans hosh.out.2.2
    · simp only [List.mem_cons, not_or] at hn
      have hna : (Value.slice a n c).ownBlock ≠ some j := fun e => hn.2.2 (by rw [e]; simp)
      have hj2 : j ≠ g2 := fun e => by
        rcases hb3h.out g2 rfl with e' | e'
        · exact hna (e ▸ e')
        · omega
      exact (hset j hn.2.1).trans ((hk5 j (by omega) hj2).trans (hk3h.out j hj hn.1 hna))
    · simp only [List.mem_cons] at hj ⊢
      rcases hj with e | e | e | e
      · exact .inr (by omega)
      · exact .inl (.inl e)
      · exact .inl (.inr (.inl e))
      · have e' : j = g2 := by simpa [Value.ownBlock] using e
        rcases hb3h.out g2 rfl with e2 | e2
        · exact .inl (.inr (.inr (by rw [e2, e']; simp)))
        · exact .inr (by omega)
  clear hC5 hp5 hk5 hos5 htp5 hop5 hC3h hk3h hb3h hosh
  go_wp2_with fail
  go_end0
  exact hfin.out
end Go.Proofs.YthpjmjohdliohaaGreat

namespace Go.Proofs.YthpjmjohdliohaaGreat
open Go.RowKit

set_option maxHeartbeats 1000000 in
theorem dreset_any (tb : Nat) (fv ft : Value) (w : World) (h : DBlk w tb fv ft (.slice none 0 0) (.map none)) :
    Calls Tryz.prog 83 #[.pointer (some ⟨tb, 0, none⟩)] w
      fun e w' => e = .returned (.tuple #[]) ∧ DBlk w' tb fv ft (.slice none 0 0) (.map none) ∧ Moves [tb] w [tb] w' := by
  have c2 := h.c2
  have c3 := h.c3
  have f2 := h.free 2
  have f3 := h.free 3
  have h1 := h.set2 (.slice none 0 0)
  have c31 := h1.c3
  have f31 := h1.free 3
  have h2 := h1.set3 (.map none)
  have hfin : Hid (DBlk ((w.setCell ⟨tb, 2, none⟩ (.slice none 0 0)).setCell ⟨tb, 3, none⟩ (.map none)) tb fv ft (.slice none 0 0) (.map none) ∧ Moves [tb] w [tb] ((w.setCell ⟨tb, 2, none⟩ (.slice none 0 0)).setCell ⟨tb, 3, none⟩ (.map none))) :=
    ⟨h2, (Moves.of_setCell w _ (by simp)).trans (Moves.of_setCell _ _ (by simp))⟩
  clear h h1 h2
  go_enter Tryz.func83, Tryz.ntmps83
  go_wp2
  go_end0
  exact ⟨rfl, hfin.out⟩

theorem wpList_lookup_nil {P : Program} (w : World) {ops : Array Oper} {rest : List Oper} {o : Oper} {a : Act} {Q : Exit → Act → World → Prop} (hg : o.guard = none) (m x : Operand) (t : TypeId) (hop : o.op = Op.lookup t m x true)
    (hm : a.eval m = .map none) (key z : Value) (hx : a.eval x = key) (hrun : (Instr.lookup t (.map none) key true).run P w = .ok (.tuple #[z, .bool false]) w)
    (hK : wpList P ops Q rest (a.put o.dst (.tuple #[z, .bool false])) w) : wpList P ops Q (o :: rest) a w := by
  refine wpList_plain hg fun K' hK' => ?_
  unfold Oper.wp
  simp [execOp, hop, hm, hx, hrun, Result.andThen]
  exact hK' _ _ hK

theorem setHasNil_any (x : Int) (w : World) (hx : In64 x) :
    Calls Tryz.prog 52 #[.map none, .int .i64 x] w fun e w' => e = .returned (.bool false) ∧ ∃ o, w' = w.alloc o := by
  have hkey : keyOf Tryz.prog 2 (.int .i64 x) = some (.int .i64 x) := Maps.keyOf_int_mk Tryz.underlying2 hx
  have hnil : ∀ W : World, (Instr.lookup 103 (.map none) (.int .i64 x) true).run Tryz.prog W = .ok (.tuple #[.agg #[], .bool false]) W := fun W => Maps.look_nil (w := W) true keyed64 Tryz.underlying103 (Tryz.zeroValue162 W) hkey
  have hnilh := Lib.hid hnil
  clear hnil hkey
  go_enter Tryz.func52, Tryz.ntmps52
  go_wp2_with (at_lookup; refine wpList_lookup_nil _ rfl _ _ 103 rfl rfl _ (.agg #[]) rfl (hnilh.out _) ?_)
  go_ret
  exact ⟨rfl, _, rfl⟩

theorem DStart.same {w w' : World} {ids : List Int} {A tb pb : Nat} {O : List Int} {F0 : List Nat} {x0 : Option Nat} (h : DStart w ids A tb pb O F0 x0) (hk : ∀ j ∈ F0, w'.heap[j]? = w.heap[j]?) (hs : w.heap.size ≤ w'.heap.size) : DStart w' ids A tb pb O F0 x0 := by
  rcases h with ⟨h1, h2, rfl, h4, h5, h6⟩ | ⟨mb, B, a, c, ap, cp, h1, h2, rfl⟩
  · exact .inl ⟨h1, h2, rfl, (hk tb (by simp)).trans h4, (hk pb (by simp)).trans h5, h6⟩
  · exact .inr ⟨mb, B, a, c, ap, cp, h1, h2.same hk hs, rfl⟩

/-- Between two walks. -/
structure WState (w0 w : World) (gb lo hi : Nat) (ids : List Int) (outs ins : List (List Arc)) (A tb pb lb db B2 E ib k q : Nat) (O : List Int) (F0 : List Nat) (x0 : Option Nat) (la : Value) (vs : List Value) (L : List (List Int)) : Prop where
  st : DStart w ids A tb pb O F0 x0
  set : ∀ x, x ∈ O ↔ x ∈ L.flatten
  lat : CLAt w A lb la vs L
  all : DAll (succOf ids outs) ids k L
  far : FarIn lo hi w gb ids outs ins
  dbv : VBlk w db 99 (noteC pb)
  it : IterAt w B2 E ib q ids
  f0 : ∀ j ∈ F0, A ≤ j ∧ j < w.heap.size ∧ (j < lo ∨ hi ≤ j) ∧ (j < B2 ∨ E ≤ j) ∧ j ≠ db ∧ j ∉ cfoot lb la vs
  fl : ∀ j ∈ cfoot lb la vs, A ≤ j ∧ (j < lo ∨ hi ≤ j) ∧ (j < B2 ∨ E ≤ j) ∧ j ≠ db
  fd : db < B2 ∨ E ≤ db
  low : Below A w0 w
  sz : E ≤ w.heap.size ∧ A ≤ w.heap.size ∧ hi ≤ B2
  fp : pb ∈ F0

section
variable {w0 w w' : World} {gb lo hi : Nat} {ids : List Int} {outs ins : List (List Arc)} {A tb pb lb db B2 E ib k q : Nat} {O : List Int} {F0 : List Nat} {x0 : Option Nat} {la : Value} {vs : List Value} {L : List (List Int)}

theorem WState.below (h : WState w0 w gb lo hi ids outs ins A tb pb lb db B2 E ib k q O F0 x0 la vs L) (hb : Below w.heap.size w w') : WState w0 w' gb lo hi ids outs ins A tb pb lb db B2 E ib k q O F0 x0 la vs L := by
  have hs := hb.size
  have hz := h.sz
  exact ⟨h.st.same (fun j hj => hb.block j (h.f0 j hj).2.1) hs, h.set, h.lat.same (fun j hj => hb.block j (h.lat.lt j hj)), h.all, h.far.below hb, (hb.block db h.dbv.lt).trans h.dbv, h.it.same (fun j _ hj => hb.block j (by omega)),
    fun j hj => by obtain ⟨h1, h2, h3⟩ := h.f0 j hj; exact ⟨h1, by omega, h3⟩, h.fl, h.fd, h.low.trans (hb.mono hz.2.1), ⟨by omega, by omega, hz.2.2⟩, h.fp⟩

/-- The iterator goes on. -/
theorem WState.next (h : WState w0 w gb lo hi ids outs ins A tb pb lb db B2 E ib k q O F0 x0 la vs L) (hg : w.grownBy w' (some ib)) {q' : Nat} (hi' : IterAt w' B2 E ib q' ids) (hlo : A ≤ B2) : WState w0 w' gb lo hi ids outs ins A tb pb lb db B2 E ib k q' O F0 x0 la vs L := by
  have hs := hg.size
  have hz := h.sz
  have hib1 := hi'.1
  have hib2 := hi'.2.1
  have hk : ∀ j, j < w.heap.size → (j < B2 ∨ E ≤ j) → w'.heap[j]? = w.heap[j]? := fun j hj hn => hg.block j hj (fun e => by injection e with e; omega)
  exact ⟨h.st.same (fun j hj => hk j (h.f0 j hj).2.1 (h.f0 j hj).2.2.2.1) hs, h.set, h.lat.same (fun j hj => hk j (h.lat.lt j hj) (h.fl j hj).2.2.1), h.all, h.far.keep hs (fun j _ hj => hk j (by have := h.far.1; omega) (by omega)),
    (hk db h.dbv.lt h.fd).trans h.dbv, hi', fun j hj => by obtain ⟨h1, h2, h3⟩ := h.f0 j hj; exact ⟨h1, by omega, h3⟩, h.fl, h.fd, h.low.grown hg hz.2.1 (fun j e => by injection e with e; omega), ⟨by omega, by omega, hz.2.2⟩, h.fp⟩

/-- A walk, and what is done behind it. -/
theorem WState.walked {w5 w6 w7 : World} (h : WState w0 w5 gb lo hi ids outs ins A tb pb lb db B2 E ib k q O F0 x0 la vs L) (hsym : ∀ x ∈ ids, ∀ y ∈ succOf ids outs x, y ∈ ids ∧ x ∈ succOf ids outs y) (hk : k < ids.length) (hm : ids[k] ∉ L.flatten)
    {mb B : Nat} {V : List Int} {a : Option Addr} {c : Nat} {ap : Option Addr} {cp g1 k1 : Nat} {la' : Value} (hw : DWalk (succOf ids outs) ids[k] V)
    (hD : DfsAt w6 ids A B tb mb pb .nilFunc .nilFunc 50 85 nodev (V.reverse ++ O) [] V (.slice a 0 c) (.slice ap V.length cp)) (hM : Moves F0 w5 (dfoot tb mb pb (.slice a 0 c) (.slice ap V.length cp)) w6)
    (hL : CLAt w7 A lb la' (vs ++ [.slice (some ⟨g1, 0, none⟩) V.length k1]) (L ++ [V])) (hp : VBlk w7 pb 50 (.slice ap 0 cp)) (hg1 : w6.heap.size ≤ g1) (hM7 : Moves (lb :: pb :: la.ownBlock.toList) w6 (g1 :: lb :: pb :: la'.ownBlock.toList) w7) (hla' : ∀ j, la'.ownBlock = some j → la.ownBlock = some j ∨ w6.heap.size ≤ j) :
    WState w0 w7 gb lo hi ids outs ins A tb pb lb db B2 E ib (k + 1) q (V.reverse ++ O) (dfoot tb mb pb (.slice a 0 c) (.slice ap 0 cp)) (some mb) la' (vs ++ [.slice (some ⟨g1, 0, none⟩) V.length k1]) (L ++ [V]) := by
  have hz := h.sz
  have s6 := hM.size
  have s7 := hM7.size
  have hlm : ∀ j ∈ cfoot lb la vs, j < w5.heap.size := h.lat.lt
  obtain ⟨pg, rfl, _⟩ := owns_at hD.prow (List.length_pos_iff.2 hw.ne)
  have hown : (Value.slice (some ⟨pg, 0, none⟩) 0 cp).ownBlock = (Value.slice (some ⟨pg, 0, none⟩) V.length cp).ownBlock := rfl
  -- the walk's blocks
  have hdf : ∀ j ∈ dfoot tb mb pb (.slice a 0 c) (.slice (some ⟨pg, 0, none⟩) V.length cp), A ≤ j ∧ j < w6.heap.size ∧ (j < lo ∨ hi ≤ j) ∧ (j < B2 ∨ E ≤ j) ∧ j ≠ db ∧ j ∉ cfoot lb la vs := fun j hj => by
    refine ⟨hD.footlow j hj, hD.footlt j hj, ?_⟩
    rcases hM.row j hj with e | e
    · exact ⟨(h.f0 j e).2.2.1, (h.f0 j e).2.2.2.1, (h.f0 j e).2.2.2.2.1, (h.f0 j e).2.2.2.2.2⟩
    · exact ⟨.inr (by have := h.far.1; omega), .inr (by omega), fun e' => by have := h.dbv.lt; omega, fun hm => by have := hlm j hm; omega⟩
  have hsub : ∀ j ∈ dfoot tb mb pb (.slice a 0 c) (.slice (some ⟨pg, 0, none⟩) 0 cp), j ∈ dfoot tb mb pb (.slice a 0 c) (.slice (some ⟨pg, 0, none⟩) V.length cp) := fun j hj => by
    rcases mem_dfoot.1 hj with e | e | e | e | e
    · exact mem_dfoot.2 (by simp [e])
    · exact mem_dfoot.2 (by simp [e])
    · exact mem_dfoot.2 (by simp [e])
    · exact mem_dfoot.2 (by simp [e])
    · exact mem_dfoot.2 (.inr (.inr (.inr (.inr (hown ▸ e)))))
  have htb : tb < B ∧ mb < B ∧ pb < B := ⟨hD.lts.1, hD.lts.2.1, hD.lts.2.2.1⟩
  have hblk : ∀ j ∈ blks (vs ++ [.slice (some ⟨g1, 0, none⟩) V.length k1]), j ∈ blks vs ∨ j = g1 := fun j hj => by
    rcases blks_add.1 hj with e | e
    · exact .inl e
    · have e' : some g1 = some j := e
      injection e' with e'
      exact .inr e'.symm
  have hk7 : ∀ j, j < w6.heap.size → j ∉ cfoot lb la vs → j ≠ pb → w7.heap[j]? = w6.heap[j]? := fun j hj hn hne => hM7.block j hj fun hm => by
    simp only [List.mem_cons] at hm
    rcases hm with e | e | e
    · exact hn (mem_cfoot.2 (.inl e))
    · exact hne e
    · refine hn (mem_cfoot.2 (.inr (.inl ?_)))
      cases hb : la.ownBlock with
      | none => rw [hb] at e; simp at e
      | some x => rw [hb] at e; simp at e; rw [e]
  have hdk : ∀ j ∈ dfoot tb mb pb (.slice a 0 c) (.slice (some ⟨pg, 0, none⟩) V.length cp), j ≠ pb → w7.heap[j]? = w6.heap[j]? := fun j hj hne => hk7 j (hdf j hj).2.1 (hdf j hj).2.2.2.2.2 hne
  have hkk : ∀ j, j < w5.heap.size → j ∉ F0 → j ∉ cfoot lb la vs → w7.heap[j]? = w5.heap[j]? := fun j hj h1 h2 => (hk7 j (by omega) h2 (fun e => h1 (e ▸ h.fp))).trans (hM.block j hj h1)
  have hrow7 : w7.ownsRow B 85 1 (.slice (some ⟨pg, 0, none⟩) V.length cp) V.length (V.map nodev) := owns_same hD.prow fun j hj => hdk j (mem_dfoot.2 (by simp [hj])) (by have := (hD.prow.lt j hj).1; omega)
  have hcut7 := owns_cut hrow7 (i := 0) (Nat.zero_le _)
  refine ⟨.inr ⟨mb, B, a, c, some ⟨pg, 0, none⟩, cp, rfl, ⟨?_, ?_, ?_, hp, by simpa using hcut7, ⟨htb.1, htb.2.1, htb.2.2, Nat.le_trans hD.lts.2.2.2 s7⟩, hD.low, hD.ne, fun j hj e => hD.ap j hj (hown ▸ e)⟩, rfl⟩, fun x => ?_, hL, h.all.more _ hsym hk hm hw, ?_, ?_, ?_, fun j hj => ?_, fun j hj => ?_, h.fd, ?_, ⟨by omega, by omega, hz.2.2⟩, mem_dfoot.2 (by simp)⟩
  · exact (hdk tb (mem_dfoot.2 (by simp)) hD.ne.2.1).trans hD.blk
  · exact owns_same hD.stk fun j hj => hdk j (mem_dfoot.2 (by simp [hj])) (by have := (hD.stk.lt j hj).1; omega)
  · exact hD.set.same (hdk mb (mem_dfoot.2 (by simp)) hD.ne.2.2)
  · rw [List.mem_append, List.mem_reverse, h.set, List.flatten_append, List.mem_append]
    simp [or_comm]
  · refine h.far.keep (by omega) fun j h1 h2 => hkk j (by have := h.far.1; omega) (fun hj => ?_) (fun hj => ?_)
    · have := (h.f0 j hj).2.2.1; omega
    · have := (h.fl j hj).2.1; omega
  · exact (hkk db h.dbv.lt (fun hj => (h.f0 db hj).2.2.2.2.1 rfl) (fun hj => (h.fl db hj).2.2.2 rfl)).trans h.dbv
  · refine h.it.same fun j h1 h2 => hkk j (by omega) (fun hj => ?_) (fun hj => ?_)
    · have := (h.f0 j hj).2.2.2.1; omega
    · have := (h.fl j hj).2.2.1; omega
  · obtain ⟨d1, d2, d3, d4, d5, d6⟩ := hdf j (hsub j hj)
    refine ⟨d1, by omega, d3, d4, d5, fun hm => ?_⟩
    rcases mem_cfoot.1 hm with e | e | e
    · exact d6 (mem_cfoot.2 (.inl e))
    · rcases hla' j e with e' | e'
      · exact d6 (mem_cfoot.2 (.inr (.inl e')))
      · omega
    · rcases hblk j e with e' | e'
      · exact d6 (mem_cfoot.2 (.inr (.inr e')))
      · omega
  · rcases mem_cfoot.1 hj with e | e | e
    · exact h.fl j (mem_cfoot.2 (.inl e))
    · rcases hla' j e with e' | e'
      · exact h.fl j (mem_cfoot.2 (.inr (.inl e')))
      · exact ⟨by omega, .inr (by have := h.far.1; omega), .inr (by omega), fun e2 => by have := h.dbv.lt; omega⟩
    · rcases hblk j e with e' | e'
      · exact h.fl j (mem_cfoot.2 (.inr (.inr e')))
      · exact ⟨by omega, .inr (by have := h.far.1; omega), .inr (by omega), fun e2 => by have := h.dbv.lt; omega⟩
  · refine (hM7.below (hM.below h.low (fun j hj => (h.f0 j hj).1) hz.2.1) (fun j hj => ?_) (by omega))
    simp only [List.mem_cons] at hj
    rcases hj with e | e | e
    · rw [e]; exact (h.fl lb (mem_cfoot.2 (.inl rfl))).1
    · rw [e]; exact hD.low.2.2
    · refine (h.fl j (mem_cfoot.2 (.inr (.inl ?_)))).1
      cases hb : la.ownBlock with
      | none => rw [hb] at e; simp at e
      | some x => rw [hb] at e; simp at e; rw [e]
end
end Go.Proofs.YthpjmjohdliohaaGreat
