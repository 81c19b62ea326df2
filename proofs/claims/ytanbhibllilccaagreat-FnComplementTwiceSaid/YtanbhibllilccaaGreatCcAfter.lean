/- topo.ConnectedComponents: what is done behind each walk. -/
import Derived.Test.YtanbhibllilccaaGreatCcWalk
import Derived.Deep.RegionHeld3
namespace Go.Proofs.YtanbhibllilccaaGreat
open Go.RowKit

theorem info_nrow : (Tryz.prog.info? 89).map (fun i => (i.zero, i.size, i.bytes)) = some (some (.slice none 0 0), 1, 24) := by kernel_rfl

/-- Lists of nodes in a variable. -/
structure CLAt (w : World) (A lb : Nat) (la : Value) (vs : List Value) (L : List (List Int)) : Prop where
  blk : VBlk w lb 66 la
  row : w.ownsRow A 89 1 la L.length vs
  rows : CRows w A vs L
  ap : ∀ j, la.ownBlock = some j → j ∉ blks vs ∧ j ≠ lb
  lbn : lb ∉ blks vs

/-- The blocks of the lists. -/
def cfoot (lb : Nat) (la : Value) (vs : List Value) : List Nat := lb :: la.ownBlock.toList ++ blks vs
theorem mem_cfoot {j lb : Nat} {la : Value} {vs : List Value} : j ∈ cfoot lb la vs ↔ j = lb ∨ la.ownBlock = some j ∨ j ∈ blks vs := by
  unfold cfoot
  cases h1 : la.ownBlock <;> simp [eq_comm]
theorem blks_add {vs : List Value} {v : Value} {j : Nat} : j ∈ blks (vs ++ [v]) ↔ j ∈ blks vs ∨ v.ownBlock = some j := by
  unfold blks
  rw [List.filterMap_append, List.mem_append]
  simp

section
variable {w w' w1 : World} {A lb n c c1 : Nat} {la : Value} {vs : List Value} {L : List (List Int)} {a b1 : Option Addr} {o : Obj}
theorem CLAt.same (h : CLAt w A lb la vs L) (hk : ∀ j ∈ cfoot lb la vs, w'.heap[j]? = w.heap[j]?) : CLAt w' A lb la vs L :=
  ⟨(hk lb (mem_cfoot.2 (.inl rfl))).trans h.blk, owns_same h.row fun j hj => hk j (mem_cfoot.2 (.inr (.inl hj))), h.rows.same fun j hj => hk j (mem_cfoot.2 (.inr (.inr hj))), h.ap, h.lbn⟩
theorem CLAt.lt (h : CLAt w A lb la vs L) : ∀ j ∈ cfoot lb la vs, j < w.heap.size := fun j hj => by
  rcases mem_cfoot.1 hj with e | e | e
  · rw [e]; exact h.blk.lt
  · exact (h.row.lt j e).2
  · exact (h.rows.lt j e).2
theorem CLAt.moves {S S' : List Nat} (h : CLAt w A lb la vs L) (m : Moves S w S' w') (hS : ∀ j ∈ cfoot lb la vs, j ∉ S) : CLAt w' A lb la vs L :=
  h.same fun j hj => m.block j (h.lt j hj) (hS j hj)

/-- An empty list more. -/
theorem CLAt.add (h : CLAt w A lb (.slice a n c) vs L) (hn : n = L.length) (_ : A ≤ w.heap.size) (hg : (w.alloc o).grownBy w1 (Value.slice a n c).ownBlock)
    (ho : w1.ownsRow A 89 1 (.slice b1 (n + 1) c1) (n + 1) (vs ++ [.slice none 0 0])) (hat : b1 = a ∨ b1 = some ⟨(w.alloc o).heap.size, 0, none⟩) :
    VBlk w1 lb 66 (.slice a n c) ∧ Hid (CLAt (w1.setCell ⟨lb, 0, none⟩ (.slice b1 (n + 1) c1)) A lb (.slice b1 (n + 1) c1) (vs ++ [.slice none 0 0]) (L ++ [[]]) ∧
      (∀ j, j < w.heap.size → j ≠ lb → (Value.slice a n c).ownBlock ≠ some j → (w1.setCell ⟨lb, 0, none⟩ (.slice b1 (n + 1) c1)).heap[j]? = w.heap[j]?) ∧
      (∀ j, (Value.slice b1 (n + 1) c1).ownBlock = some j → (Value.slice a n c).ownBlock = some j ∨ w.heap.size ≤ j) ∧ w.heap.size ≤ (w1.setCell ⟨lb, 0, none⟩ (.slice b1 (n + 1) c1)).heap.size ∧
      (w1.setCell ⟨lb, 0, none⟩ (.slice b1 (n + 1) c1)).os = w.os ∧ (w1.setCell ⟨lb, 0, none⟩ (.slice b1 (n + 1) c1)).tape = w.tape ∧ (w1.setCell ⟨lb, 0, none⟩ (.slice b1 (n + 1) c1)).output = w.output) := by
  subst hn
  have hz : (w.alloc o).heap.size = w.heap.size + 1 := by simp
  have hk : ∀ j, j < w.heap.size → (Value.slice a L.length c).ownBlock ≠ some j → w1.heap[j]? = w.heap[j]? := fun j hj hn => by
    rw [hg.block j (by omega) (fun e => hn e.symm), Below.heap_alloc _ _ _ hj]
  have hsz : w.heap.size ≤ w1.heap.size := by have := hg.size; omega
  have hnew : ∀ j, (Value.slice b1 (L.length + 1) c1).ownBlock = some j → (Value.slice a L.length c).ownBlock = some j ∨ w.heap.size ≤ j := by
    intro j hj
    rcases hat with rfl | rfl
    · left; cases b1 <;> exact hj
    · right
      simp only [Value.ownBlock] at hj
      injection hj with hj
      omega
  have hla : (Value.slice a L.length c).ownBlock ≠ some lb := fun e => (h.ap lb e).2 rfl
  have hlb := h.blk.lt
  have hb1 : VBlk w1 lb 66 (.slice a L.length c) := (hk lb hlb hla).trans h.blk
  have hs : ∀ j, j ≠ lb → (w1.setCell ⟨lb, 0, none⟩ (.slice b1 (L.length + 1) c1)).heap[j]? = w1.heap[j]? := fun j hj => Below.heap_setCell _ _ _ _ hj
  have hbn : ∀ j, (Value.slice b1 (L.length + 1) c1).ownBlock = some j → j ≠ lb := fun j hj => by
    rcases hnew j hj with e | e
    · exact (h.ap j e).2
    · omega
  have hbk : ∀ j, j ∈ blks (vs ++ [.slice none 0 0]) → j ∈ blks vs := fun j hj => by
    rcases blks_add.1 hj with e | e
    · exact e
    · simp [Value.ownBlock] at e
  refine ⟨hb1, ⟨hb1.set _, ?_, ?_, fun j hj => ⟨fun hm => ?_, hbn j hj⟩, fun hm => h.lbn (hbk _ hm)⟩, fun j h1 h2 h3 => (hs j h2).trans (hk j h1 h3), hnew, by simp [World.setCell]; omega, hg.os, hg.tape, hg.output⟩
  · rw [List.length_append, List.length_singleton]
    exact owns_same ho fun j hj => hs j (hbn j hj)
  · refine CRows.more (h.rows.same fun j hj => ?_) (World.ownsRow_nil _ _ _ _)
    have h1 := h.rows.lt j hj
    exact (hs j (fun e => h.lbn (e ▸ hj))).trans (hk j h1.2 (fun e => (h.ap j e).1 hj))
  · rcases hnew j hj with e | e
    · exact (h.ap j e).1 (hbk _ hm)
    · have := (h.rows.lt j (hbk _ hm)).2; omega

/-- The last list filled. -/
theorem CLAt.fill {g g2 m c2 : Nat} {P : List Int} (h : CLAt w A lb (.slice (some ⟨g2, 0, none⟩) (n + 1) c2) (vs ++ [.slice none 0 0]) (L ++ [[]])) (hn : n = L.length) (hvl : vs.length = n) (hg : w.grownBy w1 none)
    (ho : w1.ownsRow A 104 1 (.slice (some ⟨g, 0, none⟩) P.length m) P.length (nodes P)) (hgw : w.heap.size ≤ g) :
    w1.cell? ⟨g2, n, none⟩ = some (.slice none 0 0) ∧ w1.frozen? ⟨g2, n, none⟩ = false ∧ Hid (CLAt (w1.setCell ⟨g2, n, none⟩ (.slice (some ⟨g, 0, none⟩) P.length m)) A lb (.slice (some ⟨g2, 0, none⟩) (n + 1) c2) (vs ++ [.slice (some ⟨g, 0, none⟩) P.length m]) (L ++ [P]) ∧
      ∀ j, j < w.heap.size → j ≠ g2 → (w1.setCell ⟨g2, n, none⟩ (.slice (some ⟨g, 0, none⟩) P.length m)).heap[j]? = w.heap[j]?) := by
  subst hn
  have hk : ∀ j, j < w.heap.size → w1.heap[j]? = w.heap[j]? := fun j hj => hg.block j hj (by simp)
  have hll : (L ++ [([] : List Int)]).length = L.length + 1 := by simp
  have hrow := h.row
  rw [hll] at hrow
  have hrow1 : w1.ownsRow A 89 1 (.slice (some ⟨g2, 0, none⟩) (L.length + 1) c2) (L.length + 1) (vs ++ [.slice none 0 0]) := owns_same hrow fun j hj => hk j (hrow.lt j hj).2
  have h2w := (hrow.lt g2 rfl)
  have hs : ∀ j, j ≠ g2 → (w1.setCell ⟨g2, L.length, none⟩ (.slice (some ⟨g, 0, none⟩) P.length m)).heap[j]? = w1.heap[j]? := fun j hj => Below.heap_setCell _ _ _ _ hj
  have hg2 := h.ap g2 rfl
  have hst := (hrow1.stored L.length (.slice (some ⟨g, 0, none⟩) P.length m)).1
  have hset : (vs ++ [Value.slice none 0 0]).set L.length (.slice (some ⟨g, 0, none⟩) P.length m) = vs ++ [.slice (some ⟨g, 0, none⟩) P.length m] := by
    rw [List.set_append_right _ _ (by omega), hvl, Nat.sub_self]; rfl
  rw [hset] at hst
  refine ⟨owns_cell hrow1 (by rw [← hvl]; simp), owns_free hrow1 _, ⟨?_, ?_, ?_, fun j hj => ⟨fun hm => ?_, (h.ap j hj).2⟩, fun hm => ?_⟩, fun j h1 h2 => (hs j h2).trans (hk j h1)⟩
  · exact (hs lb (fun e => hg2.2 e.symm)).trans ((hk lb h.blk.lt).trans h.blk)
  · rw [show (L ++ [P]).length = L.length + 1 by simp]; exact hst
  · have h0 : CRows w A vs L := by
      refine ⟨by omega, fun k v c hv hc => ?_⟩
      have hkv : k < vs.length := (List.getElem?_eq_some_iff.1 hv).1
      exact h.rows.2 k v c (by rw [List.getElem?_append_left hkv]; exact hv) (by rw [List.getElem?_append_left (by omega)]; exact hc)
    have h0b : ∀ j ∈ blks vs, j ≠ g2 := fun j hj e => hg2.1 (blks_add.2 (.inl (e ▸ hj)))
    refine CRows.more (h0.same fun j hj => (hs j (h0b j hj)).trans (hk j (h0.lt j hj).2)) (owns_same ho fun j hj => hs j ?_)
    have e : some g = some j := hj
    injection e with e
    omega
  · have e : some g2 = some j := hj
    injection e with e
    subst e
    rcases blks_add.1 hm with e | e
    · exact hg2.1 (blks_add.2 (.inl e))
    · have e' : some g = some g2 := e
      injection e' with e'
      omega
  · rcases blks_add.1 hm with e | e
    · exact h.lbn (blks_add.2 (.inl e))
    · have e' : some g = some lb := e
      injection e' with e'
      have := h.blk.lt
      omega
end

/-- What the function behind each walk leaves. -/
def CAfterPost (w : World) (A lb pb : Nat) (a : Option Addr) (n c : Nat) (ap : Option Addr) (cp : Nat) (vs : List Value) (L : List (List Int)) (P : List Int) (e : Ending) (w' : World) : Prop :=
  e = .returned (.tuple #[]) ∧ ∃ a1 c1 g1 k1, CLAt w' A lb (.slice a1 (n + 1) c1) (vs ++ [.slice (some ⟨g1, 0, none⟩) P.length k1]) (L ++ [P]) ∧ VBlk w' pb 89 (.slice ap 0 cp) ∧ w.heap.size ≤ g1 ∧
    Moves (lb :: pb :: (Value.slice a n c).ownBlock.toList) w (g1 :: lb :: pb :: (Value.slice a1 (n + 1) c1).ownBlock.toList) w' ∧ ∀ j, (Value.slice a1 (n + 1) c1).ownBlock = some j → (Value.slice a n c).ownBlock = some j ∨ w.heap.size ≤ j

set_option linter.unusedSimpArgs false in
set_option maxRecDepth 100000 in
set_option maxHeartbeats 4000000 in
/-- The function that is called behind each walk. -/
theorem cafter_any (A lb pb : Nat) (a : Option Addr) (n c : Nat) (ap : Option Addr) (cp : Nat) (vs : List Value) (L : List (List Int)) (P : List Int) (w : World) (hn : n = L.length) (hn2 : n ≤ 1000) (hP0 : 0 < P.length) (hP1 : P.length ≤ 1000) (h : CLAt w A lb (.slice a n c) vs L)
    (hp : VBlk w pb 89 (.slice ap P.length cp)) (hr : w.ownsRow A 104 1 (.slice ap P.length cp) P.length (nodes P)) (hA : A ≤ w.heap.size) (hpl : pb ∉ cfoot lb (.slice a n c) vs) (hrl : ∀ j, (Value.slice ap P.length cp).ownBlock = some j → j ∉ cfoot lb (.slice a n c) vs ∧ j ≠ pb) :
    Calls Tryz.prog 44 #[.pointer (some ⟨lb, 0, none⟩), .pointer (some ⟨pb, 0, none⟩)] w (CAfterPost w A lb pb a n c ap cp vs L P) := by
  have c0 := h.blk.c0
  have hpb := hp.lt
  have hlbl := h.blk.lt
  have hne : lb ≠ pb := fun e => hpl (mem_cfoot.2 (.inl e.symm))
  obtain ⟨pg, rfl, hpgA, hpgw, hpgc⟩ := owns_at hr hP0
  have hpg := hrl pg rfl
  have hvl : Hid (vs.length = n) := by have := h.rows.1; unfold Hid; omega
  have ho : Hid (∀ o, (w.alloc o).ownsRow A 89 1 (.slice a n c) n vs) := fun o => by have := h.row.alloc o; rw [← hn] at this; exact this
  obtain ⟨i0, hi0, hz0, hz1, hz2⟩ := info_parts info_node
  have hstep := Lib.hid fun (o : Obj) (w2 : World) (b2 : Option Addr) (c2 : Nat) (hg : (w.alloc o).grownBy w2 (Value.slice a n c).ownBlock) (hown : w2.ownsRow A 89 1 (.slice b2 (n + 1) c2) (n + 1) (vs ++ [.slice none 0 0])) (hat : b2 = a ∨ b2 = some ⟨(w.alloc o).heap.size, 0, none⟩) => h.add hn hA hg hown hat
  have hpa : (Value.slice a n c).ownBlock ≠ some pb := fun e => hpl (mem_cfoot.2 (.inr (.inl e)))
  have hga : (Value.slice a n c).ownBlock ≠ some pg := fun e => hpg.1 (mem_cfoot.2 (.inr (.inl e)))
  have hgl : pg ≠ lb := fun e => hpg.1 (mem_cfoot.2 (.inl e))
  have hvb : Hid (pb ∉ blks vs) := fun hm => hpl (mem_cfoot.2 (.inr (.inr hm)))
  have hnh := Lib.hid hn
  have hph := Lib.hid hp
  have hrh := Lib.hid hr
  clear h hn hp hr hpl hrl
  go_enter Tryz.func44, Tryz.ntmps44
  go_wp2_with (at_builtin; refine append_law 66 89 (.slice none 0 0) 1 24 Tryz.underlying66 info_nrow rfl (by omega) (by omega) rfl _ _ rfl A a n c vs rfl (unhide ho _) ⟨w.heap.size, 0, none⟩ 1 1 [.slice none 0 0] rfl rfl (new_one w _ _) (by simp [Value.oneCell']) (by omega) (by simp; omega) ?_; intro b2 c2 w2 hown2 hg2 hat2; obtain ⟨q1, q2⟩ := hstep.out _ _ _ _ hg2 hown2 hat2; have q3 := q1.c0; have q4 := q1.free 0; clear hown2 hg2 hat2 q1)
  obtain ⟨w3, hw3⟩ : ∃ w3, w3 = w2.setCell ⟨lb, 0, none⟩ (.slice b2 (n + 1) c2) := ⟨_, rfl⟩
  have q2' := q2.out
  rw [← hw3] at q2' ⊢
  obtain ⟨hC3, hk3, hb3, hz3, hos3, htp3, hop3⟩ := q2'
  have hrow3 := hC3.row
  rw [show (L ++ [([] : List Int)]).length = n + 1 by rw [List.length_append, ← hnh.out]; rfl] at hrow3
  obtain ⟨g2, rfl, hg2A, hg2w, _⟩ := owns_at hrow3 (by omega)
  have hp3 : VBlk w3 pb 89 (.slice (some ⟨pg, 0, none⟩) P.length cp) := (hk3 pb hpb (fun e => hne e.symm) hpa).trans hph.out
  have hr3 : w3.ownsRow A 104 1 (.slice (some ⟨pg, 0, none⟩) P.length cp) P.length (nodes P) := owns_same hrh.out fun j hj => by
    have e : some pg = some j := hj
    injection e with e
    subst e
    exact hk3 pg hpgw hgl hga
  have d0 := hC3.blk.c0
  have d1 : w3.cell? ⟨g2, n, none⟩ = some (.slice none 0 0) := owns_cell hrow3 (by rw [← hvl.out]; simp)
  have d2 := hp3.c0
  have hcells : Hid (∀ (j : Nat) y, (nodes P)[j]? = some y → w3.drew.cell? ((⟨pg, 0, none⟩ : Addr).add j) = some y) := hr3.cells rfl
  have hgp : g2 ≠ pb := fun e => by
    rcases hb3 g2 rfl with e' | e'
    · exact hpa (e ▸ e')
    · omega
  have hfill := Lib.hid fun (w6 : World) (g m : Nat) (hg : w3.drew.grownBy w6 none) (ho : w6.ownsRow A 104 1 (.slice (some ⟨g, 0, none⟩) P.length m) P.length (nodes P)) (hgw : w3.heap.size ≤ g) =>
    (CLAt.fill (w := w3.drew) (vs := vs) (L := L) (hC3.same fun _ _ => rfl) hnh.out hvl.out hg ho hgw)
  have hp6 := Lib.hid fun (w6 : World) (hg : w3.drew.grownBy w6 none) (x : Value) => show VBlk (w6.setCell ⟨g2, n, none⟩ x) pb 89 (.slice (some ⟨pg, 0, none⟩) P.length cp) from
    (Below.heap_setCell _ _ _ _ (show pb ≠ g2 from fun e => hgp e.symm)).trans ((hg.block pb hp3.lt (by simp)).trans hp3)
  have hn1 : (n : Int) + 1 - 1 = (n : Int) := by omega
  have hnl : (n : Int) < (n : Int) + 1 := by omega
  have hwn : IntKind.i64.wrap (n : Int) = (n : Int) := by rw [IntKind.wrap_i64]; omega
  have hAz : A ≤ w3.heap.size := by omega
  have hn0 : (0 : Int) ≤ (n : Int) := by omega
  have hcp0 : (0 : Int) ≤ (cp : Int) := by omega
  have hC3h := Lib.hid hC3
  have hk3h := Lib.hid hk3
  have hb3h := Lib.hid hb3
  have hosh := Lib.hid (And.intro hos3 (And.intro htp3 hop3))
  have hp3l := hp3.lt
  clear hC3 hk3 hb3 hos3 htp3 hop3 hrow3 hp3 hr3 hw3 q2 q3 q4 hstep c0 ho
  have hlb3 : lb < w3.drew.heap.size := show lb < w3.heap.size by omega
  go_wp2_with fail
  go_cut [] from 5 to 17 (fun wx => ∃ g6 c6, CLAt wx A lb (.slice (some ⟨g2, 0, none⟩) (n + 1) c2) (vs ++ [.slice (some ⟨g6, 0, none⟩) P.length c6]) (L ++ [P]) ∧ VBlk wx pb 89 (.slice (some ⟨pg, 0, none⟩) P.length cp) ∧ w3.heap.size ≤ g6 ∧ w3.heap.size ≤ wx.heap.size ∧ wx.os = w3.os ∧ wx.tape = w3.tape ∧ wx.output = w3.output ∧ ∀ j, j < w3.heap.size → j ≠ g2 → wx.heap[j]? = w3.heap[j]?)
  case first =>
    refine wp_region_noPanic ?_
    refine wp_region_held_drew (S := fun w' => w'.cell? ⟨lb, 0, none⟩ = some (.slice (some ⟨g2, 0, none⟩) (n + 1) c2) ∧ w'.cell? ⟨pb, 0, none⟩ = some (.slice (some ⟨pg, 0, none⟩) P.length cp)) (by kernel_rfl) ?_ (fun hHeld => ?_)
    · (try dsimp only); exact ⟨d0, d2⟩
    refine wpAnyH_take (i := 0) (oi := _) (v := ?_) rfl (by kernel_rfl) (by kernel_rfl) (by kernel_rfl) (fun _ _ _ h => h) (Or.inl ⟨by rfl, ?_⟩) (by assumption) ?_
    rotate_left
    · intro w hSw; (try dsimp only at hSw); obtain ⟨hSa, hSb⟩ := hSw; go_simp; try with_reducible rfl
    try simp only [Act.put, List.setIfInBounds_toArray, List.set_cons_zero, List.set_cons_succ]
    refine wpAnyH_take (i := 1) (oi := _) (v := ?_) rfl (by kernel_rfl) (by kernel_rfl) (by kernel_rfl) (fun _ _ _ h => h) (Or.inl ⟨by rfl, ?_⟩) (by assumption) ?_
    rotate_left
    · intro w hSw; (try dsimp only at hSw); obtain ⟨hSa, hSb⟩ := hSw; go_simp; try with_reducible rfl
    try simp only [Act.put, List.setIfInBounds_toArray, List.set_cons_zero, List.set_cons_succ]
    refine wpAnyH_take (i := 2) (oi := _) (v := ?_) rfl (by kernel_rfl) (by kernel_rfl) (by kernel_rfl) (fun _ _ _ h => h) (Or.inl ⟨by rfl, ?_⟩) (by assumption) ?_
    rotate_left
    · intro w hSw; (try dsimp only at hSw); obtain ⟨hSa, hSb⟩ := hSw; go_simp; try with_reducible rfl
    try simp only [Act.put, List.setIfInBounds_toArray, List.set_cons_zero, List.set_cons_succ]
    refine wpAnyH_take (i := 3) (oi := _) (v := ?_) rfl (by kernel_rfl) (by kernel_rfl) (by kernel_rfl) (fun _ _ _ h => h) (Or.inl ⟨by rfl, ?_⟩) (by assumption) ?_
    rotate_left
    · intro w hSw; (try dsimp only at hSw); obtain ⟨hSa, hSb⟩ := hSw; go_simp; try with_reducible rfl
    try simp only [Act.put, List.setIfInBounds_toArray, List.set_cons_zero, List.set_cons_succ]
    refine wpAnyH_take (i := 4) (oi := _) (v := ?_) rfl (by kernel_rfl) (by kernel_rfl) (by kernel_rfl) (fun _ _ _ h => h) (Or.inl ⟨by rfl, ?_⟩) (by assumption) ?_
    rotate_left
    · intro w hSw; (try dsimp only at hSw); obtain ⟨hSa, hSb⟩ := hSw; go_simp; try with_reducible rfl
    try simp only [Act.put, List.setIfInBounds_toArray, List.set_cons_zero, List.set_cons_succ]
    refine wpAnyH_take (i := 5) (oi := _) (v := ?_) rfl (by kernel_rfl) (by kernel_rfl) (by kernel_rfl) (fun _ _ _ h => h) (Or.inl ⟨by rfl, ?_⟩) (by assumption) ?_
    rotate_left
    · intro w hSw; (try dsimp only at hSw); obtain ⟨hSa, hSb⟩ := hSw; go_simp; try with_reducible rfl
    try simp only [Act.put, List.setIfInBounds_toArray, List.set_cons_zero, List.set_cons_succ]
    refine wpAnyH_take (i := 6) (oi := _) (v := ?_) rfl (by kernel_rfl) (by kernel_rfl) (by kernel_rfl) (fun _ _ _ h => h) (Or.inl ⟨by rfl, ?_⟩) (by assumption) ?_
    rotate_left
    · intro w hSw; (try dsimp only at hSw); obtain ⟨hSa, hSb⟩ := hSw; go_simp; try with_reducible rfl
    try simp only [Act.put, List.setIfInBounds_toArray, List.set_cons_zero, List.set_cons_succ]
    refine wpAnyH_take (i := 7) (oi := _) (v := ?_) rfl (by kernel_rfl) (by kernel_rfl) (by kernel_rfl) (fun _ _ _ h => h) (Or.inl ⟨by rfl, ?_⟩) (by assumption) ?_
    rotate_left
    · intro w hSw; (try dsimp only at hSw); obtain ⟨hSa, hSb⟩ := hSw; go_simp; try with_reducible rfl
    try simp only [Act.put, List.setIfInBounds_toArray, List.set_cons_zero, List.set_cons_succ]
    refine wpAnyH_take (i := 8) (oi := _) (v := ?_) rfl (by kernel_rfl) (by kernel_rfl) (by kernel_rfl) (fun _ _ _ h => h) (Or.inl ⟨by rfl, ?_⟩) (by assumption) ?_
    rotate_left
    · intro w hSw; (try dsimp only at hSw); obtain ⟨hSa, hSb⟩ := hSw; go_simp; try with_reducible rfl
    try simp only [Act.put, List.setIfInBounds_toArray, List.set_cons_zero, List.set_cons_succ]
    refine wpAnyH_take (i := 10) (oi := _) (v := ?_) rfl (by kernel_rfl) (by kernel_rfl) (by kernel_rfl) (fun _ _ _ h => h) (Or.inl ⟨by rfl, ?_⟩) (by assumption) ?_
    rotate_left
    · intro w hSw; (try dsimp only at hSw); obtain ⟨hSa, hSb⟩ := hSw; go_simp; try with_reducible rfl
    try simp only [Act.put, List.setIfInBounds_toArray, List.set_cons_zero, List.set_cons_succ]
    refine wpAnyH_ready (rs := [9]) (by kernel_rfl) (by simp) ?_
    refine AllReadyH.cons (o := _) rfl (fun K hK => ?_) AllReadyH.nil
    go_simp
    refine hK.out _ _ ?_ (fun hHeld => ?_)
    · (try dsimp only); exact ⟨d0, d2⟩
    clear hK K
    try simp only [Act.put, List.setIfInBounds_toArray, List.set_cons_zero, List.set_cons_succ]
    refine wpAnyH_ready (rs := [11]) (by kernel_rfl) (by simp) ?_
    refine AllReadyH.cons (o := _) rfl (fun K hK => ?_) AllReadyH.nil
    refine step_append_lies _ rfl (.tmp 14) (.tmp 15) 89 rfl A 104 i0 .nilIface 1 16 Tryz.underlying89 hi0 hz0 hz1 hz2 rfl (by omega) (.slice none 0 0) 0 [] rfl (World.ownsRow_nil _ _ _ _) ⟨pg, 0, none⟩ P.length cp (nodes P) rfl (by rw [nodes_length, Nat.mul_one]) hcells.out (fun u hu => by obtain ⟨z, _, rfl⟩ := List.mem_map.1 hu; rfl) (by omega) (by unfold maxLen; omega) (by omega) (by show A ≤ w3.heap.size; omega) w3.heap.size rfl ?_
    intro g6 c6 w6 hown6 hg6 hat6 _
    rw [Nat.zero_add] at hown6 ⊢
    have hge : w3.heap.size ≤ g6 := hat6.elim (fun h => absurd h (by simp [Value.ownBlock])) (fun h => by omega)
    obtain ⟨s1, s2, s3⟩ := hfill.out w6 g6 c6 hg6 hown6 hge
    have s4 := fun x => (hp6.out w6 hg6 x).c0
    have s6 := Lib.hid fun x => hp6.out w6 hg6 x
    have s7 : w6.cell? ⟨lb, 0, none⟩ = some (.slice (some ⟨g2, 0, none⟩) (n + 1) c2) := by (rw [World.cell?_of_block (hg6.block lb hlb3 (by simp [Value.ownBlock]))]; exact d0)
    have s8 : w6.cell? ⟨pb, 0, none⟩ = some (.slice (some ⟨pg, 0, none⟩) P.length cp) := by (rw [World.cell?_of_block (hg6.block pb hp3l (by simp [Value.ownBlock]))]; exact d2)
    have s9 := s3.out.1.blk.c0
    have hg6h := Lib.hid hg6
    clear hown6 hg6 hat6
    refine hK.out _ _ ?_ (fun hHeld => ?_)
    · (try dsimp only); exact ⟨s7, s8⟩
    clear hK K
    try simp only [Act.put, List.setIfInBounds_toArray, List.set_cons_zero, List.set_cons_succ]
    refine wpAnyH_take (i := 12) (oi := _) (v := ?_) rfl (by kernel_rfl) (by kernel_rfl) (by kernel_rfl) (fun _ _ _ h => h) (Or.inl ⟨by rfl, ?_⟩) (by assumption) ?_
    rotate_left
    · intro w hSw; (try dsimp only at hSw); obtain ⟨hSa, hSb⟩ := hSw; go_simp; try with_reducible rfl
    try simp only [Act.put, List.setIfInBounds_toArray, List.set_cons_zero, List.set_cons_succ]
    refine wpAnyH_ready (rs := [13]) (by kernel_rfl) (by simp) ?_
    refine AllReadyH.cons (o := _) rfl (fun K hK => ?_) AllReadyH.nil
    go_simp
    refine hK.out _ _ ?_ (fun hHeld => ?_)
    · (try dsimp only); exact ⟨s9, s4 _⟩
    clear hK K
    try simp only [Act.put, List.setIfInBounds_toArray, List.set_cons_zero, List.set_cons_succ]
    refine wpAnyH_done (by kernel_rfl) ?_ _
    refine NoPanic.normal ?_
    try simp only [List.getElem_toArray, List.getElem_cons_succ, List.getElem_cons_zero, List.setIfInBounds_toArray, List.set_cons_zero, List.set_cons_succ]
    go_wp2_with fail
    go_meet
    exact ⟨g6, c6, s3.out.1, s6.out _, hge, by simp [World.setCell]; exact hg6h.out.size, hg6h.out.os, hg6h.out.tape, hg6h.out.output, fun j h1 h2 => s3.out.2 j h1 h2⟩
  case rest =>
  obtain ⟨g6, c6, hC5, hp5, hge, hz5, hos5, htp5, hop5, hk5⟩ := hcut
  have e0 := hp5.c0
  have ef := hp5.free 0
  have hfin : Hid (CAfterPost w A lb pb a n c (some ⟨pg, 0, none⟩) cp vs L P (.returned (.tuple #[])) (wc.setCell ⟨pb, 0, none⟩ (.slice (some ⟨pg, 0, none⟩) 0 cp))) := by
    have hset : ∀ j, j ≠ pb → (wc.setCell ⟨pb, 0, none⟩ (.slice (some ⟨pg, 0, none⟩) 0 cp)).heap[j]? = wc.heap[j]? := fun j hj => Below.heap_setCell _ _ _ _ hj
    have hzw : w.heap.size ≤ wc.heap.size := by omega
    refine ⟨rfl, some ⟨g2, 0, none⟩, c2, g6, c6, hC5.same fun j hj => hset j fun e => ?_, hp5.set _, by omega, ⟨?_, ?_, ?_, by simp [World.setCell]; omega, fun j hj hn => ?_, fun j hj => ?_⟩, hb3h.out⟩
    · subst e
      rcases mem_cfoot.1 hj with e | e | e
      · exact hne e.symm
      · have e' : some g2 = some j := e
        injection e' with e'
        exact hgp e'
      · rcases blks_add.1 e with e | e
        · exact hvb.out e
        · have e' : some g6 = some j := e
          injection e' with e'
          omega
    · exact hos5.trans hosh.out.1
    · exact htp5.trans hosh.out.2.1
    · exact hop5.trans hosh.out.2.2
    · simp only [List.mem_cons, not_or] at hn
      have hna : (Value.slice a n c).ownBlock ≠ some j := fun e => hn.2.2 (by rw [e]; simp)
      have hj2 : j ≠ g2 := fun e => by
        rcases hb3h.out g2 rfl with e' | e'
        · exact hna (e ▸ e')
        · omega
      exact (hset j hn.2.1).trans ((hk5 j (by omega) hj2).trans (hk3h.out j hj hn.1 hna))
    · simp only [List.mem_cons] at hj ⊢
      rcases hj with e | e | e | e
      · exact .inr (by omega)
      · exact .inl (.inl e)
      · exact .inl (.inr (.inl e))
      · have e' : j = g2 := by simpa [Value.ownBlock] using e
        rcases hb3h.out g2 rfl with e2 | e2
        · exact .inl (.inr (.inr (by rw [e2, e']; simp)))
        · exact .inr (by omega)
  clear hC5 hp5 hk5 hos5 htp5 hop5 hC3h hk3h hb3h hosh
  go_wp2_with fail
  go_end0
  exact hfin.out
end Go.Proofs.YtanbhibllilccaaGreat
