/- DepthFirst.WalkAll and impl.WalkAll: Reset, Visited, and what is done behind each walk. -/
import Derived.Test.YtgbihghaoapgiaaGreatDfsWalk
import Derived.Test.YtgbihghaoapgiaaGreatIRows
import Derived.Deep.RegionHeld3
namespace Go.Proofs.YtgbihghaoapgiaaGreat
open Go.RowKit

set_option maxHeartbeats 1000000 in
theorem dreset_any (tb : Nat) (fv ft : Value) (w : World) (h : DBlk w tb fv ft (.slice none 0 0) (.map none)) :
    Calls Tryz.prog 100 #[.pointer (some ⟨tb, 0, none⟩)] w
      fun e w' => e = .returned (.tuple #[]) ∧ DBlk w' tb fv ft (.slice none 0 0) (.map none) ∧ Moves [tb] w [tb] w' := by
  have c2 := h.c2
  have c3 := h.c3
  have f2 := h.free 2
  have f3 := h.free 3
  have h1 := h.set2 (.slice none 0 0)
  have c31 := h1.c3
  have f31 := h1.free 3
  have h2 := h1.set3 (.map none)
  have hfin : Hid (DBlk ((w.setCell ⟨tb, 2, none⟩ (.slice none 0 0)).setCell ⟨tb, 3, none⟩ (.map none)) tb fv ft (.slice none 0 0) (.map none) ∧ Moves [tb] w [tb] ((w.setCell ⟨tb, 2, none⟩ (.slice none 0 0)).setCell ⟨tb, 3, none⟩ (.map none))) :=
    ⟨h2, (Moves.of_setCell w _ (by simp)).trans (Moves.of_setCell _ _ (by simp))⟩
  clear h h1 h2
  go_enter Tryz.func100, Tryz.ntmps100
  go_wp2
  go_end0
  exact ⟨rfl, hfin.out⟩

theorem wpList_lookup_nil {P : Program} (w : World) {ops : Array Oper} {rest : List Oper} {o : Oper} {a : Act} {Q : Exit → Act → World → Prop} (hg : o.guard = none) (m x : Operand) (t : TypeId) (hop : o.op = Op.lookup t m x true)
    (hm : a.eval m = .map none) (key z : Value) (hx : a.eval x = key) (hrun : (Instr.lookup t (.map none) key true).run P w = .ok (.tuple #[z, .bool false]) w)
    (hK : wpList P ops Q rest (a.put o.dst (.tuple #[z, .bool false])) w) : wpList P ops Q (o :: rest) a w := by
  refine wpList_plain hg fun K' hK' => ?_
  unfold Oper.wp
  simp [execOp, hop, hm, hx, hrun, Result.andThen]
  exact hK' _ _ hK

theorem setHasNil_any (x : Int) (w : World) (hx : In64 x) :
    Calls Tryz.prog 79 #[.map none, .int .i64 x] w fun e w' => e = .returned (.bool false) ∧ ∃ o, w' = w.alloc o := by
  have hkey : keyOf Tryz.prog 2 (.int .i64 x) = some (.int .i64 x) := Maps.keyOf_int_mk Tryz.underlying2 hx
  have hnil : ∀ W : World, (Instr.lookup 80 (.map none) (.int .i64 x) true).run Tryz.prog W = .ok (.tuple #[.agg #[], .bool false]) W := fun W => Maps.look_nil (w := W) true keyed64 Tryz.underlying80 (Tryz.zeroValue169 W) hkey
  have hnilh := Lib.hid hnil
  clear hnil hkey
  go_enter Tryz.func79, Tryz.ntmps79
  go_wp2_with (at_lookup; refine wpList_lookup_nil _ rfl _ _ 80 rfl rfl _ (.agg #[]) rfl (hnilh.out _) ?_)
  go_ret
  exact ⟨rfl, _, rfl⟩

/-- Lists of numbers in a variable. -/
structure LAt (w : World) (A lb : Nat) (la : Value) (vs : List Value) (L : List (List Int)) : Prop where
  blk : VBlk w lb 46 la
  row : w.ownsRow A 22 1 la L.length vs
  rows : IRows w A vs L
  ap : ∀ j, la.ownBlock = some j → j ∉ blks vs ∧ j ≠ lb
  lbn : lb ∉ blks vs

/-- The blocks of the lists. -/
def lfoot (lb : Nat) (la : Value) (vs : List Value) : List Nat := lb :: la.ownBlock.toList ++ blks vs
theorem mem_lfoot {j lb : Nat} {la : Value} {vs : List Value} : j ∈ lfoot lb la vs ↔ j = lb ∨ la.ownBlock = some j ∨ j ∈ blks vs := by
  unfold lfoot
  cases h1 : la.ownBlock <;> simp [eq_comm]

section
variable {w w' : World} {A lb : Nat} {la : Value} {vs : List Value} {L : List (List Int)}
theorem LAt.same (h : LAt w A lb la vs L) (hk : ∀ j ∈ lfoot lb la vs, w'.heap[j]? = w.heap[j]?) : LAt w' A lb la vs L :=
  ⟨(hk lb (mem_lfoot.2 (.inl rfl))).trans h.blk, owns_same h.row fun j hj => hk j (mem_lfoot.2 (.inr (.inl hj))), h.rows.same fun j hj => hk j (mem_lfoot.2 (.inr (.inr hj))), h.ap, h.lbn⟩
theorem LAt.lt (h : LAt w A lb la vs L) : ∀ j ∈ lfoot lb la vs, j < w.heap.size := fun j hj => by
  rcases mem_lfoot.1 hj with e | e | e
  · rw [e]; exact h.blk.lt
  · exact (h.row.lt j e).2
  · exact (h.rows.lt j e).2
theorem LAt.moves {S S' : List Nat} (h : LAt w A lb la vs L) (m : Moves S w S' w') (hS : ∀ j ∈ lfoot lb la vs, j ∉ S) : LAt w' A lb la vs L :=
  h.same fun j hj => m.block j (h.lt j hj) (hS j hj)
end

set_option maxHeartbeats 2000000 in
/-- The function that is called behind each walk. -/
theorem dafter_any (A lb pb : Nat) (a : Option Addr) (n c : Nat) (ap : Option Addr) (cp : Nat) (vs : List Value) (L : List (List Int)) (P : List Int) (w : World) (hn : n = L.length) (hn2 : n ≤ 1000) (h : LAt w A lb (.slice a n c) vs L)
    (hp : VBlk w pb 22 (.slice ap P.length cp)) (hr : w.ownsRow A 3 1 (.slice ap P.length cp) P.length (ints P)) (hA : A ≤ w.heap.size) (hpl : pb ∉ lfoot lb (.slice a n c) vs) (hrl : ∀ j, (Value.slice ap P.length cp).ownBlock = some j → j ∉ lfoot lb (.slice a n c) vs ∧ j ≠ pb) :
    Calls Tryz.prog 60 #[.pointer (some ⟨lb, 0, none⟩), .pointer (some ⟨pb, 0, none⟩)] w
      fun e w' => e = .returned (.tuple #[]) ∧ ∃ a1 c1, LAt w' A lb (.slice a1 (n + 1) c1) (vs ++ [.slice ap P.length cp]) (L ++ [P]) ∧ VBlk w' pb 22 (.slice none 0 0) ∧
        Moves (lb :: pb :: (Value.slice a n c).ownBlock.toList) w (lb :: pb :: (Value.slice a1 (n + 1) c1).ownBlock.toList) w' ∧ ∀ j, (Value.slice a1 (n + 1) c1).ownBlock = some j → (Value.slice a n c).ownBlock = some j ∨ w.heap.size ≤ j := by
  subst hn
  have c0 := h.blk.c0
  have p0 := hp.c0
  have hlb := h.blk.lt
  have hpb := hp.lt
  have hne : lb ≠ pb := fun e => hpl (mem_lfoot.2 (.inl e.symm))
  have ho : Hid (∀ o, (w.alloc o).ownsRow A 22 1 (.slice a L.length c) L.length vs) := fun o => h.row.alloc o
  have hfin : Hid (∀ o w2 b2 c2, (w.alloc o).grownBy w2 (Value.slice a L.length c).ownBlock → w2.ownsRow A 22 1 (.slice b2 (L.length + 1) c2) (L.length + 1) (vs ++ [.slice ap P.length cp]) → (b2 = a ∨ b2 = some ⟨(w.alloc o).heap.size, 0, none⟩) →
      w2.cell? ⟨lb, 0, none⟩ = some (.slice a L.length c) ∧ w2.frozen? ⟨lb, 0, none⟩ = false ∧ (∀ v, (w2.setCell ⟨lb, 0, none⟩ v).cell? ⟨pb, 0, none⟩ = some (.slice ap P.length cp) ∧ (w2.setCell ⟨lb, 0, none⟩ v).frozen? ⟨pb, 0, none⟩ = false) ∧
      Hid (LAt ((w2.setCell ⟨lb, 0, none⟩ (.slice b2 (L.length + 1) c2)).setCell ⟨pb, 0, none⟩ (.slice none 0 0)) A lb (.slice b2 (L.length + 1) c2) (vs ++ [.slice ap P.length cp]) (L ++ [P]) ∧
        VBlk ((w2.setCell ⟨lb, 0, none⟩ (.slice b2 (L.length + 1) c2)).setCell ⟨pb, 0, none⟩ (.slice none 0 0)) pb 22 (.slice none 0 0) ∧
        Moves (lb :: pb :: (Value.slice a L.length c).ownBlock.toList) w (lb :: pb :: (Value.slice b2 (L.length + 1) c2).ownBlock.toList) ((w2.setCell ⟨lb, 0, none⟩ (.slice b2 (L.length + 1) c2)).setCell ⟨pb, 0, none⟩ (.slice none 0 0)) ∧
        ∀ j, (Value.slice b2 (L.length + 1) c2).ownBlock = some j → (Value.slice a L.length c).ownBlock = some j ∨ w.heap.size ≤ j)) := fun o w2 b2 c2 hg hown hat => by
    have hz : (w.alloc o).heap.size = w.heap.size + 1 := by simp
    have hk : ∀ j, j < w.heap.size → (Value.slice a L.length c).ownBlock ≠ some j → w2.heap[j]? = w.heap[j]? := fun j hj hn => by
      rw [hg.block j (by omega) (fun e => hn e.symm), Below.heap_alloc _ _ _ hj]
    have hsz : w.heap.size ≤ w2.heap.size := by have := hg.size; omega
    have hnew : ∀ j, (Value.slice b2 (L.length + 1) c2).ownBlock = some j → (Value.slice a L.length c).ownBlock = some j ∨ w.heap.size ≤ j := by
      intro j hj
      rcases hat with rfl | rfl
      · left; cases b2 <;> exact hj
      · right
        simp only [Value.ownBlock] at hj
        injection hj with hj
        omega
    have hla : (Value.slice a L.length c).ownBlock ≠ some lb := fun e => (h.ap lb e).2 rfl
    have hpa : (Value.slice a L.length c).ownBlock ≠ some pb := fun e => hpl (mem_lfoot.2 (.inr (.inl e)))
    have b1 : VBlk w2 lb 46 (.slice a L.length c) := (hk lb hlb hla).trans h.blk
    have b2' : VBlk w2 pb 22 (.slice ap P.length cp) := (hk pb hpb hpa).trans hp
    have b3 : ∀ v, VBlk (w2.setCell ⟨lb, 0, none⟩ v) pb 22 (.slice ap P.length cp) := fun v => (Below.heap_setCell _ _ _ _ (show pb ≠ lb from fun e => hne e.symm)).trans b2'
    have hw3 : ∀ j, j ≠ lb → j ≠ pb → ((w2.setCell ⟨lb, 0, none⟩ (.slice b2 (L.length + 1) c2)).setCell ⟨pb, 0, none⟩ (.slice none 0 0)).heap[j]? = w2.heap[j]? := fun j h1 h2 =>
      (Below.heap_setCell _ _ _ _ (show j ≠ pb from h2)).trans (Below.heap_setCell _ _ _ _ (show j ≠ lb from h1))
    have hbn : ∀ j, (Value.slice b2 (L.length + 1) c2).ownBlock = some j → j ≠ lb ∧ j ≠ pb := fun j hj => by
      rcases hnew j hj with e | e
      · exact ⟨(h.ap j e).2, fun e' => hpl (mem_lfoot.2 (.inr (.inl (e' ▸ e))))⟩
      · exact ⟨by omega, by omega⟩
    have hvn : ∀ j ∈ blks vs, j ≠ lb ∧ j ≠ pb ∧ (Value.slice a L.length c).ownBlock ≠ some j := fun j hj =>
      ⟨fun e => h.lbn (e ▸ hj), fun e => hpl (mem_lfoot.2 (.inr (.inr (e ▸ hj)))), fun e => (h.ap j e).1 hj⟩
    refine ⟨b1.c0, b1.free 0, fun v => ⟨(b3 v).c0, (b3 v).free 0⟩, ⟨?_, ?_, ?_, fun j hj => ⟨fun hm => ?_, (hbn j hj).1⟩, fun hm => ?_⟩, (b3 _).set _, ?_, hnew⟩
    · exact (Below.heap_setCell _ _ _ _ (show lb ≠ pb from hne)).trans (b1.set _)
    · rw [List.length_append, List.length_singleton]
      exact owns_same hown fun j hj => hw3 j (hbn j hj).1 (hbn j hj).2
    · refine IRows.more (h.rows.same fun j hj => ?_) (owns_same hr fun j hj => ?_)
      · have := hvn j hj
        exact (hw3 j this.1 this.2.1).trans (hk j (h.rows.lt j hj).2 this.2.2)
      · have h1 := hrl j hj
        exact (hw3 j (fun e => h1.1 (mem_lfoot.2 (.inl e))) h1.2).trans (hk j (hr.lt j hj).2 (fun e => h1.1 (mem_lfoot.2 (.inr (.inl e)))))
    · rcases hnew j hj with e | e
      · obtain ⟨v, hv, hvj⟩ := List.mem_filterMap.1 hm
        rcases List.mem_append.1 hv with hv | hv
        · exact (h.ap j e).1 (List.mem_filterMap.2 ⟨v, hv, hvj⟩)
        · rw [List.mem_singleton.1 hv] at hvj
          exact (hrl j hvj).1 (mem_lfoot.2 (.inr (.inl e)))
      · obtain ⟨v, hv, hvj⟩ := List.mem_filterMap.1 hm
        rcases List.mem_append.1 hv with hv | hv
        · have := (h.rows.lt j (List.mem_filterMap.2 ⟨v, hv, hvj⟩)).2; omega
        · rw [List.mem_singleton.1 hv] at hvj
          have := (hr.lt j hvj).2; omega
    · obtain ⟨v, hv, hvj⟩ := List.mem_filterMap.1 hm
      rcases List.mem_append.1 hv with hv | hv
      · exact h.lbn (List.mem_filterMap.2 ⟨v, hv, hvj⟩)
      · rw [List.mem_singleton.1 hv] at hvj
        exact (hrl lb hvj).1 (mem_lfoot.2 (.inl rfl))
    · refine ⟨hg.os, hg.tape, hg.output, by simp [World.setCell]; omega, fun j hj hn => ?_, fun j hj => ?_⟩
      · simp only [List.mem_cons, not_or] at hn
        refine (hw3 j hn.1 hn.2.1).trans (hk j hj fun e => hn.2.2 ?_)
        rw [e]; simp
      · simp only [List.mem_cons] at hj ⊢
        rcases hj with e | e | e
        · exact .inl (.inl e)
        · exact .inl (.inr (.inl e))
        · have e' : (Value.slice b2 (L.length + 1) c2).ownBlock = some j := by
            cases hb : (Value.slice b2 (L.length + 1) c2).ownBlock with
            | none => rw [hb] at e; cases e
            | some q => rw [hb] at e; rw [List.mem_singleton.1 e]
          rcases hnew j e' with e2 | e2
          · exact .inl (.inr (.inr (by rw [e2]; simp)))
          · exact .inr e2
  clear h hp hr hpl hrl hlb hpb hne
  go_enter Tryz.func60, Tryz.ntmps60
  go_wp2_with (at_builtin; refine append_law 46 22 (.slice none 0 0) 1 24 Tryz.underlying46 info_irow rfl (by omega) (by omega) rfl _ _ rfl A a L.length c vs rfl (unhide ho _) ⟨w.heap.size, 0, none⟩ 1 1 [.slice ap P.length cp] rfl rfl (new_one w _ _) (by simp [Value.oneCell']) (by omega) (by simp; omega) ?_; intro b2 c2 w2 hown2 hg2 hat2; obtain ⟨q1, q2, q3, q4⟩ := hfin.out _ _ _ _ hg2 hown2 hat2; have q5 := fun v => (q3 v).1; have q6 := fun v => (q3 v).2; clear hown2 hg2 hat2 q3)
  go_end0
  exact ⟨rfl, _, _, q4.out⟩
end Go.Proofs.YtgbihghaoapgiaaGreat
