/- DepthFirst.WalkAll as ConnectedComponents calls it: the state between two walks. -/
import Derived.Test.YtanbhibllilccaaGreatCcAfter
namespace Go.Proofs.YtanbhibllilccaaGreat
open Go.RowKit

set_option maxHeartbeats 1000000 in
theorem dreset_any (tb : Nat) (fv ft : Value) (w : World) (h : DBlk w tb fv ft (.slice none 0 0) (.map none)) :
    Calls Tryz.prog 60 #[.pointer (some ⟨tb, 0, none⟩)] w
      fun e w' => e = .returned (.tuple #[]) ∧ DBlk w' tb fv ft (.slice none 0 0) (.map none) ∧ Moves [tb] w [tb] w' := by
  have c2 := h.c2
  have c3 := h.c3
  have f2 := h.free 2
  have f3 := h.free 3
  have h1 := h.set2 (.slice none 0 0)
  have c31 := h1.c3
  have f31 := h1.free 3
  have h2 := h1.set3 (.map none)
  have hfin : Hid (DBlk ((w.setCell ⟨tb, 2, none⟩ (.slice none 0 0)).setCell ⟨tb, 3, none⟩ (.map none)) tb fv ft (.slice none 0 0) (.map none) ∧ Moves [tb] w [tb] ((w.setCell ⟨tb, 2, none⟩ (.slice none 0 0)).setCell ⟨tb, 3, none⟩ (.map none))) :=
    ⟨h2, (Moves.of_setCell w _ (by simp)).trans (Moves.of_setCell _ _ (by simp))⟩
  clear h h1 h2
  go_enter Tryz.func60, Tryz.ntmps60
  go_wp2
  go_end0
  exact ⟨rfl, hfin.out⟩

theorem wpList_lookup_nil {P : Program} (w : World) {ops : Array Oper} {rest : List Oper} {o : Oper} {a : Act} {Q : Exit → Act → World → Prop} (hg : o.guard = none) (m x : Operand) (t : TypeId) (hop : o.op = Op.lookup t m x true)
    (hm : a.eval m = .map none) (key z : Value) (hx : a.eval x = key) (hrun : (Instr.lookup t (.map none) key true).run P w = .ok (.tuple #[z, .bool false]) w)
    (hK : wpList P ops Q rest (a.put o.dst (.tuple #[z, .bool false])) w) : wpList P ops Q (o :: rest) a w := by
  refine wpList_plain hg fun K' hK' => ?_
  unfold Oper.wp
  simp [execOp, hop, hm, hx, hrun, Result.andThen]
  exact hK' _ _ hK

theorem setHasNil_any (x : Int) (w : World) (hx : In64 x) :
    Calls Tryz.prog 90 #[.map none, .int .i64 x] w fun e w' => e = .returned (.bool false) ∧ ∃ o, w' = w.alloc o := by
  have hkey : keyOf Tryz.prog 2 (.int .i64 x) = some (.int .i64 x) := Maps.keyOf_int_mk Tryz.underlying2 hx
  have hnil : ∀ W : World, (Instr.lookup 100 (.map none) (.int .i64 x) true).run Tryz.prog W = .ok (.tuple #[.agg #[], .bool false]) W := fun W => Maps.look_nil (w := W) true keyed64 Tryz.underlying100 (Tryz.zeroValue206 W) hkey
  have hnilh := Lib.hid hnil
  clear hnil hkey
  go_enter Tryz.func90, Tryz.ntmps90
  go_wp2_with (at_lookup; refine wpList_lookup_nil _ rfl _ _ 100 rfl rfl _ (.agg #[]) rfl (hnilh.out _) ?_)
  go_ret
  exact ⟨rfl, _, rfl⟩

theorem DStart.same {w w' : World} {ids : List Int} {A tb pb : Nat} {O : List Int} {F0 : List Nat} {x0 : Option Nat} (h : DStart w ids A tb pb O F0 x0) (hk : ∀ j ∈ F0, w'.heap[j]? = w.heap[j]?) (hs : w.heap.size ≤ w'.heap.size) : DStart w' ids A tb pb O F0 x0 := by
  rcases h with ⟨h1, h2, rfl, h4, h5, h6⟩ | ⟨mb, B, a, c, ap, cp, h1, h2, rfl⟩
  · exact .inl ⟨h1, h2, rfl, (hk tb (by simp)).trans h4, (hk pb (by simp)).trans h5, h6⟩
  · exact .inr ⟨mb, B, a, c, ap, cp, h1, h2.same hk hs, rfl⟩

/-- Between two walks. -/
structure WState (w0 w : World) (gb lo hi : Nat) (ids : List Int) (outs ins : List (List Arc)) (A tb pb lb db B2 E ib k q : Nat) (O : List Int) (F0 : List Nat) (x0 : Option Nat) (la : Value) (vs : List Value) (L : List (List Int)) : Prop where
  st : DStart w ids A tb pb O F0 x0
  set : ∀ x, x ∈ O ↔ x ∈ L.flatten
  lat : CLAt w A lb la vs L
  all : DAll (succOf ids outs) ids k L
  far : FarIn lo hi w gb ids outs ins
  dbv : VBlk w db 96 (noteC pb)
  it : IterAt w B2 E ib q ids
  f0 : ∀ j ∈ F0, A ≤ j ∧ j < w.heap.size ∧ (j < lo ∨ hi ≤ j) ∧ (j < B2 ∨ E ≤ j) ∧ j ≠ db ∧ j ∉ cfoot lb la vs
  fl : ∀ j ∈ cfoot lb la vs, A ≤ j ∧ (j < lo ∨ hi ≤ j) ∧ (j < B2 ∨ E ≤ j) ∧ j ≠ db
  fd : db < B2 ∨ E ≤ db
  low : Below A w0 w
  sz : E ≤ w.heap.size ∧ A ≤ w.heap.size ∧ hi ≤ B2
  fp : pb ∈ F0

section
variable {w0 w w' : World} {gb lo hi : Nat} {ids : List Int} {outs ins : List (List Arc)} {A tb pb lb db B2 E ib k q : Nat} {O : List Int} {F0 : List Nat} {x0 : Option Nat} {la : Value} {vs : List Value} {L : List (List Int)}

theorem WState.below (h : WState w0 w gb lo hi ids outs ins A tb pb lb db B2 E ib k q O F0 x0 la vs L) (hb : Below w.heap.size w w') : WState w0 w' gb lo hi ids outs ins A tb pb lb db B2 E ib k q O F0 x0 la vs L := by
  have hs := hb.size
  have hz := h.sz
  exact ⟨h.st.same (fun j hj => hb.block j (h.f0 j hj).2.1) hs, h.set, h.lat.same (fun j hj => hb.block j (h.lat.lt j hj)), h.all, h.far.below hb, (hb.block db h.dbv.lt).trans h.dbv, h.it.same (fun j _ hj => hb.block j (by omega)),
    fun j hj => by obtain ⟨h1, h2, h3⟩ := h.f0 j hj; exact ⟨h1, by omega, h3⟩, h.fl, h.fd, h.low.trans (hb.mono hz.2.1), ⟨by omega, by omega, hz.2.2⟩, h.fp⟩

/-- The iterator goes on. -/
theorem WState.next (h : WState w0 w gb lo hi ids outs ins A tb pb lb db B2 E ib k q O F0 x0 la vs L) (hg : w.grownBy w' (some ib)) {q' : Nat} (hi' : IterAt w' B2 E ib q' ids) (hlo : A ≤ B2) : WState w0 w' gb lo hi ids outs ins A tb pb lb db B2 E ib k q' O F0 x0 la vs L := by
  have hs := hg.size
  have hz := h.sz
  have hib1 := hi'.1
  have hib2 := hi'.2.1
  have hk : ∀ j, j < w.heap.size → (j < B2 ∨ E ≤ j) → w'.heap[j]? = w.heap[j]? := fun j hj hn => hg.block j hj (fun e => by injection e with e; omega)
  exact ⟨h.st.same (fun j hj => hk j (h.f0 j hj).2.1 (h.f0 j hj).2.2.2.1) hs, h.set, h.lat.same (fun j hj => hk j (h.lat.lt j hj) (h.fl j hj).2.2.1), h.all, h.far.keep hs (fun j _ hj => hk j (by have := h.far.1; omega) (by omega)),
    (hk db h.dbv.lt h.fd).trans h.dbv, hi', fun j hj => by obtain ⟨h1, h2, h3⟩ := h.f0 j hj; exact ⟨h1, by omega, h3⟩, h.fl, h.fd, h.low.grown hg hz.2.1 (fun j e => by injection e with e; omega), ⟨by omega, by omega, hz.2.2⟩, h.fp⟩

/-- A walk, and what is done behind it. -/
theorem WState.walked {w5 w6 w7 : World} (h : WState w0 w5 gb lo hi ids outs ins A tb pb lb db B2 E ib k q O F0 x0 la vs L) (hsym : ∀ x ∈ ids, ∀ y ∈ succOf ids outs x, y ∈ ids ∧ x ∈ succOf ids outs y) (hk : k < ids.length) (hm : ids[k] ∉ L.flatten)
    {mb B : Nat} {V : List Int} {a : Option Addr} {c : Nat} {ap : Option Addr} {cp g1 k1 : Nat} {la' : Value} (hw : DWalk (succOf ids outs) ids[k] V)
    (hD : DfsAt w6 ids A B tb mb pb .nilFunc .nilFunc 89 104 nodev (V.reverse ++ O) [] V (.slice a 0 c) (.slice ap V.length cp)) (hM : Moves F0 w5 (dfoot tb mb pb (.slice a 0 c) (.slice ap V.length cp)) w6)
    (hL : CLAt w7 A lb la' (vs ++ [.slice (some ⟨g1, 0, none⟩) V.length k1]) (L ++ [V])) (hp : VBlk w7 pb 89 (.slice ap 0 cp)) (hg1 : w6.heap.size ≤ g1) (hM7 : Moves (lb :: pb :: la.ownBlock.toList) w6 (g1 :: lb :: pb :: la'.ownBlock.toList) w7) (hla' : ∀ j, la'.ownBlock = some j → la.ownBlock = some j ∨ w6.heap.size ≤ j) :
    WState w0 w7 gb lo hi ids outs ins A tb pb lb db B2 E ib (k + 1) q (V.reverse ++ O) (dfoot tb mb pb (.slice a 0 c) (.slice ap 0 cp)) (some mb) la' (vs ++ [.slice (some ⟨g1, 0, none⟩) V.length k1]) (L ++ [V]) := by
  have hz := h.sz
  have s6 := hM.size
  have s7 := hM7.size
  have hlm : ∀ j ∈ cfoot lb la vs, j < w5.heap.size := h.lat.lt
  obtain ⟨pg, rfl, _⟩ := owns_at hD.prow (List.length_pos_iff.2 hw.ne)
  have hown : (Value.slice (some ⟨pg, 0, none⟩) 0 cp).ownBlock = (Value.slice (some ⟨pg, 0, none⟩) V.length cp).ownBlock := rfl
  -- the walk's blocks
  have hdf : ∀ j ∈ dfoot tb mb pb (.slice a 0 c) (.slice (some ⟨pg, 0, none⟩) V.length cp), A ≤ j ∧ j < w6.heap.size ∧ (j < lo ∨ hi ≤ j) ∧ (j < B2 ∨ E ≤ j) ∧ j ≠ db ∧ j ∉ cfoot lb la vs := fun j hj => by
    refine ⟨hD.footlow j hj, hD.footlt j hj, ?_⟩
    rcases hM.row j hj with e | e
    · exact ⟨(h.f0 j e).2.2.1, (h.f0 j e).2.2.2.1, (h.f0 j e).2.2.2.2.1, (h.f0 j e).2.2.2.2.2⟩
    · exact ⟨.inr (by have := h.far.1; omega), .inr (by omega), fun e' => by have := h.dbv.lt; omega, fun hm => by have := hlm j hm; omega⟩
  have hsub : ∀ j ∈ dfoot tb mb pb (.slice a 0 c) (.slice (some ⟨pg, 0, none⟩) 0 cp), j ∈ dfoot tb mb pb (.slice a 0 c) (.slice (some ⟨pg, 0, none⟩) V.length cp) := fun j hj => by
    rcases mem_dfoot.1 hj with e | e | e | e | e
    · exact mem_dfoot.2 (by simp [e])
    · exact mem_dfoot.2 (by simp [e])
    · exact mem_dfoot.2 (by simp [e])
    · exact mem_dfoot.2 (by simp [e])
    · exact mem_dfoot.2 (.inr (.inr (.inr (.inr (hown ▸ e)))))
  have htb : tb < B ∧ mb < B ∧ pb < B := ⟨hD.lts.1, hD.lts.2.1, hD.lts.2.2.1⟩
  have hblk : ∀ j ∈ blks (vs ++ [.slice (some ⟨g1, 0, none⟩) V.length k1]), j ∈ blks vs ∨ j = g1 := fun j hj => by
    rcases blks_add.1 hj with e | e
    · exact .inl e
    · have e' : some g1 = some j := e
      injection e' with e'
      exact .inr e'.symm
  have hk7 : ∀ j, j < w6.heap.size → j ∉ cfoot lb la vs → j ≠ pb → w7.heap[j]? = w6.heap[j]? := fun j hj hn hne => hM7.block j hj fun hm => by
    simp only [List.mem_cons] at hm
    rcases hm with e | e | e
    · exact hn (mem_cfoot.2 (.inl e))
    · exact hne e
    · refine hn (mem_cfoot.2 (.inr (.inl ?_)))
      cases hb : la.ownBlock with
      | none => rw [hb] at e; simp at e
      | some x => rw [hb] at e; simp at e; rw [e]
  have hdk : ∀ j ∈ dfoot tb mb pb (.slice a 0 c) (.slice (some ⟨pg, 0, none⟩) V.length cp), j ≠ pb → w7.heap[j]? = w6.heap[j]? := fun j hj hne => hk7 j (hdf j hj).2.1 (hdf j hj).2.2.2.2.2 hne
  have hkk : ∀ j, j < w5.heap.size → j ∉ F0 → j ∉ cfoot lb la vs → w7.heap[j]? = w5.heap[j]? := fun j hj h1 h2 => (hk7 j (by omega) h2 (fun e => h1 (e ▸ h.fp))).trans (hM.block j hj h1)
  have hrow7 : w7.ownsRow B 104 1 (.slice (some ⟨pg, 0, none⟩) V.length cp) V.length (V.map nodev) := owns_same hD.prow fun j hj => hdk j (mem_dfoot.2 (by simp [hj])) (by have := (hD.prow.lt j hj).1; omega)
  have hcut7 := owns_cut hrow7 (i := 0) (Nat.zero_le _)
  refine ⟨.inr ⟨mb, B, a, c, some ⟨pg, 0, none⟩, cp, rfl, ⟨?_, ?_, ?_, hp, by simpa using hcut7, ⟨htb.1, htb.2.1, htb.2.2, Nat.le_trans hD.lts.2.2.2 s7⟩, hD.low, hD.ne, fun j hj e => hD.ap j hj (hown ▸ e)⟩, rfl⟩, fun x => ?_, hL, h.all.more _ hsym hk hm hw, ?_, ?_, ?_, fun j hj => ?_, fun j hj => ?_, h.fd, ?_, ⟨by omega, by omega, hz.2.2⟩, mem_dfoot.2 (by simp)⟩
  · exact (hdk tb (mem_dfoot.2 (by simp)) hD.ne.2.1).trans hD.blk
  · exact owns_same hD.stk fun j hj => hdk j (mem_dfoot.2 (by simp [hj])) (by have := (hD.stk.lt j hj).1; omega)
  · exact hD.set.same (hdk mb (mem_dfoot.2 (by simp)) hD.ne.2.2)
  · rw [List.mem_append, List.mem_reverse, h.set, List.flatten_append, List.mem_append]
    simp [or_comm]
  · refine h.far.keep (by omega) fun j h1 h2 => hkk j (by have := h.far.1; omega) (fun hj => ?_) (fun hj => ?_)
    · have := (h.f0 j hj).2.2.1; omega
    · have := (h.fl j hj).2.1; omega
  · exact (hkk db h.dbv.lt (fun hj => (h.f0 db hj).2.2.2.2.1 rfl) (fun hj => (h.fl db hj).2.2.2 rfl)).trans h.dbv
  · refine h.it.same fun j h1 h2 => hkk j (by omega) (fun hj => ?_) (fun hj => ?_)
    · have := (h.f0 j hj).2.2.2.1; omega
    · have := (h.fl j hj).2.2.1; omega
  · obtain ⟨d1, d2, d3, d4, d5, d6⟩ := hdf j (hsub j hj)
    refine ⟨d1, by omega, d3, d4, d5, fun hm => ?_⟩
    rcases mem_cfoot.1 hm with e | e | e
    · exact d6 (mem_cfoot.2 (.inl e))
    · rcases hla' j e with e' | e'
      · exact d6 (mem_cfoot.2 (.inr (.inl e')))
      · omega
    · rcases hblk j e with e' | e'
      · exact d6 (mem_cfoot.2 (.inr (.inr e')))
      · omega
  · rcases mem_cfoot.1 hj with e | e | e
    · exact h.fl j (mem_cfoot.2 (.inl e))
    · rcases hla' j e with e' | e'
      · exact h.fl j (mem_cfoot.2 (.inr (.inl e')))
      · exact ⟨by omega, .inr (by have := h.far.1; omega), .inr (by omega), fun e2 => by have := h.dbv.lt; omega⟩
    · rcases hblk j e with e' | e'
      · exact h.fl j (mem_cfoot.2 (.inr (.inr e')))
      · exact ⟨by omega, .inr (by have := h.far.1; omega), .inr (by omega), fun e2 => by have := h.dbv.lt; omega⟩
  · refine (hM7.below (hM.below h.low (fun j hj => (h.f0 j hj).1) hz.2.1) (fun j hj => ?_) (by omega))
    simp only [List.mem_cons] at hj
    rcases hj with e | e | e
    · rw [e]; exact (h.fl lb (mem_cfoot.2 (.inl rfl))).1
    · rw [e]; exact hD.low.2.2
    · refine (h.fl j (mem_cfoot.2 (.inr (.inl ?_)))).1
      cases hb : la.ownBlock with
      | none => rw [hb] at e; simp at e
      | some x => rw [hb] at e; simp at e; rw [e]
end
end Go.Proofs.YtanbhibllilccaaGreat
