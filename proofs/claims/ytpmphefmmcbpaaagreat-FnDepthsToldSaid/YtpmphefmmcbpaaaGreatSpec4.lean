/- The definitions (spec): two rows of numbers that grow; the plain law of Depths.
   The definitions (spec): Depths. -/
import Derived.Test.YtpmphefmmcbpaaaGreatSpec1
import Derived.Test.YtpmphefmmcbpaaaGreatBfsD
import Derived.Test.YtpmphefmmcbpaaaGreatBw1
import Derived.Deep.LoopGhost
namespace Go.Proofs.YtpmphefmmcbpaaaGreat
open Go.RowKit

/-- Two rows of numbers in memory, one apart from the other, above block D. -/
structure FD (w0 w : World) (D : Nat) (sa sp : Value) (n m : Nat) (xs ps : List Int) : Prop where
  a : w.ownsRow D 3 1 sa n (ints xs)
  p : w.ownsRow D 3 1 sp m (ints ps)
  ap : ∀ j, sa.ownBlock = some j → sp.ownBlock ≠ some j
  below : Below D w0 w
  hD : D ≤ w.heap.size

section
variable {w0 w w1 : World} {D n m : Nat} {sa sp v : Value} {xs ps : List Int} {x : Int}

theorem FD.keep (h : FD w0 w D sa sp n m xs ps) (hb : Below w.heap.size w w1) : FD w0 w1 D sa sp n m xs ps :=
  ⟨owns_same h.a fun j hj => hb.block j (h.a.lt j hj).2, owns_same h.p fun j hj => hb.block j (h.p.lt j hj).2, h.ap, h.below.trans (hb.mono h.hD), Nat.le_trans h.hD hb.size⟩

theorem FD.pushA (h : FD w0 w D sa sp n m xs ps) (hg : w.grownBy w1 sa.ownBlock) (ho : w1.ownsRow D 3 1 v (n + 1) (ints xs ++ [.int .i64 x])) (hat : ∀ j, v.ownBlock = some j → sa.ownBlock = some j ∨ w.heap.size ≤ j) :
    FD w0 w1 D v sp (n + 1) m (xs ++ [x]) ps := by
  have e0 : ints (xs ++ [x]) = ints xs ++ [.int .i64 x] := by simp [ints]
  refine ⟨e0 ▸ ho, owns_same h.p fun j hj => hg.block j (h.p.lt j hj).2 fun e => h.ap j e.symm hj, fun j hj e => ?_, h.below.grown hg h.hD (fun j e => (h.a.lt j e).1), Nat.le_trans h.hD hg.size⟩
  rcases hat j hj with e' | e'
  · exact h.ap j e' e
  · have := (h.p.lt j e).2; omega

theorem FD.pushP (h : FD w0 w D sa sp n m xs ps) (hg : w.grownBy w1 sp.ownBlock) (ho : w1.ownsRow D 3 1 v (m + 1) (ints ps ++ [.int .i64 x])) (hat : ∀ j, v.ownBlock = some j → sp.ownBlock = some j ∨ w.heap.size ≤ j) :
    FD w0 w1 D sa v n (m + 1) xs (ps ++ [x]) := by
  have e0 : ints (ps ++ [x]) = ints ps ++ [.int .i64 x] := by simp [ints]
  refine ⟨owns_same h.a fun j hj => hg.block j (h.a.lt j hj).2 fun e => h.ap j hj e.symm, e0 ▸ ho, fun j hj e => ?_, h.below.grown hg h.hD (fun j e => (h.p.lt j e).1), Nat.le_trans h.hD hg.size⟩
  rcases hat j e with e' | e'
  · exact h.ap j hj e'
  · have := (h.a.lt j hj).2; omega
end

/-- One number appended, at a step of a region that draws its order. -/
theorem step_push {ops : Array Oper} {o : Oper} {a : Act} {w : World} {K : Act → World → Prop} {Q : Exit → Act → World → Prop} {E : Prop} (hgd : o.guard = none) (s x : Operand)
    (ho : o.op = .call { callee := .builtin .append, args := #[s, x], argTypes := #[22, 22] }) (D : Nat) (v : Value) (n : Nat) (xs : List Int) (hs : a.eval s = v) (hown : w.ownsRow D 3 1 v n (ints xs))
    (q : Nat) (y : Int) (hx : a.eval x = .slice (some ⟨q, 0, none⟩) 1 1) (hy : w.cell? ⟨q, 0, none⟩ = some (.int .i64 y)) (hn : n ≤ 2000000) (hD : D ≤ w.heap.size)
    (h : ∀ g cap w', w'.ownsRow D 3 1 (.slice (some ⟨g, 0, none⟩) (n + 1) cap) (n + 1) (ints xs ++ [.int .i64 y]) → w.grownBy w' v.ownBlock → (∀ j, (Value.slice (some ⟨g, 0, none⟩) (n + 1) cap).ownBlock = some j → v.ownBlock = some j ∨ w.heap.size ≤ j) →
      K (a.put o.dst (.slice (some ⟨g, 0, none⟩) (n + 1) cap)) w') :
    if Region.wanted o (yielded ops a.tmps) = true then Oper.wp Tryz.prog o a w K Q else E := by
  obtain ⟨i0, hi0, hz0, hz1, hz2⟩ := info_parts info_int
  refine step_append_lies _ hgd s x 22 ho D 3 i0 (.int .i64 0) 1 8 Tryz.underlying22 hi0 hz0 hz1 hz2 rfl (by omega) v n (ints xs) hs hown ⟨q, 0, none⟩ 1 1 [.int .i64 y] hx rfl (fun j u hj => ?_) (one_int _) (by omega) (by unfold maxLen; omega) (by omega) hD w.heap.size rfl ?_
  · rcases j with _ | j
    · simp at hj; subst hj; exact hy
    · simp at hj
  · intro g cap w' h1 h2 h3 _
    refine h g cap w' h1 h2 fun j hj => ?_
    have hj' : some g = some j := hj
    injection hj' with hj'
    subst hj'
    rcases h3 with h3 | h3
    · exact .inl h3
    · exact .inr (by omega)

/-- Depths as they are found. -/
def depL (P : List (Int × Int)) (Q1 Q2 : List Int) (d : Int) : List Int := P.map Prod.snd ++ (Q1.map (fun _ => d) ++ Q2.map (fun _ => d + 1))

theorem depL_length (P : List (Int × Int)) (Q1 Q2 : List Int) (d : Int) : (depL P Q1 Q2 d).length = P.length + (Q1.length + Q2.length) := by unfold depL; simp
theorem depL_more (P : List (Int × Int)) (Q1 Q2 : List Int) (d x : Int) : depL P Q1 (Q2 ++ [x]) d = depL P Q1 Q2 d ++ [d + 1] := by unfold depL; simp
theorem depL_turn (P : List (Int × Int)) (t : Int) (Q2 : List Int) (d : Int) : depL P [t] Q2 d = depL (P ++ [(t, d)]) Q2 [] (d + 1) := by unfold depL; simp
theorem depL_next (P : List (Int × Int)) (t : Int) (Q1 Q2 : List Int) (d : Int) : depL P (t :: Q1) Q2 d = depL (P ++ [(t, d)]) Q1 Q2 d := by unfold depL; simp
theorem depL_at (P : List (Int × Int)) (t : Int) (Q1 Q2 : List Int) (d : Int) : (depL P (t :: Q1) Q2 d)[P.length]? = some d := by
  unfold depL
  rw [List.getElem?_append_right (by simp)]
  simp
theorem found_at (P : List (Int × Int)) (t : Int) (Q : List Int) : (P.map Prod.fst ++ t :: Q)[P.length]? = some t := by
  rw [List.getElem?_append_right (by simp)]
  simp

/-- What of a list was found, with the depths. -/
def wantL (P : List (Int × Int)) (l : List Int) : List (Int × Int) := l.filterMap fun x => P.find? fun p => p.1 == x

theorem wantL_sub {P : List (Int × Int)} {l : List Int} : ∀ p ∈ wantL P l, p ∈ P := fun p hp => by
  unfold wantL at hp
  obtain ⟨x, _, hx⟩ := List.mem_filterMap.1 hp
  exact List.mem_of_find?_eq_some hx

theorem find_fst {P : List (Int × Int)} {x : Int} (h : x ∈ P.map Prod.fst) : ∃ p, (P.find? fun p => p.1 == x) = some p ∧ p.1 = x := by
  cases hf : P.find? fun p => p.1 == x with
  | none =>
    obtain ⟨p, hp, rfl⟩ := List.mem_map.1 h
    have := List.find?_eq_none.1 hf p hp
    simp at this
  | some p => exact ⟨p, rfl, by simpa using List.find?_some hf⟩

theorem find_no {P : List (Int × Int)} {x : Int} (h : x ∉ P.map Prod.fst) : (P.find? fun p => p.1 == x) = none :=
  List.find?_eq_none.2 fun p hp e => h (by have : p.1 = x := by simpa using e
                                           rw [← this]; exact List.mem_map_of_mem hp)

theorem wantL_fst (P : List (Int × Int)) (l : List Int) : (wantL P l).map Prod.fst = l.filter fun x => decide (x ∈ P.map Prod.fst) := by
  induction l with
  | nil => rfl
  | cons x l ih =>
    unfold wantL at ih ⊢
    rw [List.filterMap_cons]
    by_cases h : x ∈ P.map Prod.fst
    · obtain ⟨p, h1, h2⟩ := find_fst h
      rw [h1, List.filter_cons_of_pos (by simpa using h)]
      simp only [List.map_cons, ih, h2]
    · rw [find_no h, List.filter_cons_of_neg (by simpa using h)]
      exact ih

theorem wantL_length {P : List (Int × Int)} {ids : List Int} (hn : (P.map Prod.fst).Nodup) (hi : ids.Nodup) (hs : ∀ x ∈ P.map Prod.fst, x ∈ ids) : (wantL P ids).length = P.length := by
  have h1 : (wantL P ids).length = (ids.filter fun x => decide (x ∈ P.map Prod.fst)).length := by rw [← wantL_fst, List.length_map]
  have h2 : (ids.filter fun x => decide (x ∈ P.map Prod.fst)).Perm (P.map Prod.fst) := by
    refine (List.perm_ext_iff_of_nodup (hi.filter _) hn).2 fun x => ?_
    rw [List.mem_filter, decide_eq_true_iff]
    exact ⟨fun h => h.2, fun h => ⟨hs x h, h⟩⟩
  rw [h1, h2.length_eq, List.length_map]

theorem wantL_step {P : List (Int × Int)} {l : List Int} {k : Nat} (hk : k < l.length) : wantL P (l.take (k + 1)) = wantL P (l.take k) ++ (P.find? fun p => p.1 == l[k]).toList := by
  unfold wantL
  rw [List.take_succ_eq_append_getElem hk, List.filterMap_append]
  congr 1

/-- The place of what was found. -/
theorem find_idx {P : List (Int × Int)} (hn : (P.map Prod.fst).Nodup) {x : Int} {j : Nat} (hj : idxI (P.map Prod.fst) x = (j : Int)) : ∃ hl : j < P.length, (P.find? fun p => p.1 == x) = some P[j] ∧ P[j].1 = x := by
  have hm : x ∈ P.map Prod.fst := by
    have h := idxI_nonneg (P.map Prod.fst) x
    rw [hj] at h
    have h1 : decide (0 ≤ (j : Int)) = true := decide_eq_true (by omega)
    rw [h1] at h
    exact of_decide_eq_true h.symm
  unfold idxI at hj
  rw [if_pos hm] at hj
  have hj' : (P.map Prod.fst).idxOf x = j := by omega
  have hlt : j < (P.map Prod.fst).length := by rw [← hj']; exact List.idxOf_lt_length_of_mem hm
  have hlP : j < P.length := by rwa [List.length_map] at hlt
  have hx : (P.map Prod.fst)[j] = x := by simp only [← hj']; exact List.getElem_idxOf _
  have hx' : P[j].1 = x := by rw [List.getElem_map] at hx; exact hx
  obtain ⟨p, h1, h2⟩ := find_fst hm
  refine ⟨hlP, ?_, hx'⟩
  obtain ⟨i, hi, rfl⟩ := List.mem_iff_getElem.1 (List.mem_of_find?_eq_some h1)
  have hi' : i < (P.map Prod.fst).length := by rw [List.length_map]; exact hi
  have e : (P.map Prod.fst)[i] = (P.map Prod.fst)[j] := by rw [hx, List.getElem_map, h2]
  have := (List.getElem_inj hn).1 e
  subst this
  exact h1
end Go.Proofs.YtpmphefmmcbpaaaGreat

namespace Go.Proofs.YtpmphefmmcbpaaaGreat
open Go.RowKit

/-- A row that is read, apart from two that grow. -/
def RdAt (w : World) (lb : Nat) (al : Option Addr) (l : List Int) (sa sp : Value) : Prop :=
  l = [] ∨ (al = some ⟨lb, 0, none⟩ ∧ w.rangeAt lb 0 (ints l) ∧ lb < w.heap.size ∧ sa.ownBlock ≠ some lb ∧ sp.ownBlock ≠ some lb)

theorem RdAt.keep {w w1 : World} {lb : Nat} {al : Option Addr} {l : List Int} {sa sp : Value} (h : RdAt w lb al l sa sp) (hb : Below w.heap.size w w1) : RdAt w1 lb al l sa sp := by
  rcases h with h | ⟨h1, h2, h3, h4, h5⟩
  · exact .inl h
  · exact .inr ⟨h1, rangeAt_below h2 hb h3, Nat.lt_of_lt_of_le h3 hb.size, h4, h5⟩

theorem RdAt.grown {w w1 : World} {lb : Nat} {al : Option Addr} {l : List Int} {sa sp sa' sp' : Value} {r : Option Nat} (h : RdAt w lb al l sa sp) (hg : w.grownBy w1 r) (hr : r = sa.ownBlock ∨ r = sp.ownBlock)
    (ha : ∀ j, sa'.ownBlock = some j → sa.ownBlock = some j ∨ w.heap.size ≤ j) (hp : ∀ j, sp'.ownBlock = some j → sp.ownBlock = some j ∨ w.heap.size ≤ j) : RdAt w1 lb al l sa' sp' := by
  rcases h with h | ⟨h1, h2, h3, h4, h5⟩
  · exact .inl h
  · have hne : some lb ≠ r := fun e => by
      rcases hr with hr | hr
      · exact h4 (hr.symm.trans e.symm)
      · exact h5 (hr.symm.trans e.symm)
    refine .inr ⟨h1, fun j u hj => ?_, Nat.lt_of_lt_of_le h3 hg.size, fun e => ?_, fun e => ?_⟩
    · rw [World.cell?_of_block (hg.block lb h3 hne)]; exact h2 j u hj
    · rcases ha lb e with e' | e'
      · exact h4 e'
      · omega
    · rcases hp lb e with e' | e'
      · exact h5 e'
      · omega

theorem sFrom_reach {g : Gr} {u : Int} (hu : u ∈ g.nodes) : ∀ x, Reach (sFrom g) u x → x ∈ asc g.nodes := fun x r => by
  induction r with
  | refl => exact asc_mem.2 hu
  | step _ hy _ => exact (List.mem_filter.1 hy).1

theorem idxI_cases (F : List Int) (x : Int) : (x ∈ F ∧ ∃ j : Nat, idxI F x = (j : Int) ∧ j < F.length) ∨ (x ∉ F ∧ idxI F x = -1) := by
  unfold idxI
  by_cases h : x ∈ F
  · rw [if_pos h]; exact .inl ⟨h, _, rfl, List.idxOf_lt_length_of_mem h⟩
  · rw [if_neg h]; exact .inr ⟨h, rfl⟩

theorem below_al {a w : World} (h : Below a.heap.size a w) (o : Obj) : Below a.heap.size a (w.alloc o) := h.alloc h.size o

theorem keepCell {W w6 : World} {fb m ca : Nat} (hg : W.grownBy w6 (Value.slice (some ⟨fb, 0, none⟩) m ca).ownBlock) : ∀ (q i : Nat) (y : Value), W.cell? ⟨q, i, none⟩ = some y → q ≠ fb → w6.cell? ⟨q, i, none⟩ = some y := fun q i y hy hq => by
  rw [World.cell?_of_block (hg.block q (cell_lt hy) (fun e => hq (by have e' : some q = some fb := e; injection e')))]
  exact hy

/-- What Depths gives. -/
def DepthsPost (w : World) (g : Gr) (u v : Int) (e : Ending) (w' : World) : Prop :=
  ∃ (d : Nat) (P W : List (Int × Int)) (a : Option Addr) (c : Nat), QInv (sFrom g) u v d P [] [] ∧ (∀ p ∈ W, p ∈ P) ∧ W.length = P.length ∧ W.length ≤ 1000 ∧ e = .returned (.slice a W.length c) ∧ Cells w' a (visCells W) ∧ Below w.heap.size w w'

set_option linter.unusedSimpArgs false in
set_option maxRecDepth 100000 in
set_option maxHeartbeats 8000000 in
theorem depths_any (g : Gr) (an : Option Addr) (cn : Nat) (ae : Option Addr) (ce : Nat) (u v : Int) (w : World) (hn : g.nodes.length ≤ 1000) (hnd : g.nodes.Nodup) (he : g.edges.length ≤ 1048576) (hg : GrAt w g an cn ae) (hu : u ∈ g.nodes) (hv : v ∉ g.nodes) :
    Calls Tryz.prog 14 #[.agg #[.bool g.dir, .slice an g.nodes.length cn, .slice ae g.edges.length ce], .int .i64 u] w (DepthsPost w g u v) := by
  obtain ⟨w1, hw1⟩ : ∃ w1, w1 = w.alloc (.cells #[.bool g.dir, .slice an g.nodes.length cn, .slice ae g.edges.length ce] 25) := ⟨_, rfl⟩
  obtain ⟨w3, hw3⟩ : ∃ w3, w3 = (w1.alloc (.cells #[.int .i64 u] 3)).alloc (.cells #[.int .i64 0] 3) := ⟨_, rfl⟩
  have hb1 : Below w.heap.size w w1 := by rw [hw1]; exact alloc_below w _
  have hz1 : w1.heap.size = w.heap.size + 1 := by rw [hw1]; simp
  have k0 : w1.cell? ⟨w.heap.size, 0, none⟩ = some (.bool g.dir) := by rw [hw1]; simp
  have k1 : w1.cell? ⟨w.heap.size, 1, none⟩ = some (.slice an g.nodes.length cn) := by rw [hw1]; simp
  have k2 : w1.cell? ⟨w.heap.size, 2, none⟩ = some (.slice ae g.edges.length ce) := by rw [hw1]; simp
  have hK : Hid (∀ wr, Below (w.heap.size + 1) w1 wr → (Below w.heap.size w wr ∧ GrAt wr g an cn ae) ∧ wr.cell? ⟨w.heap.size, 0, none⟩ = some (.bool g.dir) ∧ wr.cell? ⟨w.heap.size, 1, none⟩ = some (.slice an g.nodes.length cn) ∧ wr.cell? ⟨w.heap.size, 2, none⟩ = some (.slice ae g.edges.length ce)) :=
    fun wr h => by
      have h' : Below w1.heap.size w1 wr := by rw [hz1]; exact h
      exact ⟨⟨hb1.trans (h.mono (by omega)), (hg.below hb1).below h'⟩, cell_below h' k0, cell_below h' k1, cell_below h' k2⟩
  have hF3 : FD w1 w3 (w.heap.size + 1) (.slice (some ⟨w.heap.size + 1, 0, none⟩) 1 1) (.slice (some ⟨w.heap.size + 1 + 1, 0, none⟩) 1 1) 1 1 [u] [0] := by
    have ha := World.ownsRow_lit (base := w.heap.size + 1) (e := 3) (size := 1) w1 #[.int .i64 u] 1 (by omega) (by unfold maxLen; omega) rfl
    have hp := World.ownsRow_lit (base := w.heap.size + 1) (e := 3) (size := 1) (w1.alloc (.cells #[.int .i64 u] 3)) #[.int .i64 0] 1 (by simp; omega) (by unfold maxLen; omega) rfl
    have hzz : (w1.alloc (.cells #[.int .i64 u] 3)).heap.size = w.heap.size + 1 + 1 := by simp [hz1]
    rw [hz1] at ha
    rw [hzz] at hp
    rw [hw3]
    refine ⟨ha.alloc _, hp, fun j hj hk => ?_, (by rw [← hz1]; exact (alloc_below w1 _).trans ((alloc_below _ _).mono (by simp))), by simp; omega⟩
    have e1 : some (w.heap.size + 1) = some j := hj
    have e2 : some (w.heap.size + 1 + 1) = some j := hk
    injection e1 with e1
    injection e2 with e2
    omega
  have hw3h : Hid (w3 = ((w.alloc (.cells #[.bool g.dir, .slice an g.nodes.length cn, .slice ae g.edges.length ce] 25)).alloc (.cells #[.int .i64 u] 3)).alloc (.cells #[.int .i64 0] 3)) := by unfold Hid; rw [hw3, hw1]
  have hF3h := Lib.hid hF3
  have hreach := Lib.hid (sFrom_reach hu)
  have hvh := Lib.hid hv
  have hndh := Lib.hid hnd
  have hui := asc_mem.2 hu
  have hal := asc_length g.nodes
  obtain ⟨N, hN⟩ : ∃ N, N = g.nodes.length := ⟨_, rfl⟩
  have hlen : Hid (∀ (F : List Int), F.Nodup → (∀ x ∈ F, Reach (sFrom g) u x) → F.length ≤ N) := fun F h1 h2 => by
    have := nodup_len h1 (fun x hx => sFrom_reach hu x (h2 x hx))
    omega
  have hN1 : 1 ≤ N := by rw [hN]; exact List.length_pos_of_mem hu
  have hNh := Lib.hid hN
  rw [← hN] at hn
  clear hg hb1 hw1 hw3 k0 k1 k2 hF3 hu hv hnd hal hN
  go_enter Tryz.func14, Tryz.ntmps14
  go_wp2_with fail
  rw [← hw3h.out]
  go_loopg [5, 6, 7, 9] (N) (fun gk s5 s6 s7 _ wr => ∃ (d : Nat) (P : List (Int × Int)) (Q1 Q2 : List Int) (ba bp : Option Addr) (m ca cp : Nat), s5 = .slice ba m ca ∧ s6 = .slice bp m cp ∧ s7 = .int .i64 (P.length : Nat) ∧ gk = N - P.length ∧ m = P.length + (Q1.length + Q2.length) ∧ m ≤ N ∧ d ≤ P.length ∧
    QInv (sFrom g) u v d P Q1 Q2 ∧ FD w1 wr (w.heap.size + 1) (.slice ba m ca) (.slice bp m cp) m m (P.map Prod.fst ++ (Q1 ++ Q2)) (depL P Q1 Q2 d))
  case atStart => exact ⟨0, [], [u], [], _, _, 1, 1, 1, rfl, rfl, rfl, by simp, rfl, hN1, Nat.le_refl _, QInv.new _ u v, hF3h.out⟩
  case round =>
    clear hF3h
    obtain ⟨d, P, Q1, Q2, ba, bp, m, ca, cp, rfl, rfl, rfl, hgk, hm, hmN, hdP, hI, hF⟩ := hrel
    obtain ⟨⟨hbw, hgr⟩, d0, d1, d2⟩ := hK.out wr hF.below
    rcases Q1 with _ | ⟨t, Q1⟩
    · have hq2 : Q2 = [] := hI.full rfl
      subst hq2
      have hmP : m = P.length := by rw [hm]; simp
      subst hmP
      have hlist1 : P.map Prod.fst ++ ([] ++ []) = P.map Prod.fst := by simp
      have hlist2 : depL P [] [] (d : Int) = P.map Prod.snd := by unfold depL; simp
      have hPnd : (P.map Prod.fst).Nodup := by have := hI.nd; rwa [hlist1] at this
      have hPids : ∀ x ∈ P.map Prod.fst, x ∈ asc g.nodes := fun x hx => hreach.out x (hI.reach x (by rw [hlist1]; exact hx))
      rw [hlist1, hlist2] at hF
      have hns := Lib.hid (specNodes_any g an cn ae g.edges.length ce wr (by rw [← hNh.out]; omega) hgr.nodes)
      have hwant := Lib.hid (wantL_length hPnd ((asc_perm g.nodes).nodup_iff.2 hndh.out) hPids)
      have hPndh := Lib.hid hPnd
      have hIh := Lib.hid hI
      have hFh := Lib.hid hF
      have hbwh := Lib.hid hbw
      have hal := asc_length g.nodes
      rw [← hNh.out] at hal
      have hPN : P.length ≤ 1000 := by omega
      clear hlist1 hlist2 hPnd hPids hI hF hbw hgr hm hmN
      go_wp2_with fail
      refine (unhide hns).mono ?_
      rintro e w5 ⟨a1, c1, rfl, hown5, hb5⟩
      have hF5 := hFh.out.keep hb5
      rw [← hNh.out] at hown5 ⊢
      obtain ⟨ids, hids⟩ : ∃ ids, ids = asc g.nodes := ⟨_, rfl⟩
      rw [← hids] at hown5 hal
      obtain ⟨ax, cx, ex, _, hcx, _⟩ := owns_cells hown5
      injection ex with ex1 _ ex2
      subst ex1; subst ex2
      have hbw5 := hbwh.out.trans (hb5.mono hbwh.out.size)
      obtain ⟨af, cf, ef, _, hcf, _⟩ := owns_cells hF5.a
      injection ef with ef1 _ ef2
      subst ef1; subst ef2
      have hidsh := Lib.hid hids
      have hcxh := Lib.hid hcx
      have hcfh := Lib.hid hcf
      have hF5h := Lib.hid hF5
      have hbw5h := Lib.hid hbw5
      clear hown5 hcx hcf hb5 hF5 hFh hbw5 hbwh hids hns d0 d1 d2
      go_wp2_with fail
      go_loopw [10, 12, 13, 54] (fun s10 _ _ s54 wi => ∃ (k j : Nat) (b : Option Addr) (cb : Nat), k ≤ N ∧ s54 = .int .i64 k ∧ s10 = .slice b j cb ∧ j = (wantL P (ids.take k)).length ∧ j ≤ k ∧ wi.ownsRow w5.heap.size 37 2 (.slice b j cb) j (visCells (wantL P (ids.take k))) ∧ Below w5.heap.size w5 wi) (fun _ _ _ s54 _ => N - (intOf s54).toNat)
      case atStart => exact ⟨0, 0, none, 0, Nat.zero_le _, rfl, rfl, rfl, Nat.le_refl _, World.ownsRow_nil _ _ _ _, Below.refl _ _⟩
      case round =>
        obtain ⟨k, j, b, cb, hk, rfl, rfl, hj, hjk, hown, hb⟩ := hrel
        have hjh := Lib.hid hj
        have hownh := Lib.hid hown
        have hbh := Lib.hid hb
        clear hj hown hb
        by_cases hlt : k < N
        · have hlt' : k < ids.length := by omega
          obtain ⟨nb, no, rfl, _, hr⟩ := (hcxh.out.below hbh.out).at (by rw [ints_length]; omega)
          have x0 := hr _ _ (ints_get ids k hlt')
          obtain ⟨x, hx⟩ : ∃ x, x = ids[k] := ⟨_, rfl⟩
          rw [← hx] at x0
          have hstep : Hid (wantL P (ids.take (k + 1)) = wantL P (ids.take k) ++ (P.find? fun p => p.1 == x).toList) := by unfold Hid; rw [hx]; exact wantL_step hlt'
          have hidx := Lib.hid (indexOf_any ba P.length ca (P.map Prod.fst) x wr (by rw [List.length_map]) (by rw [List.length_map]; omega) (hcfh.out.below hbh.out))
          obtain ⟨z, hz⟩ : ∃ z, z = idxI (P.map Prod.fst) x := ⟨_, rfl⟩
          rw [← hz] at hidx
          have hzh := Lib.hid hz
          clear hr hx hz
          go_wp2_with fail
          refine (unhide hidx).mono ?_
          rintro e w6 ⟨rfl, rfl⟩
          rcases idxI_cases (P.map Prod.fst) x with ⟨hin, i, hi, _⟩ | ⟨hin, hi⟩
          · have hzi : z = (i : Int) := hzh.out.trans hi
            subst hzi
            obtain ⟨hil, hfind, hPx⟩ := find_idx hPndh.out hi
            obtain ⟨pg, rfl, _, _, _⟩ := owns_at hF5h.out.p (by omega)
            have y0 : wr.cell? ⟨pg, i, none⟩ = some (.int .i64 P[i].2) := by
              have h1 : w5.cell? ⟨pg, i, none⟩ = some (.int .i64 P[i].2) := owns_cell hF5h.out.p (by unfold ints; simp [hil])
              exact cell_below hbh.out h1
            have hst2 : wantL P (ids.take (k + 1)) = wantL P (ids.take k) ++ [P[i]] := by rw [hstep.out, hfind]; rfl
            have hPe : P[i] = (x, P[i].2) := Prod.ext hPx rfl
            obtain ⟨y, hy⟩ : ∃ y, y = P[i].2 := ⟨_, rfl⟩
            rw [← hy] at y0 hPe
            rw [hPe] at hst2
            have ho := Lib.hid (fun o => hownh.out.alloc o)
            have hBs := hbh.out.size
            have hfin := Lib.hid (fun o b2 c2 w7 (h2 : w7.ownsRow w5.heap.size 37 2 (.slice b2 (j + 1) c2) (j + 1) (visCells (wantL P (ids.take k)) ++ [.int .i64 x, .int .i64 y])) (hg : (wr.alloc o).grownBy w7 (Value.slice b j cb).ownBlock) =>
              show j + 1 = (wantL P (ids.take (k + 1))).length ∧ w7.ownsRow w5.heap.size 37 2 (.slice b2 (j + 1) c2) (j + 1) (visCells (wantL P (ids.take (k + 1)))) ∧ Below w5.heap.size w5 w7 from
                ⟨by rw [hst2, List.length_append, ← hjh.out]; rfl, by rw [hst2, visCells_append, visCells_one]; exact h2, (hbh.out.alloc hBs o).grown hg (by simp; omega) (fun j e => (hownh.out.lt j e).1)⟩)
            have hip : (0 : Int) ≤ (i : Int) := by omega
            clear hin hi hfind hPx hst2 hPe hy hstep hidx hzh
            go_wp2_with (at_builtin; refine append_law 30 37 (.agg #[.int .i64 0, .int .i64 0]) 2 16 Tryz.underlying30 info_visit rfl (by omega) (by omega) rfl _ _ rfl w5.heap.size b j cb (visCells (wantL P (ids.take k))) rfl (unhide ho _) ⟨wr.heap.size, 0, none⟩ 1 1 [.int .i64 x, .int .i64 y] rfl rfl (new_visit wr _ _ _) (one_visit _ _) (by omega) (by simp; omega) ?_; intro b2 c2 w7 hown7 hg7 hat7; have hf := Lib.hid (unhide hfin _ _ _ _ hown7 hg7); clear hown7 hg7 hat7)
            go_roundw
            case rel => exact ⟨k + 1, j + 1, b2, c2, by omega, by go_num, rfl, hf.out.1, by omega, hf.out.2.1, hf.out.2.2⟩
            case measure => simp [intOf]; omega
          · have hzi : z = -1 := hzh.out.trans hi
            subst hzi
            have hst2 : wantL P (ids.take (k + 1)) = wantL P (ids.take k) := by rw [hstep.out, find_no hin]; simp
            have hfin : Hid (j = (wantL P (ids.take (k + 1))).length ∧ wr.ownsRow w5.heap.size 37 2 (.slice b j cb) j (visCells (wantL P (ids.take (k + 1))))) := by
              unfold Hid
              rw [hst2]
              exact ⟨hjh.out, hownh.out⟩
            clear hin hi hst2 hstep hidx hzh
            go_wp2_with fail
            go_roundw
            case rel => exact ⟨k + 1, j, b, cb, by omega, by go_num, rfl, hfin.out.1, by omega, hfin.out.2, hbh.out⟩
            case measure => simp [intOf]; omega
        · have hkn : k = ids.length := by omega
          have htk : ids.take k = ids := by rw [hkn, List.take_length]
          have hown := hownh.out
          have hj := hjh.out
          rw [htk] at hown hj
          have hW : (wantL P ids).length = P.length := by rw [hidsh.out]; exact hwant.out
          obtain ⟨av, cv, ev, _, hcv, _⟩ := owns_cells hown
          injection ev with ev1 _ ev2
          subst ev1; subst ev2
          have hfin : Hid (DepthsPost w g u v (.returned (.slice b j cb)) wr) :=
            ⟨d, P, wantL P ids, b, cb, hIh.out, wantL_sub, hW, by omega, by rw [hj], hcv, hbw5h.out.trans (hbh.out.mono hbw5h.out.size)⟩
          clear hown hj hcv hW htk
          go_wp2_with fail
          go_ret
          exact hfin.out
    · have hPm : P.length < m := by rw [hm]; simp; omega
      have hti := hreach.out t (hI.reach t (by simp))
      have htv : t ≠ v := fun e => hvh.out (by rw [← e]; exact asc_mem.1 hti)
      obtain ⟨fb, rfl, hfB, _, hfcap⟩ := owns_at hF.a (by omega)
      obtain ⟨pb, rfl, hpB, _, hpcap⟩ := owns_at hF.p (by omega)
      have x0 : wr.cell? ⟨fb, P.length, none⟩ = some (.int .i64 t) := owns_cell hF.a (by
        have h1 := found_at P t (Q1 ++ Q2)
        unfold ints
        rw [List.getElem?_map]
        show Option.map _ (P.map Prod.fst ++ t :: (Q1 ++ Q2))[P.length]? = _
        rw [h1]; rfl)
      have hfrom := Lib.hid fun (W : World) (hW : Below wr.heap.size wr W) => specFrom_any g an cn ae ce t W (by rw [← hNh.out]; exact hn) he (hgr.below hW)
      have hR0 := Lib.hid (hI.take htv)
      have hFh := Lib.hid hF
      have hmh := Lib.hid hm
      have hgkh := Lib.hid hgk
      clear hgr hbw hI hF hm hgk hti htv
      go_wp2_with fail
      go_cut [28, 29, 30] from 23 to 30 (fun s28 s29 s30 wx => ∃ (al : Option Addr) (cl : Nat), s28 = .slice al (sFrom g t).length cl ∧ s29 = .int .i64 ((sFrom g t).length : Nat) ∧ s30 = .int .i64 0 ∧ wx.ownsRow wr.heap.size 3 1 (.slice al (sFrom g t).length cl) (sFrom g t).length (ints (sFrom g t)) ∧ Below wr.heap.size wr wx)
      case first =>
        have hput := Lib.hid fun (w6 : World) (hb : Below wr.drew.heap.size wr.drew w6) => show Below wr.heap.size wr w6 from (drew_below wr).trans hb
        go_region_law (go_simp; go_at_call 47; ((with_reducible refine (hfrom.out _ (by repeat (first | exact Below.refl _ _ | refine Below.drew ?_))).mono ?_)); rintro e w6 ⟨al, cl, rfl, hown6, hb6⟩)
        all_goals
          go_wp2_with fail
          go_meet
          exact ⟨al, cl, rfl, rfl, rfl, hown6, hput.out _ hb6⟩
      case rest =>
      obtain ⟨al, cl, rfl, rfl, rfl, hownl, hbc⟩ := hcut
      obtain ⟨l, hl⟩ : ∃ l, l = sFrom g t := ⟨_, rfl⟩
      have hll : Hid (l.length ≤ 1000) := by
        have h1 : (sFrom g t).length ≤ (asc g.nodes).length := List.length_filter_le _ _
        have h2 := asc_length g.nodes
        have h3 := hNh.out
        unfold Hid
        rw [hl]
        omega
      rw [← hl] at hownl ⊢
      have hlh := Lib.hid hl
      have hRd : ∃ lb, RdAt wc lb al l (.slice (some ⟨fb, 0, none⟩) m ca) (.slice (some ⟨pb, 0, none⟩) m cp) := by
        rcases Nat.eq_zero_or_pos l.length with h0 | h0
        · exact ⟨0, .inl (List.eq_nil_of_length_eq_zero h0)⟩
        · obtain ⟨lb, h1, h2, h3, _⟩ := owns_at hownl h0
          refine ⟨lb, .inr ⟨h1, fun j y hj => ?_, h3, fun e => ?_, fun e => ?_⟩⟩
          · rw [Nat.zero_add]
            subst h1
            exact owns_cell hownl hj
          · have := (hFh.out.a.lt lb e).2; omega
          · have := (hFh.out.p.lt lb e).2; omega
      obtain ⟨lb, hRd⟩ := hRd
      have hF4 := hFh.out.keep hbc
      have hls : Hid ((l.length : Nat) ≤ 1000) := hll.out
      clear hownl hbc hfrom hFh x0 d0 d1 d2 hl
      have hll2 : l.length ≤ 1000 := hls.out
      go_wp2_with fail
      go_loopg [5, 6, 9, 30] (l.length) (fun gi s5 s6 _ s30 wi => ∃ (k : Nat) (Q2 : List Int) (ba bp : Option Addr) (m ca cp : Nat), k ≤ l.length ∧ s5 = .slice ba m ca ∧ s6 = .slice bp m cp ∧ s30 = .int .i64 k ∧ gi = l.length - k ∧ m = P.length + (Q1.length + Q2.length + 1) ∧ m ≤ N ∧
        RInv (sFrom g) u v d P t Q1 Q2 (l.take k) ∧ FD w1 wi (w.heap.size + 1) (.slice ba m ca) (.slice bp m cp) m m (P.map Prod.fst ++ t :: (Q1 ++ Q2)) (depL P (t :: Q1) Q2 d) ∧ RdAt wi lb al l (.slice ba m ca) (.slice bp m cp))
      case atStart => exact ⟨0, Q2, _, _, m, ca, cp, Nat.zero_le _, rfl, rfl, rfl, rfl, by rw [hmh.out, List.length_cons]; omega, hmN, hR0.out, hF4, hRd⟩
      case round =>
        clear hF4 hRd hR0 hmh hmN hPm hfcap hpcap hfB hpB
        obtain ⟨k, Q2, ba, bp, m, ca, cp, hk, rfl, rfl, rfl, hgi, hm, hmN, hR, hF, hRd⟩ := hrel
        have hgih := Lib.hid hgi
        have hmh := Lib.hid hm
        have hRh := Lib.hid hR
        have hFh := Lib.hid hF
        have hRdh := Lib.hid hRd
        clear hgi hm hR hF hRd
        by_cases hlt : k < l.length
        · obtain ⟨h1, h2, h3, h4, h5⟩ := hRdh.out.resolve_left (fun e => by rw [e] at hlt; simp at hlt)
          have x1 : wr.cell? ⟨lb, k, none⟩ = some (.int .i64 l[k]) := by
            have := h2 _ _ (ints_get l k hlt)
            rwa [Nat.zero_add] at this
          obtain ⟨x, hx⟩ : ∃ x, x = l[k] := ⟨_, rfl⟩
          rw [← hx] at x1
          have hxs : Hid (x ∈ sFrom g t) := by unfold Hid; rw [← hlh.out, hx]; exact List.getElem_mem hlt
          have htk : Hid (l.take (k + 1) = l.take k ++ [x]) := by unfold Hid; rw [List.take_succ_eq_append_getElem hlt, ← hx]
          subst h1
          have hPm : P.length < m := by rw [hmh.out]; omega
          obtain ⟨fb, rfl, hfB, hfw, hfcap⟩ := owns_at hFh.out.a (by omega)
          obtain ⟨pb, rfl, hpB, hpw, hpcap⟩ := owns_at hFh.out.p (by omega)
          obtain ⟨ax, cx, ex, _, hcx, _⟩ := owns_cells hFh.out.a
          injection ex with ex1 _ ex2
          subst ex1; subst ex2
          have hml : m = (P.map Prod.fst ++ t :: (Q1 ++ Q2)).length := by rw [hmh.out]; simp
          have hidx := Lib.hid (indexOf_any (some ⟨fb, 0, none⟩) m ca (P.map Prod.fst ++ t :: (Q1 ++ Q2)) x wr hml (by omega) hcx)
          obtain ⟨z, hz⟩ : ∃ z, z = idxI (P.map Prod.fst ++ t :: (Q1 ++ Q2)) x := ⟨_, rfl⟩
          rw [← hz] at hidx
          have y0 : wr.cell? ⟨pb, P.length, none⟩ = some (.int .i64 d) := owns_cell hFh.out.p (by
            have h1 := depL_at P t Q1 Q2 (d : Int)
            unfold ints
            rw [List.getElem?_map, h1]; rfl)
          have hzc : Hid ((x ∈ P.map Prod.fst ++ t :: (Q1 ++ Q2) ∧ ∃ j : Nat, z = (j : Int) ∧ j < (P.map Prod.fst ++ t :: (Q1 ++ Q2)).length) ∨ (x ∉ P.map Prod.fst ++ t :: (Q1 ++ Q2) ∧ z = -1)) := by unfold Hid; rw [hz]; exact idxI_cases _ _
          clear h2 h3 h4 h5 hx hcx hz hml
          go_wp2_with fail
          refine (unhide hidx).mono ?_
          rintro e w5 ⟨rfl, rfl⟩
          rcases hzc.out with ⟨hin, j, rfl, hj⟩ | ⟨hin, rfl⟩
          · have hfin : Hid (RInv (sFrom g) u v d P t Q1 Q2 (l.take (k + 1))) := by unfold Hid; rw [htk.out]; exact hRh.out.seen hin
            clear hin hzc hidx x1 y0 hj
            go_wp2_with fail
            go_roundg (l.length - (k + 1))
            case measure => have := hgih.out; omega
            case rel => exact ⟨k + 1, Q2, _, _, m, ca, cp, by omega, rfl, rfl, by go_num, rfl, hmh.out, hmN, hfin.out, hFh.out, hRdh.out⟩
          · have hnew : Hid (RInv (sFrom g) u v d P t Q1 (Q2 ++ [x]) (l.take (k + 1))) := by unfold Hid; rw [htk.out]; exact hRh.out.new hxs.out hin
            have hmN2 : m + 1 ≤ N := by
              have h1 := hlen.out _ hnew.out.nd hnew.out.reach
              have h2 := hmh.out
              simp at h1
              omega
            have hap : pb ≠ fb := fun e => hFh.out.ap fb rfl (by rw [e]; rfl)
            have hdb : d ≤ 1000 := by have := hdP; omega
            have hw1 : IntKind.i64.wrap ((d : Int) + 1) = (d : Int) + 1 := by rw [IntKind.wrap_i64]; omega
            have hA := Lib.hid fun (W : World) (hW : Below wr.heap.size wr W) => hFh.out.keep hW
            have hRW := Lib.hid fun (W : World) (hW : Below wr.heap.size wr W) => hRdh.out.keep hW
            have m0 : ∀ o, (wr.alloc o).cell? ⟨pb, P.length, none⟩ = some (.int .i64 d) := fun o => cell_alloc y0 o
            have q1 : Hid (P.map Prod.fst ++ t :: (Q1 ++ (Q2 ++ [x])) = (P.map Prod.fst ++ t :: (Q1 ++ Q2)) ++ [x]) := by unfold Hid; simp
            have q2 : Hid (depL P (t :: Q1) (Q2 ++ [x]) d = depL P (t :: Q1) Q2 d ++ [(d : Int) + 1]) := depL_more P (t :: Q1) Q2 d x
            have hwz : w.heap.size + 1 ≤ wr.heap.size := hFh.out.hD
            clear hin hzc hidx x1
            go_wp2_with fail
            go_region_law (first
              | (refine step_push rfl (.tmp 38) (.tmp 40) rfl (w.heap.size + 1) (.slice (some ⟨fb, 0, none⟩) m ca) m (P.map Prod.fst ++ t :: (Q1 ++ Q2)) rfl (hA.out _ (by repeat (first | exact Below.refl _ _ | refine Below.drew ?_ | refine below_al ?_ _))).a _ x rfl (by first | (simp; done) | exact cell_alloc (by simp) _) (by omega) (hA.out _ (by repeat (first | exact Below.refl _ _ | refine Below.drew ?_ | refine below_al ?_ _))).hD ?_; intro g6 c6 w6 hown6 hg6 hat6; have hF6 := (hA.out _ (by repeat (first | exact Below.refl _ _ | refine Below.drew ?_ | refine below_al ?_ _))).pushA hg6 hown6 hat6; have hR6 := (hRW.out _ (by repeat (first | exact Below.refl _ _ | refine Below.drew ?_ | refine below_al ?_ _))).grown hg6 (.inl rfl) hat6 (fun j hj => .inl hj); have hk6 := keepCell hg6; have s6 : w6.cell? ⟨pb, P.length, none⟩ = some (.int .i64 d) := hk6 _ _ _ (by first | exact y0 | exact cell_alloc y0 _ | exact cell_alloc (cell_alloc y0 _) _) hap; have hk6h := Lib.hid hk6; have hA6 := Lib.hid fun (W : World) (hW : Below w6.heap.size w6 W) => hF6.keep hW; have hRW6 := Lib.hid fun (W : World) (hW : Below w6.heap.size w6 W) => hR6.keep hW; have hz6 := hg6.size; clear hown6 hg6 hat6 hF6 hR6 hk6)
              | (refine step_push rfl (.tmp 42) (.tmp 48) rfl (w.heap.size + 1) (.slice (some ⟨pb, 0, none⟩) m cp) m (depL P (t :: Q1) Q2 d) rfl (hA6.out _ (by repeat (first | exact Below.refl _ _ | refine Below.drew ?_ | refine below_al ?_ _))).p _ ((d : Int) + 1) rfl (by first | (simp [hw1]; done) | (refine hk6h.out _ _ _ ?_ ?_; rotate_left; omega; first | (simp [hw1]; done) | exact cell_alloc (by simp [hw1]) _)) (by omega) (hA6.out _ (by repeat (first | exact Below.refl _ _ | refine Below.drew ?_ | refine below_al ?_ _))).hD ?_; intro g7 c7 w7 hown7 hg7 hat7; have hF7 := Lib.hid ((hA6.out _ (by repeat (first | exact Below.refl _ _ | refine Below.drew ?_ | refine below_al ?_ _))).pushP hg7 hown7 hat7); have hR7 := Lib.hid ((hRW6.out _ (by repeat (first | exact Below.refl _ _ | refine Below.drew ?_ | refine below_al ?_ _))).grown hg7 (.inr rfl) (fun j hj => .inl hj) hat7); clear hown7 hg7 hat7))
            all_goals
              have hfin : Hid (m + 1 = P.length + (Q1.length + (Q2 ++ [x]).length + 1) ∧ FD w1 w7 (w.heap.size + 1) (.slice (some ⟨g6, 0, none⟩) (m + 1) c6) (.slice (some ⟨g7, 0, none⟩) (m + 1) c7) (m + 1) (m + 1) (P.map Prod.fst ++ t :: (Q1 ++ (Q2 ++ [x]))) (depL P (t :: Q1) (Q2 ++ [x]) d)) := by
                unfold Hid
                rw [q1.out, q2.out]
                exact ⟨by rw [hmh.out, List.length_append, List.length_singleton]; omega, hF7.out⟩
              clear hk6h hA6 hRW6 s6 hz6 hF7 hA hRW m0 y0 hw1 q1 q2
              go_wp2_with fail
              go_roundg (l.length - (k + 1))
              case measure => have := hgih.out; omega
              case rel => exact ⟨k + 1, Q2 ++ [x], _, _, m + 1, c6, c7, by omega, rfl, rfl, by go_num, rfl, hfin.out.1, hmN2, hnew.out, hfin.out.2, hR7.out⟩
        · have hkl : k = l.length := by omega
          subst hkl
          have hRR := hRh.out
          rw [List.take_length, hlh.out] at hRR
          have hTs : ∀ y ∈ sFrom g t, y ∈ sFrom g t := fun _ h => h
          obtain ⟨P2, hP2⟩ : ∃ P2, P2 = P ++ [(t, (d : Int))] := ⟨_, rfl⟩
          have hPl : P2.length = P.length + 1 := by rw [hP2, List.length_append, List.length_singleton]
          have hPm : P.length < m := by rw [hmh.out]; omega
          have hfst : P2.map Prod.fst = P.map Prod.fst ++ [t] := by rw [hP2]; simp
          rcases Q1 with _ | ⟨z, Q1⟩
          · have hturn := hRR.turn hTs
            rw [← hP2] at hturn
            have hF2 := hFh.out
            have e1 : P.map Prod.fst ++ t :: ([] ++ Q2) = P2.map Prod.fst ++ (Q2 ++ []) := by rw [hfst]; simp
            have e2 : depL P [t] Q2 d = depL P2 Q2 [] ((d + 1 : Nat) : Int) := by rw [depL_turn, hP2]; simp
            rw [e1, e2] at hF2
            have hfin : Hid (QInv (sFrom g) u v (d + 1) P2 Q2 [] ∧ FD w1 wr (w.heap.size + 1) (.slice ba m ca) (.slice bp m cp) m m (P2.map Prod.fst ++ (Q2 ++ [])) (depL P2 Q2 [] ((d + 1 : Nat) : Int)) ∧ m = P2.length + (Q2.length + ([] : List Int).length)) := ⟨hturn, hF2, by rw [hPl, hmh.out]; simp; omega⟩
            clear hturn hF2 e1 e2 hRR hTs hFh hRh hfst hP2
            go_wp2_with fail
            go_roundg (N - P2.length)
            case measure => have := hgkh.out; omega
            case rel => exact ⟨d + 1, P2, Q2, [], ba, bp, m, ca, cp, rfl, rfl, by rw [hPl]; go_num, rfl, hfin.out.2.2, hmN, by omega, hfin.out.1, hfin.out.2.1⟩
          · have hnx := hRR.next hTs (by simp)
            rw [← hP2] at hnx
            have hF2 := hFh.out
            have e1 : P.map Prod.fst ++ t :: (z :: Q1 ++ Q2) = P2.map Prod.fst ++ (z :: Q1 ++ Q2) := by rw [hfst]; simp
            have e2 : depL P (t :: z :: Q1) Q2 d = depL P2 (z :: Q1) Q2 (d : Int) := by rw [depL_next, hP2]
            rw [e1, e2] at hF2
            have hfin : Hid (QInv (sFrom g) u v d P2 (z :: Q1) Q2 ∧ FD w1 wr (w.heap.size + 1) (.slice ba m ca) (.slice bp m cp) m m (P2.map Prod.fst ++ (z :: Q1 ++ Q2)) (depL P2 (z :: Q1) Q2 (d : Int)) ∧ m = P2.length + ((z :: Q1).length + Q2.length)) := ⟨hnx, hF2, by rw [hPl, hmh.out]; omega⟩
            clear hnx hF2 e1 e2 hRR hTs hFh hRh hfst hP2
            go_wp2_with fail
            go_roundg (N - P2.length)
            case measure => have := hgkh.out; omega
            case rel => exact ⟨d, P2, z :: Q1, Q2, ba, bp, m, ca, cp, rfl, rfl, by rw [hPl]; go_num, rfl, hfin.out.2.2, hmN, by omega, hfin.out.1, hfin.out.2.1⟩
end Go.Proofs.YtpmphefmmcbpaaaGreat
