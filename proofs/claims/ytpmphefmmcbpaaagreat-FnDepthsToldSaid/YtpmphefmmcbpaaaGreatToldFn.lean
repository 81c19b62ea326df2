/- The walk breadth first and its definition: the plain law; slices.Contains at visits.
   laws.FnDepthsTold: the walk. -/
import Derived.Test.YtpmphefmmcbpaaaGreatSpec4
import Derived.Test.YtpmphefmmcbpaaaGreatOneEdge
import Derived.Test.YtpmphefmmcbpaaaGreatWalksOne
import Derived.Test.YtpmphefmmcbpaaaGreatFormed
import Derived.Deep.LoopGhost
namespace Go.Proofs.YtpmphefmmcbpaaaGreat
open Go.RowKit

theorem barB_swap (barred : List (Int × Int × Int)) (u v : Int) : barB false barred u v = barB false barred v u := by
  unfold barB
  congr 1
  funext e
  have : hits false u v e ↔ hits false v u e := by unfold hits; simp only [true_and]; exact Or.comm
  exact decide_eq_decide.2 this

theorem openG_arc (g : Gr) (barred : List (Int × Int × Int)) (x y : Int) : arcB (openG g barred) x y = (arcB g x y && freeB g.dir barred x y) := by
  have hb : ∀ e, hits g.dir x y e → barB g.dir barred e.1 e.2.1 = barB g.dir barred x y := fun e he => by
    rcases he with ⟨h1, h2⟩ | ⟨hd, h1, h2⟩
    · rw [h1, h2]
    · rw [h1, h2, hd, barB_swap]
  have hf : freeB g.dir barred x y = !barB g.dir barred x y := rfl
  rw [hf, Bool.eq_iff_iff]
  unfold arcB openG openEs
  rw [Bool.and_eq_true, List.any_eq_true, List.any_eq_true]
  constructor
  · rintro ⟨e, he, hh⟩
    have hm := List.mem_filter.1 he
    have hh' := of_decide_eq_true hh
    refine ⟨⟨e, hm.1, hh⟩, ?_⟩
    rw [← hb e hh']
    exact hm.2
  · rintro ⟨⟨e, he, hh⟩, hn⟩
    have hh' := of_decide_eq_true hh
    refine ⟨e, List.mem_filter.2 ⟨he, ?_⟩, hh⟩
    rw [hb e hh']
    exact hn

theorem succ_told {g : Gr} (hok : okGraph g = true) (barred : List (Int × Int × Int)) {x : Int} (hx : x ∈ g.nodes) (y : Int) : y ∈ gSuccF g barred x ↔ y ∈ sFrom (openG g barred) x := by
  have h1 : y ∈ gSuccF g barred x ↔ y ∈ gSucc g x ∧ freeB g.dir barred x y = true := by unfold gSuccF succF; rw [List.mem_filter]; rfl
  have h2 : y ∈ sFrom (openG g barred) x ↔ y ∈ g.nodes ∧ arcB (openG g barred) x y = true := by
    unfold sFrom
    rw [List.mem_filter, asc_mem]; rfl
  rw [h1, h2, gSucc_mem hok hx, openG_arc, Bool.and_eq_true]
  exact ⟨fun h => ⟨h.1.1, h.1.2, h.2⟩, fun h => ⟨⟨h.1, h.2.1⟩, h.2.2⟩⟩

theorem hop_same {s s' : Int → List Int} {ids : List Int} {u : Int} (hu : u ∈ ids) (hs : ∀ x ∈ ids, ∀ y, y ∈ s x ↔ y ∈ s' x) (hc : ∀ x ∈ ids, ∀ y ∈ s x, y ∈ ids) {k : Nat} {x : Int} (h : HopN s u k x) : x ∈ ids ∧ HopN s' u k x := by
  induction h with
  | zero => exact ⟨hu, .zero⟩
  | step _ hy ih => exact ⟨hc _ ih.1 _ hy, .step ih.2 ((hs _ ih.1 _).1 hy)⟩

theorem dist_same {s s' : Int → List Int} {ids : List Int} {u : Int} (hu : u ∈ ids) (hs : ∀ x ∈ ids, ∀ y, y ∈ s x ↔ y ∈ s' x) (hc : ∀ x ∈ ids, ∀ y ∈ s x, y ∈ ids) {k : Nat} {x : Int} (h : Dist s u k x) : Dist s' u k x :=
  ⟨(hop_same hu hs hc h.1).2, fun j hj => h.2 j (hop_same hu (fun a ha y => (hs a ha y).symm) (fun a ha y hy => hc a ha y ((hs a ha y).2 hy)) hj).2⟩

/-- What is told by the definition is what is found. -/
theorem told_same {s s' : Int → List Int} {ids : List Int} {u v : Int} (hu : u ∈ ids) (hs : ∀ x ∈ ids, ∀ y, y ∈ s x ↔ y ∈ s' x) (hc : ∀ x ∈ ids, ∀ y ∈ s x, y ∈ ids) {d d' : Nat} {L P : List (Int × Int)} (hL : QInv s u v d L [] []) (hP : QInv s' u v d' P [] []) :
    (∀ p ∈ P, p ∈ L) ∧ P.length = L.length := by
  have hs' : ∀ x ∈ ids, ∀ y, y ∈ s' x ↔ y ∈ s x := fun a ha y => (hs a ha y).symm
  have hc' : ∀ x ∈ ids, ∀ y ∈ s' x, y ∈ ids := fun a ha y hy => hc a ha y ((hs a ha y).2 hy)
  have hnL := hL.nd
  have hnP := hP.nd
  rw [List.append_nil, List.append_nil] at hnL hnP
  have hPL : ∀ p ∈ P, p ∈ L := fun p hp => by
    obtain ⟨k, h1, _, h3⟩ := hP.pd p hp
    have h4 := dist_same hu hs' hc' h3
    obtain ⟨q, hq, e⟩ := List.mem_map.1 (hL.all h4.1.reach)
    obtain ⟨k', h5, _, h6⟩ := hL.pd q hq
    rw [e] at h6
    have h7 := Dist.same s u h4 h6
    have : p = q := Prod.ext e.symm (by rw [h1, h5, h7])
    rw [this]; exact hq
  have hLP : ∀ x ∈ L.map Prod.fst, x ∈ P.map Prod.fst := fun x hx => by
    obtain ⟨q, hq, rfl⟩ := List.mem_map.1 hx
    obtain ⟨k', _, _, h6⟩ := hL.pd q hq
    exact hP.all (dist_same hu hs hc h6).1.reach
  refine ⟨hPL, ?_⟩
  have hperm : (P.map Prod.fst).Perm (L.map Prod.fst) := (List.perm_ext_iff_of_nodup hnP hnL).2 fun x => ⟨fun hx => by
    obtain ⟨p, hp, rfl⟩ := List.mem_map.1 hx
    exact List.mem_map_of_mem (hPL p hp), fun hx => hLP x hx⟩
  have := hperm.length_eq
  rwa [List.length_map, List.length_map] at this

theorem vis_eql (x y x' y' : Int) (w : World) : (binOp .eql 37 (.agg #[.int .i64 x, .int .i64 y]) (.agg #[.int .i64 x', .int .i64 y'])).run Tryz.prog w = .ok (.bool (x == x' && y == y')) w := by
  by_cases h1 : x = x'
  · subst h1
    by_cases h2 : y = y'
    · subst h2
      simp [go_sem]
    · have h2' : (y == y') = false := by simpa using h2
      simp [go_sem, h2']
  · have h1' : (x == x') = false := by simpa using h1
    simp [go_sem, h1']

def VisIPost (w : World) (e : Ending) (w' : World) : Prop := ∃ j : Nat, e = .returned (.int .i64 j) ∧ j < 1000 ∧ Below w.heap.size w w'

set_option maxHeartbeats 2000000 in
theorem visIndex_any (a : Option Addr) (n c : Nat) (L : List (Int × Int)) (x y : Int) (w : World) (hn : n = L.length) (hn2 : n ≤ 1000) (hc : Cells w a (visCells L)) (hm : (x, y) ∈ L) :
    Calls Tryz.prog 51 #[.slice a n c, .agg #[.int .i64 x, .int .i64 y]] w (VisIPost w) := by
  obtain ⟨w1, hw1⟩ : ∃ w1, w1 = w.alloc (.cells #[.int .i64 x, .int .i64 y] 37) := ⟨_, rfl⟩
  have b1 : Below w.heap.size w w1 := by rw [hw1]; exact alloc_below _ _
  have k0 : w1.cell? ⟨w.heap.size, 0, none⟩ = some (.int .i64 x) := by rw [hw1]; simp
  have k1 : w1.cell? ⟨w.heap.size, 1, none⟩ = some (.int .i64 y) := by rw [hw1]; simp
  have hch := Lib.hid (hc.below b1)
  have hnh := Lib.hid hn
  have hmh := Lib.hid hm
  have hw1h := Lib.hid hw1
  have b1h := Lib.hid b1
  clear hc hn hm hw1 b1
  go_enter Tryz.func51, Tryz.ntmps51
  go_wp2_with fail
  rw [← hw1h.out]
  go_loopw [5, 8] (fun _ iv wr => ∃ (k q : Nat), k ≤ n ∧ iv = .int .i64 k ∧ wr = w1.drewN q ∧ ∀ j (hj : j < L.length), j < k → L[j] ≠ (x, y)) (fun _ iv _ => n - (intOf iv).toNat)
  case atStart => exact ⟨0, 0, Nat.zero_le _, rfl, rfl, fun j _ h => absurd h (Nat.not_lt_zero j)⟩
  case round =>
    obtain ⟨k, q, hk, rfl, rfl, H0⟩ := hrel
    have H := Lib.hid H0
    clear H0
    by_cases hlt : k < n
    · have hkL : k < L.length := by have := hnh.out; omega
      obtain ⟨b2, o2, rfl, _, r2⟩ := hch.out.at (by rw [visCells_length]; omega)
      obtain ⟨s1, s2⟩ := visCells_get L k hkL
      have y0 : (w1.drewN q).cell? ⟨b2, o2 + k * 2, none⟩ = some (.int .i64 L[k].1) := r2 _ _ s1
      have y1 : (w1.drewN q).cell? ⟨b2, o2 + k * 2 + 1, none⟩ = some (.int .i64 L[k].2) := by rw [Nat.add_assoc]; exact r2 _ _ s2
      have j0 : (w1.drewN q).cell? ⟨w.heap.size, 0, none⟩ = some (.int .i64 x) := k0
      have j1 : (w1.drewN q).cell? ⟨w.heap.size, 1, none⟩ = some (.int .i64 y) := k1
      obtain ⟨x', hx'⟩ : ∃ x', x' = L[k].1 := ⟨_, rfl⟩
      obtain ⟨y', hy'⟩ : ∃ y', y' = L[k].2 := ⟨_, rfl⟩
      rw [← hx'] at y0
      rw [← hy'] at y1
      have hLk : Hid (L[k] = (x', y')) := by unfold Hid; rw [hx', hy']
      have heq := vis_eql x y x' y'
      obtain ⟨t, ht⟩ : ∃ t, t = (x == x' && y == y') := ⟨_, rfl⟩
      rw [← ht] at heq
      have hth := Lib.hid ht
      obtain ⟨W, hW⟩ : ∃ W, W = w1.drewN q := ⟨_, rfl⟩
      rw [← hW] at y0 y1 j0 j1 ⊢
      have hWh : Hid (∀ m, ∃ q', W.drewN m = w1.drewN q') := fun m => ⟨_, by rw [hW]; exact World.drewN_drewN _ _ _⟩
      have hWb : Hid (∀ m, Below w.heap.size w (W.drewN m)) := fun m => by rw [hW]; exact below_draws (below_draws b1h.out q) m
      clear hx' hy' ht hW s1 s2 r2 k0 k1
      cases t
      · have hne : Hid (L[k] ≠ (x, y)) := by
          intro e
          rw [hLk.out] at e
          injection e with e1 e2
          have h := hth.out
          rw [e1, e2] at h
          simp at h
        have hnext : Hid (∀ j (hj : j < L.length), j < k + 1 → L[j] ≠ (x, y)) := fun j hj hjk => by
          rcases Nat.lt_or_eq_of_le (Nat.le_of_lt_succ hjk) with h | h
          · exact H.out j hj h
          · subst h; exact hne.out
        go_wp2_with fail
        go_region
        all_goals
          go_wp2_with fail
          go_roundw
          case rel =>
            obtain ⟨q', hq'⟩ := hWh.out 1
            exact ⟨k + 1, q', by omega, by go_num, hq', hnext.out⟩
          case measure => simp [intOf]; omega
      · go_wp2_with fail
        go_region
        all_goals
          go_wp2_with fail
          go_ret
          exact ⟨k, rfl, by omega, hWb.out 1⟩
    · exfalso
      obtain ⟨j, hj, e⟩ := List.mem_iff_getElem.1 hmh.out
      exact H.out j hj (by have := hnh.out; omega) e

set_option maxHeartbeats 1000000 in
theorem visContains_any (a : Option Addr) (n c : Nat) (L : List (Int × Int)) (x y : Int) (w : World) (hn : n = L.length) (hn2 : n ≤ 1000) (hc : Cells w a (visCells L)) (hm : (x, y) ∈ L) :
    Calls Tryz.prog 16 #[.slice a n c, .agg #[.int .i64 x, .int .i64 y]] w fun e w' => e = .returned (.bool true) ∧ Below w.heap.size w w' := by
  have hi := Lib.hid (visIndex_any a n c L x y (w.alloc (.cells #[.int .i64 x, .int .i64 y] 37)) hn hn2 (hc.alloc _) hm)
  clear hn hc hm
  go_enter Tryz.func16, Tryz.ntmps16
  go_wp2_with fail
  refine (unhide hi).mono ?_
  rintro e w2 ⟨j, rfl, hj, hb⟩
  have hj0 : (0 : Int) ≤ (j : Int) := by omega
  have hb0 := Lib.hid ((alloc_below w (.cells #[.int .i64 x, .int .i64 y] 37)).trans (hb.mono (by simp)))
  clear hb
  go_wp2_with fail
  go_ret
  exact ⟨rfl, hb0.out⟩
end Go.Proofs.YtpmphefmmcbpaaaGreat

namespace Go.Proofs.YtpmphefmmcbpaaaGreat
open Go.RowKit

/-- The number that comes k behind another one. -/
def ow (u : Int) (k : Nat) : Int := IntKind.i64.wrap (u + k)

theorem ow_zero {u : Int} (h : In64 u) : ow u 0 = u := by
  have h' : (decide (IntKind.min .i64 ≤ u) && decide (u ≤ IntKind.max .i64)) = true := h
  rw [Bool.and_eq_true] at h'
  have h1 : (-9223372036854775808 : Int) ≤ u := of_decide_eq_true h'.1
  have h2 : u ≤ (9223372036854775807 : Int) := of_decide_eq_true h'.2
  unfold ow
  rw [IntKind.wrap_i64]
  omega

theorem ow_step (u : Int) (k : Nat) : IntKind.i64.wrap (ow u k + 1) = ow u (k + 1) := by
  unfold ow
  rw [IntKind.wrap_i64, IntKind.wrap_i64, IntKind.wrap_i64]
  omega

theorem ow_apart (u : Int) {j k : Nat} (hj : j < 100000) (hk : k < 100000) (h : ow u j = ow u k) : j = k := by
  unfold ow at h
  rw [IntKind.wrap_i64, IntKind.wrap_i64] at h
  omega

/-- Not all of them are nodes. -/
theorem ow_few {ids : List Int} {u : Int} {k : Nat} (hi : ids.length ≤ 1000) (hk : k ≤ ids.length) (h : ∀ j, j ≤ k → ow u j ∈ ids) : k < ids.length := by
  have hnd : ((List.range (k + 1)).map (ow u)).Nodup := by
    unfold List.Nodup
    rw [List.pairwise_map]
    refine List.nodup_range.imp_of_mem fun {a b} ha hb hab e => hab ?_
    rw [List.mem_range] at ha hb
    exact ow_apart u (by omega) (by omega) e
  have hsub : ∀ x ∈ (List.range (k + 1)).map (ow u), x ∈ ids := fun x hx => by
    obtain ⟨j, hj, rfl⟩ := List.mem_map.1 hx
    rw [List.mem_range] at hj
    exact h j (by omega)
  have := nodup_len hnd hsub
  rw [List.length_map, List.length_range] at this
  omega

set_option maxRecDepth 100000 in
set_option maxHeartbeats 8000000 in
theorem told_any (g : Gr) (an : Option Addr) (cn : Nat) (ae : Option Addr) (ce : Nat) (u : Int) (barred : List (Int × Int × Int)) (ab : Option Addr) (cb : Nat) (w : World) (hm : g.nodes.length ≤ 9223372036854775807) (hm' : g.edges.length ≤ 9223372036854775807) (hcap : g.nodes.length ≤ cn) (hg : GrAt w g an cn ae) (h64 : ∀ x ∈ g.nodes, In64 x) (hu64 : In64 u)
    (hbl : barred.length ≤ 9223372036854775807) (hbc : Cells w ab (edgeCells barred)) :
    Calls Tryz.prog 3 #[.agg #[.bool g.dir, .slice an g.nodes.length cn, .slice ae g.edges.length ce], .int .i64 u, .slice ab barred.length cb] w
      fun e w' => e = .returned (.bool true) ∧ Below w.heap.size w w' := by
  obtain ⟨w1, hw1⟩ : ∃ w1, w1 = w.alloc (.cells #[.bool g.dir, .slice an g.nodes.length cn, .slice ae g.edges.length ce] 25) := ⟨_, rfl⟩
  have hb1 : Below w.heap.size w w1 := by rw [hw1]; exact alloc_below w _
  have hz1 : w1.heap.size = w.heap.size + 1 := by rw [hw1]; simp
  have k0 : w1.cell? ⟨w.heap.size, 0, none⟩ = some (.bool g.dir) := by rw [hw1]; simp
  have k1 : w1.cell? ⟨w.heap.size, 1, none⟩ = some (.slice an g.nodes.length cn) := by rw [hw1]; simp
  have k2 : w1.cell? ⟨w.heap.size, 2, none⟩ = some (.slice ae g.edges.length ce) := by rw [hw1]; simp
  have hK : Hid (∀ wr, Below w1.heap.size w1 wr → (Below w.heap.size w wr ∧ GrAt wr g an cn ae ∧ Cells wr ab (edgeCells barred)) ∧ wr.cell? ⟨w.heap.size, 0, none⟩ = some (.bool g.dir) ∧ wr.cell? ⟨w.heap.size, 1, none⟩ = some (.slice an g.nodes.length cn) ∧ wr.cell? ⟨w.heap.size, 2, none⟩ = some (.slice ae g.edges.length ce)) :=
    fun wr h => ⟨⟨hb1.trans (h.mono (by omega)), (hg.below hb1).below h, (hbc.below hb1).below h⟩, cell_below h k0, cell_below h k1, cell_below h k2⟩
  have hfits := Lib.hid (fits_any g an cn ae ce w1 hm hm')
  rw [hw1] at hfits
  have hw1h := Lib.hid hw1
  have h64h := Lib.hid h64
  have hu64h := Lib.hid hu64
  have hone := Lib.hid walksOne_any
  clear hg hb1 hw1 k0 k1 k2 h64 hbc hu64
  go_enter Tryz.func3, Tryz.ntmps3
  go_wp2_with fail
  refine (unhide hfits).mono ?_
  rintro e w2 ⟨rfl, hb2⟩
  rw [← hw1h.out] at hb2
  obtain ⟨⟨hbw2, hg2, hbc2⟩, c0, c1, c2⟩ := hK.out w2 hb2
  have hb2h := Lib.hid hb2
  have hbw2h := Lib.hid hbw2
  have hg2h := Lib.hid hg2
  rcases hf : fitsB g with _ | _
  · clear hb2 hbw2 hg2 hbc2
    go_wp2_with fail
    go_ret
    exact ⟨rfl, hbw2h.out⟩
  by_cases hbig : 2147483647 < barred.length
  · clear hb2 hbw2 hg2 hbc2
    go_wp2_with fail
    go_ret
    exact ⟨rfl, hbw2h.out⟩
  have hfl : g.nodes.length ≤ 2147483647 ∧ g.edges.length ≤ 2147483647 := by
    unfold fitsB at hf
    rw [Bool.and_eq_true] at hf
    exact ⟨of_decide_eq_true hf.1, of_decide_eq_true hf.2⟩
  have hfm := Lib.hid (formed_any g an cn ae ce w2 hfl.1 hfl.2 hcap hg2)
  clear hb2 hbw2 hg2 hbc2 hfits hf hw1h hfl
  go_wp2_with fail
  refine (unhide hfm).mono ?_
  rintro e w3 ⟨b3, rfl, hs3, hb3⟩
  have hb3' := hb2h.out.trans (hb3.mono hb2h.out.size)
  obtain ⟨⟨hbw3, hg3, hbc3⟩, d0, d1, d2⟩ := hK.out w3 hb3'
  have hb3h := Lib.hid hb3'
  have hbw3h := Lib.hid hbw3
  have hg3h := Lib.hid hg3
  have hs3h := Lib.hid hs3
  clear hb3 hb3' hbw3 hg3 hbc3 hs3 hfm c0 c1 c2 hb2h hbw2h hg2h
  cases b3
  · go_wp2_with fail
    refine (unhide hone _).mono ?_
    rintro e w4 ⟨rfl, hb4⟩
    have hb4' := Lib.hid (hbw3h.out.trans (hb4.mono hbw3h.out.size))
    clear hb4
    go_wp2_with fail
    go_ret
    exact ⟨rfl, hb4'.out⟩
  have hsz := Lib.hid (sized_any g an cn ae ce 20 w3 (by omega) hm hm' hg3h.out)
  have hformed := Lib.hid (hs3h.out rfl)
  clear hs3h hm hm'
  go_wp2_with fail
  refine (unhide hsz).mono ?_
  rintro e w4 ⟨b4, rfl, hs4, hb4⟩
  have hb4' := hb3h.out.trans (hb4.mono hb3h.out.size)
  obtain ⟨⟨hbw4, hg4, hbc4⟩, c0, c1, c2⟩ := hK.out w4 hb4'
  have hb4h := Lib.hid hb4'
  have hbw4h := Lib.hid hbw4
  have hg4h := Lib.hid hg4
  have hbc4h := Lib.hid hbc4
  have hs4h := Lib.hid hs4
  clear hb4 hb4' hbw4 hg4 hbc4 hs4 hsz d0 d1 d2 hb3h hbw3h hg3h
  cases b4
  · go_wp2_with fail
    refine (unhide hone _).mono ?_
    rintro e w5 ⟨rfl, hb5⟩
    have hb5' := Lib.hid (hbw4h.out.trans (hb5.mono hbw4h.out.size))
    clear hb5
    go_wp2_with fail
    go_ret
    exact ⟨rfl, hb5'.out⟩
  by_cases hb60 : 60 < barred.length
  · go_wp2_with fail
    refine (unhide hone _).mono ?_
    rintro e w5 ⟨rfl, hb5⟩
    have hb5' := Lib.hid (hbw4h.out.trans (hb5.mono hbw4h.out.size))
    clear hb5
    go_wp2_with fail
    go_ret
    exact ⟨rfl, hb5'.out⟩
  have hsized := Lib.hid (hs4h.out rfl)
  have hn20 : g.nodes.length ≤ 20 := hsized.out.1
  have he200 : g.edges.length ≤ 200 := hsized.out.2.1
  have hok := Lib.hid (ok_of hsized.out hformed.out)
  have hhas := Lib.hid (has_any an g.nodes.length cn g.nodes u w4 rfl (by omega) hg4h.out.nodes)
  clear hs4h hsized
  go_wp2_with fail
  refine (unhide hhas).mono ?_
  rintro e w5 ⟨rfl, rfl⟩
  by_cases hu : u ∈ g.nodes
  rotate_left
  · have hud : decide (u ∈ g.nodes) = false := decide_eq_false hu
    rw [hud]
    go_wp2_with fail
    refine (unhide hone _).mono ?_
    rintro e w6 ⟨rfl, hb6⟩
    have hb6' := Lib.hid (hbw4h.out.trans (hb6.mono hbw4h.out.size))
    clear hb6
    go_wp2_with fail
    go_ret
    exact ⟨rfl, hb6'.out⟩
  have hud : decide (u ∈ g.nodes) = true := decide_eq_true hu
  rw [hud]
  have huh := Lib.hid hu
  clear hhas hud hu
  go_wp2_with fail
  go_loopg [7] (g.nodes.length) (fun gk s7 wr => ∃ k : Nat, k ≤ g.nodes.length ∧ gk = g.nodes.length - k ∧ s7 = .int .i64 (ow u k) ∧ wr = w4 ∧ ∀ j, j < k → ow u j ∈ g.nodes)
  case atStart => exact ⟨0, Nat.zero_le _, rfl, by rw [ow_zero hu64h.out], rfl, fun j h => absurd h (Nat.not_lt_zero j)⟩
  case round =>
    obtain ⟨k, hk, hgk, rfl, rfl, H⟩ := hrel
    obtain ⟨out, hout⟩ : ∃ out, out = ow u k := ⟨_, rfl⟩
    rw [← hout]
    have hhas := Lib.hid (has_any an g.nodes.length cn g.nodes out wr rfl (by omega) hg4h.out.nodes)
    have hgkh := Lib.hid hgk
    have hHh := Lib.hid H
    have houth := Lib.hid hout
    clear hgk H hout
    go_wp2_with fail
    refine (unhide hhas).mono ?_
    rintro e w5 ⟨rfl, rfl⟩
    by_cases ho : out ∈ g.nodes
    · have hod : decide (out ∈ g.nodes) = true := decide_eq_true ho
      rw [hod]
      have hall : ∀ j, j ≤ k → ow u j ∈ g.nodes := fun j hj => by
        rcases Nat.lt_or_eq_of_le hj with h | h
        · exact hHh.out j h
        · rw [h, ← houth.out]; exact ho
      have hkn : k < g.nodes.length := ow_few (by omega) hk hall
      have hallh := Lib.hid hall
      have hnxt : Hid (IntKind.i64.wrap (out + 1) = ow u (k + 1)) := by unfold Hid; rw [houth.out]; exact ow_step u k
      clear hall hod ho hhas
      go_wp2_with fail
      go_roundg (g.nodes.length - (k + 1))
      case measure => have := hgkh.out; omega
      case rel => exact ⟨k + 1, by omega, rfl, (by refine congrArg _ (Eq.trans ?_ hnxt.out); first | rfl | (rw [IntKind.wrap_i64]; done) | (rw [IntKind.wrap_i64]; rfl) | (rw [IntKind.wrap_i64]; unfold wrap64; omega)), by first | rfl | trivial, fun j hj => hallh.out j (by omega)⟩
    · have hod : decide (out ∈ g.nodes) = false := decide_eq_false ho
      rw [hod]
      have hoh := Lib.hid ho
      have hB := Lib.hid (bfirst_any g an cn ae ce u out barred ab cb wr (by omega) (by omega) hg4h.out hok.out huh.out h64h.out (by omega) hbc4h.out)
      clear hod ho hhas hgkh hHh houth
      go_wp2_with fail
      refine (unhide hB).mono ?_
      rintro e w6 ⟨L, aL, cL, okb, hBE, hLl, rfl, hcL, hb6⟩
      have hreach : ∀ x, Reach (gSuccF g barred) u x → x ∈ g.nodes := fun x r => by
        induction r with
        | refl => exact huh.out
        | step _ hy ih => exact asc_mem.1 (List.mem_filter.1 ((succ_told hok.out barred ih _).1 hy)).1
      have hokb : okb = false := by
        cases okb with
        | false => rfl
        | true => exact absurd (hreach _ (hBE.ok_iff.1 rfl)) hoh.out
      subst hokb
      obtain ⟨dL, hQL⟩ : ∃ d, QInv (gSuccF g barred) u out d L [] [] := by
        rcases hBE with ⟨_, d, h⟩ | ⟨h, _⟩
        · exact ⟨d, h⟩
        · cases h
      have hb6' := hb4h.out.trans (hb6.mono hb4h.out.size)
      obtain ⟨⟨hbw6, hg6, hbc6⟩, d0, d1, d2⟩ := hK.out w6 hb6'
      have hO := Lib.hid (openS_any g an cn ae ce barred ab cb w6 (by omega) hg6 (by omega) hbc6)
      have hQLh := Lib.hid hQL
      have hcLh := Lib.hid hcL
      have hbw6h := Lib.hid hbw6
      simp only [Bool.false_eq_true, if_false]
      clear hreach hBE hQL hb6 hb6' hbw6 hg6 hbc6 hcL hB c0 c1 c2 hb4h hbw4h hg4h hbc4h
      go_wp2_with fail
      refine (unhide hO).mono ?_
      rintro e w7 ⟨aE, cE, rfl, hgO, hb7⟩
      have hel : (openG g barred).edges.length ≤ 200 := Nat.le_trans (List.length_filter_le _ _) he200
      have hD := Lib.hid (depths_any (openG g barred) an cn aE cE u out w7 (by show g.nodes.length ≤ 1000; omega) hformed.out.1 (by omega) hgO huh.out hoh.out)
      have hbw7 := hbw6h.out.trans (hb7.mono hbw6h.out.size)
      have hcL7 := Lib.hid (hcLh.out.below hb7)
      have hbw7h := Lib.hid hbw7
      obtain ⟨eL, heL⟩ : ∃ eL, eL = (openG g barred).edges.length := ⟨_, rfl⟩
      rw [← heL]
      have hD' : Hid (Calls Tryz.prog 14 #[.agg #[.bool g.dir, .slice an g.nodes.length cn, .slice aE eL cE], .int .i64 u] w7 (DepthsPost w7 (openG g barred) u out)) := by unfold Hid; rw [heL]; exact hD.out
      clear hb7 hgO hbw7 hcLh hbw6h hD heL hel
      go_wp2_with fail
      refine (unhide hD').mono ?_
      rintro e w8 ⟨dP, P, W, aW, cW, hQP, hWP, hWl, hW1000, rfl, hcW, hb8⟩
      have htold := told_same (ids := g.nodes) huh.out (fun x hx y => succ_told hok.out barred hx y) (fun x hx y hy => asc_mem.1 (List.mem_filter.1 ((succ_told hok.out barred hx y).1 hy)).1) hQLh.out hQP
      obtain ⟨n, hn⟩ : ∃ n, n = W.length := ⟨_, rfl⟩
      have hLn : L.length = n := by rw [hn, hWl]; exact htold.2.symm
      have hWL : Hid (∀ p ∈ W, p ∈ L) := fun p hp => htold.1 p (hWP p hp)
      rw [← hn, hLn]
      have hcL8 := Lib.hid (hcL7.out.below hb8)
      have hbw8 := Lib.hid (hbw7h.out.trans (hb8.mono hbw7h.out.size))
      have hcWh := Lib.hid hcW
      have hnh := Lib.hid hn
      have hLnh := Lib.hid hLn
      rw [← hn] at hW1000
      clear htold hQP hWP hWl hcW hb8 hD' hQLh hn hLn hcL7 hbw7h hLl
      go_wp2_with fail
      go_loopw [13] (fun s13 wi => ∃ i : Nat, i ≤ n ∧ s13 = .int .i64 i ∧ Below w8.heap.size w8 wi) (fun s13 _ => n - (intOf s13).toNat)
      case atStart => exact ⟨0, Nat.zero_le _, rfl, Below.refl _ _⟩
      case round =>
        obtain ⟨i, hi, rfl, hb⟩ := hrel
        have hbh := Lib.hid hb
        clear hb
        by_cases hlt : i < n
        · have hlt' : i < W.length := by have := hnh.out; omega
          obtain ⟨bW, oW, rfl, _, hr⟩ := (hcWh.out.below hbh.out).at (by rw [visCells_length]; omega)
          obtain ⟨s1, s2⟩ := visCells_get W i hlt'
          have x0 : wr.cell? ⟨bW, oW + i * 2, none⟩ = some (.int .i64 W[i].1) := hr _ _ s1
          have x1 : wr.cell? ⟨bW, oW + i * 2 + 1, none⟩ = some (.int .i64 W[i].2) := by rw [Nat.add_assoc]; exact hr _ _ s2
          have hmem := hWL.out _ (List.getElem_mem hlt')
          obtain ⟨x, hx⟩ : ∃ x, x = W[i].1 := ⟨_, rfl⟩
          obtain ⟨y, hy⟩ : ∃ y, y = W[i].2 := ⟨_, rfl⟩
          rw [← hx] at x0
          rw [← hy] at x1
          have hmem' : (x, y) ∈ L := by rw [hx, hy]; exact hmem
          have hcon := Lib.hid (visContains_any aL n cL L x y wr hLnh.out.symm (by omega) (hcL8.out.below hbh.out) hmem')
          clear hr s1 s2 hx hy hmem hmem'
          go_wp2_with fail
          refine (unhide hcon).mono ?_
          rintro e w9 ⟨rfl, hb9⟩
          have hb9' := Lib.hid (hbh.out.trans (hb9.mono hbh.out.size))
          clear hb9 hcon
          go_wp2_with fail
          go_roundw
          case rel => exact ⟨i + 1, by omega, by go_num, hb9'.out⟩
          case measure => simp [intOf]; omega
        · have hbf := Lib.hid (hbw8.out.trans (hbh.out.mono hbw8.out.size))
          go_wp2_with fail
          refine (unhide hone _).mono ?_
          rintro e w9 ⟨rfl, hb9⟩
          have hb9' := Lib.hid (hbf.out.trans (hb9.mono hbf.out.size))
          clear hb9
          go_wp2_with fail
          go_ret
          exact ⟨rfl, hb9'.out⟩
end Go.Proofs.YtpmphefmmcbpaaaGreat
