/- slices.Equal at []impl.Edge, of equal lists; laws.sameGraph of equal graphs.
   laws.builds. -/
import Derived.Test.YtanbhibllilccaaGreatEqRows
import Derived.Test.YtanbhibllilccaaGreatLaws1
import Derived.Test.YtanbhibllilccaaGreatCompl
namespace Go.Proofs.YtanbhibllilccaaGreat
open Go.RowKit

set_option maxRecDepth 100000 in
set_option maxHeartbeats 1000000 in
theorem eqEdges_true (a1 a2 : Option Addr) (n c1 c2 : Nat) (es : List (Int × Int × Int)) (w : World) (hn : n = es.length) (hs : es.length ≤ 1048576) (h1 : Cells w a1 (edgeCells es)) (h2 : Cells w a2 (edgeCells es)) :
    Calls Tryz.prog 21 #[.slice a1 n c1, .slice a2 n c2] w fun e w' => e = .returned (.bool true) ∧ ∃ q, w' = w.drewN q := by
  subst hn
  have h1h := Lib.hid h1
  have h2h := Lib.hid h2
  clear h1 h2
  go_enter Tryz.func21, Tryz.ntmps21
  go_wp2
  go_loopw [13] (fun i wr => ∃ k q : Nat, k ≤ es.length ∧ i = .int .i64 k ∧ wr = w.drewN q) (fun i _ => es.length - (intOf i).toNat)
  case atStart => exact ⟨0, 0, Nat.zero_le _, rfl, rfl⟩
  case round =>
    obtain ⟨k, q, hk, rfl, rfl⟩ := hrel
    by_cases hlt : k < es.length
    · obtain ⟨b1, o1, rfl, _, r1⟩ := h1h.out.at (by rw [edgeCells_length]; omega)
      obtain ⟨b2, o2, rfl, _, r2⟩ := h2h.out.at (by rw [edgeCells_length]; omega)
      obtain ⟨k1, k2, k3⟩ := edge_cells r1 hlt
      obtain ⟨m1, m2, m3⟩ := edge_cells r2 hlt
      obtain ⟨x, hx⟩ : ∃ x, x = es[k].1 := ⟨_, rfl⟩
      obtain ⟨y, hy⟩ : ∃ y, y = es[k].2.1 := ⟨_, rfl⟩
      obtain ⟨z, hz⟩ : ∃ z, z = es[k].2.2 := ⟨_, rfl⟩
      rw [← hx] at k1 m1
      rw [← hy] at k2 m2
      rw [← hz] at k3 m3
      clear hx hy hz r1 r2
      go_wp2
      go_quiet (fail)
      go_wp2
      go_roundw
      case rel => exact ⟨k + 1, _, by omega, by go_num, rfl⟩
      case measure => simp [intOf]; omega
    · go_wp2
      go_ret
      exact ⟨rfl, _, rfl⟩

set_option maxRecDepth 100000 in
set_option maxHeartbeats 1000000 in
theorem sameGraph_true (d : Bool) (ns : List Int) (es : List (Int × Int × Int)) (a1 a2 b1 b2 : Option Addr) (n m c1 c2 e1 e2 : Nat) (w : World) (hn : n = ns.length) (hm : m = es.length) (hns : ns.length ≤ 1048576) (hes : es.length ≤ 1048576)
    (h1 : Cells w a1 (ints ns)) (h2 : Cells w b1 (ints ns)) (h3 : Cells w a2 (edgeCells es)) (h4 : Cells w b2 (edgeCells es)) :
    Calls Tryz.prog 8 #[.agg #[.bool d, .slice a1 n c1, .slice a2 m e1], .agg #[.bool d, .slice b1 n c2, .slice b2 m e2]] w fun e w' => e = .returned (.bool true) ∧ Below w.heap.size w w' := by
  obtain ⟨w1, hw1⟩ : ∃ w1, w1 = w.alloc (.cells #[.bool d, .slice a1 n c1, .slice a2 m e1] 25) := ⟨_, rfl⟩
  obtain ⟨w2, hw2⟩ : ∃ w2, w2 = w1.alloc (.cells #[.bool d, .slice b1 n c2, .slice b2 m e2] 25) := ⟨_, rfl⟩
  have bb1 : Below w.heap.size w w1 := by rw [hw1]; exact alloc_below _ _
  have z1 : w1.heap.size = w.heap.size + 1 := by rw [hw1]; simp
  have b12 : Below w1.heap.size w1 w2 := by rw [hw2]; exact alloc_below _ _
  have hb2 : Below w.heap.size w w2 := bb1.trans (b12.mono (by omega))
  have x0 : w2.cell? ⟨w.heap.size, 0, none⟩ = some (.bool d) := cell_below b12 (by rw [hw1]; simp)
  have x1 : w2.cell? ⟨w.heap.size, 1, none⟩ = some (.slice a1 n c1) := cell_below b12 (by rw [hw1]; simp)
  have x2 : w2.cell? ⟨w.heap.size, 2, none⟩ = some (.slice a2 m e1) := cell_below b12 (by rw [hw1]; simp)
  have hlw2 : w.heap.size + 1 < w2.heap.size := by rw [hw2]; simp [z1]
  have y0 : w2.cell? ⟨w.heap.size + 1, 0, none⟩ = some (.bool d) := by rw [hw2, ← z1]; simp
  have y1 : w2.cell? ⟨w.heap.size + 1, 1, none⟩ = some (.slice b1 n c2) := by rw [hw2, ← z1]; simp
  have y2 : w2.cell? ⟨w.heap.size + 1, 2, none⟩ = some (.slice b2 m e2) := by rw [hw2, ← z1]; simp
  have hK : Hid (∀ q, (w2.drewN q).cell? ⟨w.heap.size, 2, none⟩ = some (.slice a2 m e1) ∧ (w2.drewN q).cell? ⟨w.heap.size + 1, 2, none⟩ = some (.slice b2 m e2) ∧ Calls Tryz.prog 21 #[.slice a2 m e1, .slice b2 m e2] (w2.drewN q) fun e w' => e = .returned (.bool true) ∧ ∃ q', w' = w2.drewN q') := fun q =>
    ⟨x2, y2, (eqEdges_true a2 b2 m e1 e2 es _ hm hes ((h3.below hb2).drewN q) ((h4.below hb2).drewN q)).mono fun e w' ⟨k1, q', k2⟩ => ⟨k1, q + q', by rw [k2, World.drewN_drewN]⟩⟩
  have hei := eqInts_any a1 b1 n n c1 c2 ns ns w2 hn hn hns hns (h1.below hb2) (h2.below hb2)
  have hw2e : w2 = (w.alloc (.cells #[.bool d, .slice a1 n c1, .slice a2 m e1] 25)).alloc (.cells #[.bool d, .slice b1 n c2, .slice b2 m e2] 25) := by rw [hw2, hw1]
  have hdt : decide (ns = ns) = true := decide_eq_true rfl
  rw [hdt] at hei
  rw [hw2e] at hei
  have heih := Lib.hid hei
  have hw2h := Lib.hid hw2e
  have hb2h := Lib.hid hb2
  clear hw1 hw2 bb1 z1 b12 hb2 x0 x1 x2 hlw2 y0 y1 y2 hei hw2e h1 h2 h3 h4 hdt hn hm
  go_enter Tryz.func8, Tryz.ntmps8
  go_wp2_with fail
  refine (unhide heih).mono ?_
  rintro e w3 ⟨rfl, q, hq⟩
  rw [← hw2h.out] at hq
  subst hq
  obtain ⟨x2, y2, he⟩ := hK.out q
  have heh := Lib.hid he
  clear he heih hw2h
  go_wp2_with fail
  refine (unhide heh).mono ?_
  rintro e w4 ⟨rfl, q', rfl⟩
  clear heh x2 y2
  go_wp2_with fail
  go_ret
  exact ⟨rfl, below_draws hb2h.out q'⟩
end Go.Proofs.YtanbhibllilccaaGreat

namespace Go.Proofs.YtanbhibllilccaaGreat
open Go.RowKit

def g87 : Gr := ⟨false, [8, 7], []⟩
theorem ok87 : okGraph g87 = true := by decide
theorem asc87 : asc [8, 7] = [7, 8] := (asc_unique (List.Perm.swap _ _ _) (by simp)).symm

theorem comp87 : (compG g87).nodes = [7, 8] ∧ (compG g87).edges.length = 1 := by
  refine ⟨asc87, ?_⟩
  have h7 : ∀ u v : Int, u ∈ g87.nodes → (v ∈ cOuts g87 u ↔ v ∈ g87.nodes ∧ v ≠ u) := fun u v hu => by
    rw [cOuts_mem ok87 hu]
    have : arcB g87 u v = false := rfl
    simp [this]
  have e : ∀ u : Int, u ∈ g87.nodes → cOuts g87 u = [7, 8].filter fun v => decide (v ≠ u) := fun u hu => by
    have hn : asc g87.nodes = [7, 8] := asc87
    unfold cOuts
    rw [hn]
    refine List.filter_congr fun v hv => ?_
    have h8 : v ∈ g87.nodes := asc_mem.1 (by rw [hn]; exact hv)
    have h9 := h7 u v hu
    unfold cOuts at h9
    rw [List.mem_filter] at h9
    by_cases e : v = u
    · simp [e]
    · have := (h9.2 ⟨h8, e⟩).2
      rw [this]; simp [e]
  have hE : (compG g87).edges = seenE false [7, 8] (cOuts g87) := by
    show seenE g87.dir (asc g87.nodes) (cOuts g87) = _
    rw [show asc g87.nodes = [7, 8] from asc87]; rfl
  rw [hE]
  unfold seenE
  have h1 : cOuts g87 7 = [8] := by rw [e 7 (by simp [g87])]; decide
  have h2 : cOuts g87 8 = [7] := by rw [e 8 (by simp [g87])]; decide
  rw [List.flatMap_cons, List.flatMap_cons, h1, h2]
  decide

theorem two_cells {w : World} {g : Nat} {x y : Int} (h : w.heap[g]? = some (.cells #[.int .i64 x, .int .i64 y] 3 (0, 0))) : Cells w (some ⟨g, 0, none⟩) (ints [x, y]) := by
  refine Cells.mk (lt_of_block h) fun j u hj => ?_
  rw [cell_of_row w g (0 + j) _ _ _ h]
  have e : ints [x, y] = [.int .i64 x, .int .i64 y] := rfl
  rw [e] at hj
  simpa using hj

set_option maxRecDepth 100000 in
set_option maxHeartbeats 2000000 in
theorem builds_any (w : World) : Calls Tryz.prog 11 #[] w fun e w' => e = .returned (.bool true) ∧ Below w.heap.size w w' := by
  obtain ⟨w1, hw1⟩ : ∃ w1, w1 = w.alloc (.cells #[.int .i64 8, .int .i64 7] 3) := ⟨_, rfl⟩
  have hb1 : Below w.heap.size w w1 := by rw [hw1]; exact alloc_below w _
  have c1 : Cells w1 (some ⟨w.heap.size, 0, none⟩) (ints [8, 7]) := two_cells (by rw [hw1]; exact heap_alloc_new _ _)
  have h64 : ∀ x ∈ g87.nodes, In64 x := fun x hx => by
    have h : x = 8 ∨ x = 7 := by simpa [g87] using hx
    rcases h with rfl | rfl
    · show (Lit.int .i64 8).wf = true; rfl
    · show (Lit.int .i64 7).wf = true; rfl
  have hc := complUnd_any g87 (some ⟨w.heap.size, 0, none⟩) 2 none 0 w1 (by show 2 ≤ 1000; omega) (by show 0 ≤ 1048576; omega) ⟨c1, .inl rfl, fun e => by cases e⟩ ok87 rfl h64
  rw [show g87.nodes.length = 2 from rfl, show g87.edges.length = 0 from rfl] at hc
  rw [hw1] at hc
  have hch := Lib.hid hc
  have hb1h := Lib.hid hb1
  have hw1h := Lib.hid hw1
  clear hw1 hb1 c1 h64 hc
  go_enter Tryz.func11, Tryz.ntmps11
  go_wp2_with fail
  refine (unhide hch).mono ?_
  rintro e w2 ⟨a, c, a', c', rfl, hG, hb2⟩
  rw [← hw1h.out] at hb2
  obtain ⟨hc1, hc2⟩ := comp87
  have hbw : Below w.heap.size w w2 := hb1h.out.trans (hb2.mono hb1h.out.size)
  have hdir : (compG g87).dir = false := rfl
  have hn2 : (compG g87).nodes.length = 2 := by rw [hc1]; rfl
  have hcn := hG.nodes
  rw [hc1] at hcn
  obtain ⟨w3, hw3⟩ : ∃ w3, w3 = w2.alloc (.cells #[.bool false, .slice a 2 c, .slice a' 1 c'] 25) := ⟨_, rfl⟩
  have b3 : Below w2.heap.size w2 w3 := by rw [hw3]; exact alloc_below _ _
  obtain ⟨w4, hw4⟩ : ∃ w4, w4 = w3.alloc (.cells #[.int .i64 7, .int .i64 8] 3) := ⟨_, rfl⟩
  have b4 : Below w3.heap.size w3 w4 := by rw [hw4]; exact alloc_below _ _
  have b24 : Below w2.heap.size w2 w4 := b3.trans (b4.mono b3.size)
  have hei := eqInts_any a (some ⟨w3.heap.size, 0, none⟩) 2 2 c 2 [7, 8] [7, 8] w4 rfl rfl (by show 2 ≤ 1048576; omega) (by show 2 ≤ 1048576; omega) (hcn.below b24) (two_cells (by rw [hw4]; exact heap_alloc_new _ _))
  rw [show decide (([7, 8] : List Int) = [7, 8]) = true from rfl] at hei
  have hbw4 : Hid (Below w.heap.size w w4) := hbw.trans (b24.mono hbw.size)
  rw [hdir, hn2, hc2]
  have hz3 : w3.heap.size = w2.heap.size + 1 := by rw [hw3]; simp
  have x2 : w4.cell? ⟨w2.heap.size, 2, none⟩ = some (.slice a' 1 c') := cell_below b4 (by rw [hw3]; simp)
  have hx2 : Hid (∀ q, (w4.drewN q).cell? ⟨w2.heap.size, 2, none⟩ = some (.slice a' 1 c')) := fun q => x2
  rw [hz3] at hei
  have hw4e : w4 = (w2.alloc (.cells #[.bool false, .slice a 2 c, .slice a' 1 c'] 25)).alloc (.cells #[.int .i64 7, .int .i64 8] 3) := by rw [hw4, hw3]
  rw [hw4e] at hei
  have hw4h := Lib.hid hw4e
  have heih := Lib.hid hei
  clear hG hb2 hc1 hc2 hbw hdir hn2 hcn hw3 b3 hw4 b4 b24 hei hz3 x2 hw4e hch
  go_wp2_with fail
  refine (unhide heih).mono ?_
  rintro e w5 ⟨rfl, q, hq⟩
  rw [← hw4h.out] at hq
  subst hq
  have x2 := hx2.out q
  clear heih hx2
  go_wp2_with fail
  go_ret
  exact ⟨rfl, below_draws hbw4.out q⟩
end Go.Proofs.YtanbhibllilccaaGreat
