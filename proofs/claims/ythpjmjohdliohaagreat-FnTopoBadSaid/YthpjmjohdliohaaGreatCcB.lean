/- topo.ConnectedComponents.
   impl.Components at a good graph without directions. -/
import Derived.Test.YthpjmjohdliohaaGreatCcAll
import Derived.BigRegion
import Derived.Test.YthpjmjohdliohaaGreatCmpA
import Derived.Test.YthpjmjohdliohaaGreatBothWays
namespace Go.Proofs.YthpjmjohdliohaaGreat
open Go.RowKit

/-- What ConnectedComponents gives. -/
def CcRes (w : World) (ids : List Int) (outs : List (List Arc)) (e : Ending) (w' : World) : Prop :=
  ∃ (la : Option Addr) (lc : Nat) (vs : List Value) (L : List (List Int)), e = .returned (.slice la L.length lc) ∧ w'.ownsRow w.heap.size 50 1 (.slice la L.length lc) L.length vs ∧ CRows w' w.heap.size vs L ∧
    DAll (succOf ids outs) ids ids.length L ∧ Below w.heap.size w w'

set_option maxRecDepth 100000 in
set_option maxHeartbeats 4000000 in
theorem cc_any (gb lo hi : Nat) (ids : List Int) (outs ins : List (List Arc)) (w : World) (hids : ids.length ≤ 1000) (h64 : ∀ x ∈ ids, In64 x) (hsym : ∀ x ∈ ids, ∀ y ∈ succOf ids outs x, y ∈ ids ∧ x ∈ succOf ids outs y) (hF : FarIn lo hi w gb ids outs ins) :
    Calls Tryz.prog 28 #[.iface 62 (.agg #[.pointer (some ⟨gb, 0, none⟩)])] w (CcRes w ids outs) := by
  obtain ⟨w1, hw1⟩ : ∃ w1, w1 = w.alloc (.cells #[.nilFunc, .nilFunc, .slice none 0 0, .map none] 105) := ⟨_, rfl⟩
  obtain ⟨w2, hw2⟩ : ∃ w2, w2 = w1.alloc (.cells #[.slice none 0 0] 50) := ⟨_, rfl⟩
  obtain ⟨w3, hw3⟩ : ∃ w3, w3 = w2.alloc (.cells #[.slice none 0 0] 58) := ⟨_, rfl⟩
  have z1 : w1.heap.size = w.heap.size + 1 := by rw [hw1]; simp
  have z2 : w2.heap.size = w.heap.size + 1 + 1 := by rw [hw2]; simp [z1]
  have z3 : w3.heap.size = w.heap.size + 1 + 1 + 1 := by rw [hw3]; simp [z2]
  have b1 : Below w.heap.size w w1 := by rw [hw1]; exact alloc_below _ _
  have b2 : Below w1.heap.size w1 w2 := by rw [hw2]; exact alloc_below _ _
  have b3 : Below w2.heap.size w2 w3 := by rw [hw3]; exact alloc_below _ _
  have b13 : Below w1.heap.size w1 w3 := b2.trans (b3.mono (by omega))
  have bw3 : Below w.heap.size w w3 := b1.trans (b13.mono (by omega))
  have hB : DBlk w3 w.heap.size .nilFunc .nilFunc (.slice none 0 0) (.map none) := by
    refine (b13.block _ (by omega)).trans ?_
    have := heap_alloc_new w (.cells #[.nilFunc, .nilFunc, .slice none 0 0, .map none] 105)
    rw [← hw1] at this
    exact this
  have hP : VBlk w3 (w.heap.size + 1) 50 (.slice none 0 0) := by
    refine (b3.block _ (by omega)).trans ?_
    have := heap_alloc_new w1 (.cells #[.slice none 0 0] 50)
    rw [← hw2, z1] at this
    exact this
  have hL : VBlk w3 (w.heap.size + 1 + 1) 58 (.slice none 0 0) := by
    have := heap_alloc_new w2 (.cells #[.slice none 0 0] 58)
    rw [← hw3, z2] at this
    exact this
  have hhi := hF.1
  have hwa := cwalkAll_any gb lo hi ids outs ins w.heap.size w.heap.size (w.heap.size + 1) (w.heap.size + 1 + 1) w3 hids h64 hsym hB hP hL (hF.below bw3) ⟨by omega, by omega, by omega⟩ ⟨by omega, by omega, by omega⟩ ⟨.inr (by omega), .inr (by omega), .inr (by omega)⟩
  have hw123 : Hid (w3 = ((w.alloc (.cells #[.nilFunc, .nilFunc, .slice none 0 0, .map none] 105)).alloc (.cells #[.slice none 0 0] 50)).alloc (.cells #[.slice none 0 0] 58)) := by unfold Hid; rw [hw3, hw2, hw1]
  unfold noteC at hwa
  have hwah := Lib.hid hwa
  have bw3h := Lib.hid bw3
  clear hw1 hw2 hw3 z1 z2 z3 b1 b2 b3 b13 bw3 hB hP hL hhi hwa hF h64 hsym
  go_enter Tryz.func28, Tryz.ntmps28
  go_wp2_with fail
  rw [← hw123.out]
  refine (unhide hwah).mono ?_
  rintro e w6 ⟨rfl, la, lc, vs, L, hL6, hall, hb6⟩
  have l0 := hL6.blk.c0
  have hfin : Hid (CcRes w ids outs (.returned (.slice la L.length lc)) w6) := ⟨la, lc, vs, L, rfl, hL6.row, hL6.rows, hall, bw3h.out.trans hb6⟩
  obtain ⟨n, hn2⟩ : ∃ n, n = L.length := ⟨_, rfl⟩
  rw [← hn2] at l0 hfin
  clear hL6 hall hb6 hwah hn2
  go_wp2_with fail
  go_ret
  exact hfin.out
end Go.Proofs.YthpjmjohdliohaaGreat

namespace Go.Proofs.YthpjmjohdliohaaGreat
open Go.RowKit

/-- What impl.Components gives. -/
def CompRes (w : World) (g : Gr) (e : Ending) (w' : World) : Prop :=
  ∃ (M : List (List Int)) (a : Option Addr) (c : Nat), Comps (sFrom g) (asc g.nodes) (asc g.nodes).length M ∧ e = .returned (.tuple #[.slice a M.length c, .bool false]) ∧ LRows w' a (ordC M) ∧ Below w.heap.size w w'

theorem flat_le {C : List (List Int)} (h : ∀ c ∈ C, c ≠ []) : C.length ≤ C.flatten.length := by
  induction C with
  | nil => simp
  | cons c C ih =>
    have h5 := ih (fun c hc => h c (List.mem_cons_of_mem _ hc))
    have h6 := h c List.mem_cons_self
    have h7 : 0 < c.length := List.length_pos_iff.2 h6
    rw [List.flatten_cons, List.length_append, List.length_cons]
    omega

theorem memLe {c : List Int} {l : List (List Int)} (h : c ∈ l) : c.length ≤ l.flatten.length := by
  induction l with
  | nil => cases h
  | cons d l ih =>
    rw [List.flatten_cons, List.length_append]
    rcases List.mem_cons.1 h with e | e
    · rw [e]; omega
    · have := ih e; omega

theorem okNodup {g : Gr} (hok : okGraph g = true) : g.nodes.Nodup := by
  unfold okGraph at hok
  rw [Bool.and_eq_true] at hok
  exact of_decide_eq_true hok.1

set_option maxRecDepth 100000 in
set_option maxHeartbeats 4000000 in
theorem components_any (g : Gr) (an : Option Addr) (cn : Nat) (ae : Option Addr) (ce : Nat) (w : World) (hn : g.nodes.length ≤ 1000) (he : g.edges.length ≤ 1048576) (hg : GrAt w g an cn ae) (hok : okGraph g = true) (hd : g.dir = false) (h64 : ∀ x ∈ g.nodes, In64 x) :
    Calls Tryz.prog 10 #[.agg #[.bool g.dir, .slice an g.nodes.length cn, .slice ae g.edges.length ce]] w (CompRes w g) := by
  obtain ⟨w1, hw1⟩ : ∃ w1, w1 = w.alloc (.cells #[.bool g.dir, .slice an g.nodes.length cn, .slice ae g.edges.length ce] 25) := ⟨_, rfl⟩
  have hb1 : Below w.heap.size w w1 := by rw [hw1]; exact alloc_below w _
  have hbw := bothWays_any g an cn ae ce w1 (by omega) he (hg.below hb1)
  rw [hw1] at hbw
  have hbwh := Lib.hid hbw
  have hw1h := Lib.hid hw1
  have hb1h := Lib.hid hb1
  have hokh := Lib.hid hok
  have hdh := Lib.hid hd
  have h64h : Hid (∀ x ∈ asc g.nodes, In64 x) := fun x hx => h64 x (asc_mem.1 hx)
  have hids : Hid ((asc g.nodes).length ≤ 1000) := by unfold Hid; rw [asc_length]; exact hn
  have hsymh := Lib.hid (succ_sym hok hd)
  clear hw1 hb1 hbw hg h64 hok hd
  go_enter Tryz.func10, Tryz.ntmps10
  go_wp2_with fail
  refine (unhide hbwh).mono ?_
  rintro e w2 ⟨gb, rfl, hb2, hp2⟩
  rw [← hw1h.out] at hb2 hp2
  have hFA := hp2 hokh.out
  have hres : (okGraph g && !g.dir) = true := by rw [hokh.out, hdh.out]; rfl
  rw [hres]
  have hbw2 := Lib.hid (hb1h.out.trans (hb2.mono hb1h.out.size))
  have hcc := Lib.hid (fun (W : World) (hW : Below w2.heap.size w2 W) => cc_any gb w1.heap.size w2.heap.size (asc g.nodes) (outsOf g) _ W hids.out h64h.out hsymh.out (hFA.within.below hW))
  clear hp2 hFA hres hb2 hbwh
  go_wp2_with fail
  refine (hcc.out _ (alloc_below _ _)).mono ?_
  rintro e w4 ⟨la, lc, vs, L, rfl, hov, hrows, hall, hb4⟩
  obtain ⟨w3, hw3⟩ : ∃ w3, w3 = w2.alloc (.cells #[.pointer (some ⟨gb, 0, none⟩)] 62) := ⟨_, rfl⟩
  rw [← hw3] at hov hrows hb4
  have hb3 : Below w2.heap.size w2 w3 := by rw [hw3]; exact alloc_below _ _
  have hndn : (asc g.nodes).Nodup := (asc_perm _).nodup_iff.2 (okNodup hokh.out)
  have hM0 : Comps (sFrom g) (asc g.nodes) (asc g.nodes).length (L.map asc) := comps_of_all hndn (from_succ hokh.out) hsymh.out hall
  have hfl : L.flatten.length ≤ 1000 := by
    have h1 := (hall.perm _ hndn).length_eq
    have h2 := hids.out
    omega
  have hne : ∀ l ∈ L, l ≠ [] := fun l hl => (hall.walk l hl).ne
  have hLl : L.length ≤ 1000 := Nat.le_trans (flat_le hne) hfl
  have hli := Lib.hid (lists_any w3.heap.size L.length la lc vs L w4 rfl hLl (fun c hc => Nat.le_trans (memLe hc) hfl) hov hrows (headsC_nodup hM0.nd hM0.ne) hM0.ne)
  have hM := Lib.hid hM0
  have hbw4 : Hid (Below w.heap.size w w4) := hbw2.out.trans ((hb3.trans (hb4.mono hb3.size)).mono hbw2.out.size)
  obtain ⟨n, hn2⟩ : ∃ n, n = L.length := ⟨_, rfl⟩
  rw [← hn2] at hli ⊢
  have hn2h := Lib.hid hn2
  clear hov hrows hall hb4 hw3 hb3 hndn hM0 hfl hne hLl hcc hbw2 hn2
  go_wp2_with fail
  refine (unhide hli).mono ?_
  rintro e w5 ⟨a5, c5, rfl, hlr, hb5⟩
  have hfin : Hid (CompRes w g (.returned (.tuple #[.slice a5 n c5, .bool false])) w5) :=
    ⟨L.map asc, a5, c5, hM.out, by rw [List.length_map, hn2h.out], hlr, hbw4.out.trans (hb5.mono hbw4.out.size)⟩
  clear hlr hb5 hli
  go_wp2_with fail
  go_ret2
  exact hfin.out
end Go.Proofs.YthpjmjohdliohaaGreat
