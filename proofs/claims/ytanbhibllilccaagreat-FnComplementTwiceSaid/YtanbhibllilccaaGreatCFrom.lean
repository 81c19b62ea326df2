/- graph.Complement.From: what it leaves.
   graph.Complement.From over a directed graph.
   graph.Complement.From over an undirected graph. -/
import Derived.Test.YtanbhibllilccaaGreatFilt
import Derived.Test.YtanbhibllilccaaGreatSucc
import Derived.Test.YtanbhibllilccaaGreatFrom
import Derived.Test.YtanbhibllilccaaGreatNodes
namespace Go.Proofs.YtanbhibllilccaaGreat
open Go.RowKit Go.Maps

theorem nodes_methodDir (n : Nat) (a : Addr) (w : World) : (method (n + 1) 81 (.agg #[.pointer (some a)]) "Nodes").run Tryz.prog w = .ok (203, .agg #[.pointer (some a)]) w := by kernel_rfl
theorem nodes_methodUnd (n : Nat) (a : Addr) (w : World) : (method (n + 1) 62 (.agg #[.pointer (some a)]) "Nodes").run Tryz.prog w = .ok (165, .agg #[.pointer (some a)]) w := by kernel_rfl
theorem from_methodDir (n : Nat) (a : Addr) (w : World) : (method (n + 1) 81 (.agg #[.pointer (some a)]) "From").run Tryz.prog w = .ok (200, .agg #[.pointer (some a)]) w := by kernel_rfl
theorem from_methodUnd (n : Nat) (a : Addr) (w : World) : (method (n + 1) 62 (.agg #[.pointer (some a)]) "From").run Tryz.prog w = .ok (162, .agg #[.pointer (some a)]) w := by kernel_rfl
theorem cnodes_methodDir (n : Nat) (a : Addr) (w : World) : (method (n + 2) 51 (.agg #[.iface 81 (.agg #[.pointer (some a)])]) "Nodes").run Tryz.prog w = .ok (203, .agg #[.pointer (some a)]) w := by kernel_rfl
theorem cnodes_methodUnd (n : Nat) (a : Addr) (w : World) : (method (n + 2) 51 (.agg #[.iface 62 (.agg #[.pointer (some a)])]) "Nodes").run Tryz.prog w = .ok (165, .agg #[.pointer (some a)]) w := by kernel_rfl
theorem cfrom_method (n : Nat) (v : Value) (w : World) : (method (n + 1) 51 (.agg #[v]) "From").run Tryz.prog w = .ok (158, .agg #[v]) w := by kernel_rfl

set_option maxHeartbeats 1000000 in
theorem nodeP_any (pb : Nat) (ids : List Int) (outs ins : List (List Arc)) (x : Int) (w : World) (hids : ids.length ≤ 1000) (hp : PlainAt w pb ids outs ins) (hx : x ∈ ids) :
    Calls Tryz.prog 171 #[.pointer (some ⟨pb, 0, none⟩), .int .i64 x] w fun e w' => e = .returned (.iface 253 (.int .i64 x)) ∧ w = w' := by
  obtain ⟨ai, ci, h0, hc0⟩ := hp.row
  have hpi := Lib.hid (pindex_any pb ai ids.length ci ids x _ h0 rfl (by omega) hc0 hp.up)
  have hd : decide (x ∈ ids) = true := decide_eq_true hx
  clear hp hc0 h0 hx
  go_enter Tryz.func171, Tryz.ntmps171
  go_wp2_with (go_at_call 53; refine (unhide hpi).mono ?_; rintro e w' ⟨rfl, rfl⟩)
  go_ret
  exact ⟨rfl, rfl⟩

/-- An iterator at its start, above lo. -/
def One (lo : Nat) (w : World) (ib : Nat) (l : List Int) : Prop := ∃ B E, lo ≤ B ∧ E ≤ w.heap.size ∧ IterAt w B E ib 0 l
/-- Two of them, apart. -/
def Two (lo : Nat) (w : World) (ib1 : Nat) (l1 : List Int) (ib2 : Nat) (l2 : List Int) : Prop :=
  ∃ B1 E1 B2 E2, IterAt w B1 E1 ib1 0 l1 ∧ IterAt w B2 E2 ib2 0 l2 ∧ lo ≤ B1 ∧ lo ≤ B2 ∧ E1 ≤ w.heap.size ∧ E2 ≤ w.heap.size ∧ (E1 ≤ B2 ∨ E2 ≤ B1)
theorem One.drew {lo ib : Nat} {w : World} {l : List Int} (h : One lo w ib l) : One lo w.drew ib l := by
  obtain ⟨B, E, h1, h2, h3⟩ := h
  exact ⟨B, E, h1, h2, h3.same fun _ _ _ => rfl⟩
theorem Two.drew {lo ib1 ib2 : Nat} {w : World} {l1 l2 : List Int} (h : Two lo w ib1 l1 ib2 l2) : Two lo w.drew ib1 l1 ib2 l2 := by
  obtain ⟨B1, E1, B2, E2, h1, h2, h3, h4, h5, h6, h7⟩ := h
  exact ⟨B1, E1, B2, E2, h1.same fun _ _ _ => rfl, h2.same fun _ _ _ => rfl, h3, h4, h5, h6, h7⟩
theorem two_of {lo ib1 ib2 : Nat} {w w' : World} {l1 l2 : List Int} (h : One lo w ib1 l1) (hit : IterAt w' w.heap.size w'.heap.size ib2 0 l2) (hb : Below w.heap.size w w') (hl : lo ≤ w.heap.size) : Two lo w' ib1 l1 ib2 l2 ∧ Two lo w' ib2 l2 ib1 l1 := by
  obtain ⟨B, E, h1, h2, h3⟩ := h
  have h3' := h3.same (w' := w') fun j _ hj => hb.block j (by omega)
  have hs := hb.size
  exact ⟨⟨B, E, _, _, h3', hit, h1, hl, by omega, Nat.le_refl _, .inl h2⟩, ⟨_, _, B, E, hit, h3', hl, h1, Nat.le_refl _, by omega, .inr h2⟩⟩

/-- What From of a complement gives. -/
def CFromPost (w : World) (ids ns : List Int) (x : Int) (e : Ending) (w' : World) : Prop :=
  ∃ fb ib fil, e = .returned (.iface 245 (.pointer (some ⟨fb, 0, none⟩))) ∧ FIterAt w' w.heap.size w'.heap.size fb ib 0 ids fil ∧ (∀ y, y ∈ fil ↔ y = x ∨ y ∈ ns) ∧ Below w.heap.size w w'
end Go.Proofs.YtanbhibllilccaaGreat

namespace Go.Proofs.YtanbhibllilccaaGreat
open Go.RowKit Go.Maps

set_option maxRecDepth 100000 in
set_option maxHeartbeats 1000000 in
theorem nodeDir_any (pb : Nat) (ids : List Int) (outs ins : List (List Arc)) (x : Int) (w : World) (hids : ids.length ≤ 1000) (hp : PlainAt w pb ids outs ins) (hx : x ∈ ids) :
    Calls Tryz.prog 202 #[.agg #[.pointer (some ⟨pb, 0, none⟩)], .int .i64 x] w fun e w' => e = .returned (.iface 253 (.int .i64 x)) ∧ Below w.heap.size w w' := by
  have hpi := Lib.hid (nodeP_any pb ids outs ins x _ hids (hp.below (alloc_below w (.cells #[.pointer (some ⟨pb, 0, none⟩)] 81))) hx)
  have hb := Lib.hid (alloc_below w (.cells #[.pointer (some ⟨pb, 0, none⟩)] 81))
  clear hp hx
  go_enter Tryz.func202, Tryz.ntmps202
  go_wp2_with fail
  refine (unhide hpi).mono ?_
  rintro e w' ⟨rfl, rfl⟩
  clear hpi
  go_wp2_with fail
  go_ret
  exact ⟨rfl, hb.out⟩

set_option maxRecDepth 100000 in
set_option maxHeartbeats 2000000 in
theorem cfromDir_any (pb : Nat) (ids : List Int) (outs ins : List (List Arc)) (x : Int) (w : World) (hids : ids.length ≤ 1000) (h64 : ∀ y ∈ ids, In64 y) (hp : PlainAt w pb ids outs ins) (hx : x ∈ ids) :
    Calls Tryz.prog 158 #[.agg #[.iface 81 (.agg #[.pointer (some ⟨pb, 0, none⟩)])], .int .i64 x] w (CFromPost w ids (succOf ids outs x) x) := by
  obtain ⟨w1, hw1⟩ : ∃ w1, w1 = w.alloc (.cells #[.iface 81 (.agg #[.pointer (some ⟨pb, 0, none⟩)])] 51) := ⟨_, rfl⟩
  have hb1 : Below w.heap.size w w1 := by rw [hw1]; exact alloc_below _ _
  have hz1 : w1.heap.size = w.heap.size + 1 := by rw [hw1]; simp
  have hblk : w1.heap[w.heap.size]? = some (.cells #[.iface 81 (.agg #[.pointer (some ⟨pb, 0, none⟩)])] 51 (0, 0)) := by rw [hw1]; exact heap_alloc_new _ _
  have c1 : w1.cell? ⟨w.heap.size, 0, none⟩ = some (.iface 81 (.agg #[.pointer (some ⟨pb, 0, none⟩)])) := by simp [World.cell?, hblk]
  have hp1 := hp.below hb1
  have hnode := Lib.hid (nodeDir_any pb ids outs ins x w1 hids hp1 hx)
  have hN1 : Hid (∀ W, Below w1.heap.size w1 W → Calls Tryz.prog 203 #[.agg #[.pointer (some ⟨pb, 0, none⟩)]] W fun e w' => ∃ ib, e = .returned (.iface 256 (.pointer (some ⟨ib, 0, none⟩))) ∧ One w.heap.size w' ib ids ∧ Below w1.heap.size w1 w' ∧ w'.cell? ⟨w.heap.size, 0, none⟩ = some (.iface 81 (.agg #[.pointer (some ⟨pb, 0, none⟩)]))) := fun W hW =>
    (nodesDir_any pb ids outs ins W hids (hp1.below hW)).mono fun e w' ⟨ib, e1, hit, hb⟩ =>
      have hbb := hW.trans (hb.mono hW.size)
      ⟨ib, e1, ⟨_, _, by have := hW.size; omega, Nat.le_refl _, hit⟩, hbb, cell_below hbb c1⟩
  have hN2 : Hid (∀ W ib2, Below w1.heap.size w1 W → One w.heap.size W ib2 (succOf ids outs x) → Calls Tryz.prog 203 #[.agg #[.pointer (some ⟨pb, 0, none⟩)]] W fun e w' => ∃ ib, e = .returned (.iface 256 (.pointer (some ⟨ib, 0, none⟩))) ∧ Two w.heap.size w' ib ids ib2 (succOf ids outs x) ∧ Below w1.heap.size w1 w') := fun W ib2 hW ho =>
    (nodesDir_any pb ids outs ins W hids (hp1.below hW)).mono fun e w' ⟨ib, e1, hit, hb⟩ =>
      ⟨ib, e1, (two_of ho hit hb (by have := hW.size; omega)).2, hW.trans (hb.mono hW.size)⟩
  have hF1 : Hid (∀ W, Below w1.heap.size w1 W → Calls Tryz.prog 200 #[.agg #[.pointer (some ⟨pb, 0, none⟩)], .int .i64 x] W fun e w' => ∃ ib, e = .returned (.iface 256 (.pointer (some ⟨ib, 0, none⟩))) ∧ One w.heap.size w' ib (succOf ids outs x) ∧ Below w1.heap.size w1 w' ∧ w'.cell? ⟨w.heap.size, 0, none⟩ = some (.iface 81 (.agg #[.pointer (some ⟨pb, 0, none⟩)]))) := fun W hW =>
    (fromDir_any pb ids outs ins x W (by omega) (hp1.below hW) hx).mono fun e w' ⟨ib, e1, hit, hb⟩ =>
      have hbb := hW.trans (hb.mono hW.size)
      ⟨ib, e1, ⟨_, _, by have := hW.size; omega, Nat.le_refl _, hit⟩, hbb, cell_below hbb c1⟩
  have hF2 : Hid (∀ W ib1, Below w1.heap.size w1 W → One w.heap.size W ib1 ids → Calls Tryz.prog 200 #[.agg #[.pointer (some ⟨pb, 0, none⟩)], .int .i64 x] W fun e w' => ∃ ib, e = .returned (.iface 256 (.pointer (some ⟨ib, 0, none⟩))) ∧ Two w.heap.size w' ib1 ids ib (succOf ids outs x) ∧ Below w1.heap.size w1 w') := fun W ib1 hW ho =>
    (fromDir_any pb ids outs ins x W (by omega) (hp1.below hW) hx).mono fun e w' ⟨ib, e1, hit, hb⟩ =>
      ⟨ib, e1, (two_of ho hit hb (by have := hW.size; omega)).1, hW.trans (hb.mono hW.size)⟩
  have hG : Hid (∀ W ib1 ib2, Below w1.heap.size w1 W → Two w.heap.size W ib1 ids ib2 (succOf ids outs x) → Calls Tryz.prog 160 #[.iface 256 (.pointer (some ⟨ib1, 0, none⟩)), .iface 256 (.pointer (some ⟨ib2, 0, none⟩)), .int .i64 x] W
      fun e w' => ∃ fb, e = .returned (.pointer (some ⟨fb, 0, none⟩)) ∧ Hid (CFromPost w ids (succOf ids outs x) x (.returned (.iface 245 (.pointer (some ⟨fb, 0, none⟩)))) w')) := fun W ib1 ib2 hW ⟨B1, E1, B2, E2, h1, h2, h3, h4, h5, h6, h7⟩ =>
    (newFilter_any w.heap.size B1 E1 ib1 B2 E2 ib2 ids (succOf ids outs x) x W hids h64 hx (succ_mem hp x) (by have := succ_len hp x; omega) h1 h2 ⟨h3, h4⟩ ⟨h5, h6⟩ h7).mono fun e w' ⟨fb, fil, e1, k1, k2, k3⟩ =>
      ⟨fb, e1, fb, ib1, fil, rfl, k1, k2, (hb1.trans (hW.mono (by omega))).trans k3⟩
  rw [hw1] at c1 hnode
  have hw1h := Lib.hid hw1
  clear hp hp1 hblk hb1 hz1 hw1 hx
  go_enter Tryz.func158, Tryz.ntmps158
  go_wp2_with fail
  refine (unhide hnode).mono ?_
  rintro e w2 ⟨rfl, hb2⟩
  rw [← hw1h.out] at hb2 c1
  have c2 := cell_below hb2 c1
  have hb2h := Lib.hid hb2
  clear hb2 c1 hnode hw1h
  go_wp2_with fail
  have m1 := nodes_methodDir
  have m2 := from_methodDir
  go_region_law (first
    | (go_simp; go_at_call 203; (with_reducible refine (hN2.out _ ibF (by repeat (first | exact hbF | refine Below.drew ?_)) (by repeat (first | exact hoF | refine One.drew ?_))).mono ?_); rintro e w4 ⟨ibN, rfl, h2N, hb4⟩)
    | (go_simp; go_at_call 200; (with_reducible refine (hF2.out _ ibN (by repeat (first | exact hbN | refine Below.drew ?_)) (by repeat (first | exact hoN | refine One.drew ?_))).mono ?_); rintro e w4 ⟨ibF, rfl, h2N, hb4⟩)
    | (go_simp; go_at_call 203; (with_reducible refine (hN1.out _ (by repeat (first | exact hb2h.out | refine Below.drew ?_))).mono ?_); rintro e wN ⟨ibN, rfl, hoN, hbN, cN⟩)
    | (go_simp; go_at_call 200; (with_reducible refine (hF1.out _ (by repeat (first | exact hb2h.out | refine Below.drew ?_))).mono ?_); rintro e wF ⟨ibF, rfl, hoF, hbF, cF⟩)
    | (go_simp; go_at_call 160; (with_reducible refine (hG.out _ ibN ibF (by repeat (first | exact hb4 | refine Below.drew ?_)) (by repeat (first | exact h2N | refine Two.drew ?_))).mono ?_); rintro e w5 ⟨fb, rfl, hfin⟩))
  all_goals
    go_wp2_with fail
    go_ret
    exact hfin.out
end Go.Proofs.YtanbhibllilccaaGreat

namespace Go.Proofs.YtanbhibllilccaaGreat
open Go.RowKit Go.Maps

set_option maxRecDepth 100000 in
set_option maxHeartbeats 1000000 in
theorem nodeUnd_any (pb : Nat) (ids : List Int) (outs ins : List (List Arc)) (x : Int) (w : World) (hids : ids.length ≤ 1000) (hp : PlainAt w pb ids outs ins) (hx : x ∈ ids) :
    Calls Tryz.prog 164 #[.agg #[.pointer (some ⟨pb, 0, none⟩)], .int .i64 x] w fun e w' => e = .returned (.iface 253 (.int .i64 x)) ∧ Below w.heap.size w w' := by
  have hpi := Lib.hid (nodeP_any pb ids outs ins x _ hids (hp.below (alloc_below w (.cells #[.pointer (some ⟨pb, 0, none⟩)] 62))) hx)
  have hb := Lib.hid (alloc_below w (.cells #[.pointer (some ⟨pb, 0, none⟩)] 62))
  clear hp hx
  go_enter Tryz.func164, Tryz.ntmps164
  go_wp2_with fail
  refine (unhide hpi).mono ?_
  rintro e w' ⟨rfl, rfl⟩
  clear hpi
  go_wp2_with fail
  go_ret
  exact ⟨rfl, hb.out⟩

set_option maxRecDepth 100000 in
set_option maxHeartbeats 2000000 in
theorem cfromUnd_any (pb : Nat) (ids : List Int) (outs ins : List (List Arc)) (x : Int) (w : World) (hids : ids.length ≤ 1000) (h64 : ∀ y ∈ ids, In64 y) (hp : PlainAt w pb ids outs ins) (hx : x ∈ ids) :
    Calls Tryz.prog 158 #[.agg #[.iface 62 (.agg #[.pointer (some ⟨pb, 0, none⟩)])], .int .i64 x] w (CFromPost w ids (succOf ids outs x) x) := by
  obtain ⟨w1, hw1⟩ : ∃ w1, w1 = w.alloc (.cells #[.iface 62 (.agg #[.pointer (some ⟨pb, 0, none⟩)])] 51) := ⟨_, rfl⟩
  have hb1 : Below w.heap.size w w1 := by rw [hw1]; exact alloc_below _ _
  have hz1 : w1.heap.size = w.heap.size + 1 := by rw [hw1]; simp
  have hblk : w1.heap[w.heap.size]? = some (.cells #[.iface 62 (.agg #[.pointer (some ⟨pb, 0, none⟩)])] 51 (0, 0)) := by rw [hw1]; exact heap_alloc_new _ _
  have c1 : w1.cell? ⟨w.heap.size, 0, none⟩ = some (.iface 62 (.agg #[.pointer (some ⟨pb, 0, none⟩)])) := by simp [World.cell?, hblk]
  have hp1 := hp.below hb1
  have hnode := Lib.hid (nodeUnd_any pb ids outs ins x w1 hids hp1 hx)
  have hN1 : Hid (∀ W, Below w1.heap.size w1 W → Calls Tryz.prog 165 #[.agg #[.pointer (some ⟨pb, 0, none⟩)]] W fun e w' => ∃ ib, e = .returned (.iface 256 (.pointer (some ⟨ib, 0, none⟩))) ∧ One w.heap.size w' ib ids ∧ Below w1.heap.size w1 w' ∧ w'.cell? ⟨w.heap.size, 0, none⟩ = some (.iface 62 (.agg #[.pointer (some ⟨pb, 0, none⟩)]))) := fun W hW =>
    (nodesUnd_any pb ids outs ins W hids (hp1.below hW)).mono fun e w' ⟨ib, e1, hit, hb⟩ =>
      have hbb := hW.trans (hb.mono hW.size)
      ⟨ib, e1, ⟨_, _, by have := hW.size; omega, Nat.le_refl _, hit⟩, hbb, cell_below hbb c1⟩
  have hN2 : Hid (∀ W ib2, Below w1.heap.size w1 W → One w.heap.size W ib2 (succOf ids outs x) → Calls Tryz.prog 165 #[.agg #[.pointer (some ⟨pb, 0, none⟩)]] W fun e w' => ∃ ib, e = .returned (.iface 256 (.pointer (some ⟨ib, 0, none⟩))) ∧ Two w.heap.size w' ib ids ib2 (succOf ids outs x) ∧ Below w1.heap.size w1 w') := fun W ib2 hW ho =>
    (nodesUnd_any pb ids outs ins W hids (hp1.below hW)).mono fun e w' ⟨ib, e1, hit, hb⟩ =>
      ⟨ib, e1, (two_of ho hit hb (by have := hW.size; omega)).2, hW.trans (hb.mono hW.size)⟩
  have hF1 : Hid (∀ W, Below w1.heap.size w1 W → Calls Tryz.prog 162 #[.agg #[.pointer (some ⟨pb, 0, none⟩)], .int .i64 x] W fun e w' => ∃ ib, e = .returned (.iface 256 (.pointer (some ⟨ib, 0, none⟩))) ∧ One w.heap.size w' ib (succOf ids outs x) ∧ Below w1.heap.size w1 w' ∧ w'.cell? ⟨w.heap.size, 0, none⟩ = some (.iface 62 (.agg #[.pointer (some ⟨pb, 0, none⟩)]))) := fun W hW =>
    (fromUnd_any pb ids outs ins x W (by omega) (hp1.below hW) hx).mono fun e w' ⟨ib, e1, hit, hb⟩ =>
      have hbb := hW.trans (hb.mono hW.size)
      ⟨ib, e1, ⟨_, _, by have := hW.size; omega, Nat.le_refl _, hit⟩, hbb, cell_below hbb c1⟩
  have hF2 : Hid (∀ W ib1, Below w1.heap.size w1 W → One w.heap.size W ib1 ids → Calls Tryz.prog 162 #[.agg #[.pointer (some ⟨pb, 0, none⟩)], .int .i64 x] W fun e w' => ∃ ib, e = .returned (.iface 256 (.pointer (some ⟨ib, 0, none⟩))) ∧ Two w.heap.size w' ib1 ids ib (succOf ids outs x) ∧ Below w1.heap.size w1 w') := fun W ib1 hW ho =>
    (fromUnd_any pb ids outs ins x W (by omega) (hp1.below hW) hx).mono fun e w' ⟨ib, e1, hit, hb⟩ =>
      ⟨ib, e1, (two_of ho hit hb (by have := hW.size; omega)).1, hW.trans (hb.mono hW.size)⟩
  have hG : Hid (∀ W ib1 ib2, Below w1.heap.size w1 W → Two w.heap.size W ib1 ids ib2 (succOf ids outs x) → Calls Tryz.prog 160 #[.iface 256 (.pointer (some ⟨ib1, 0, none⟩)), .iface 256 (.pointer (some ⟨ib2, 0, none⟩)), .int .i64 x] W
      fun e w' => ∃ fb, e = .returned (.pointer (some ⟨fb, 0, none⟩)) ∧ Hid (CFromPost w ids (succOf ids outs x) x (.returned (.iface 245 (.pointer (some ⟨fb, 0, none⟩)))) w')) := fun W ib1 ib2 hW ⟨B1, E1, B2, E2, h1, h2, h3, h4, h5, h6, h7⟩ =>
    (newFilter_any w.heap.size B1 E1 ib1 B2 E2 ib2 ids (succOf ids outs x) x W hids h64 hx (succ_mem hp x) (by have := succ_len hp x; omega) h1 h2 ⟨h3, h4⟩ ⟨h5, h6⟩ h7).mono fun e w' ⟨fb, fil, e1, k1, k2, k3⟩ =>
      ⟨fb, e1, fb, ib1, fil, rfl, k1, k2, (hb1.trans (hW.mono (by omega))).trans k3⟩
  rw [hw1] at c1 hnode
  have hw1h := Lib.hid hw1
  clear hp hp1 hblk hb1 hz1 hw1 hx
  go_enter Tryz.func158, Tryz.ntmps158
  go_wp2_with fail
  refine (unhide hnode).mono ?_
  rintro e w2 ⟨rfl, hb2⟩
  rw [← hw1h.out] at hb2 c1
  have c2 := cell_below hb2 c1
  have hb2h := Lib.hid hb2
  clear hb2 c1 hnode hw1h
  go_wp2_with fail
  have m1 := nodes_methodUnd
  have m2 := from_methodUnd
  go_region_law (first
    | (go_simp; go_at_call 165; (with_reducible refine (hN2.out _ ibF (by repeat (first | exact hbF | refine Below.drew ?_)) (by repeat (first | exact hoF | refine One.drew ?_))).mono ?_); rintro e w4 ⟨ibN, rfl, h2N, hb4⟩)
    | (go_simp; go_at_call 162; (with_reducible refine (hF2.out _ ibN (by repeat (first | exact hbN | refine Below.drew ?_)) (by repeat (first | exact hoN | refine One.drew ?_))).mono ?_); rintro e w4 ⟨ibF, rfl, h2N, hb4⟩)
    | (go_simp; go_at_call 165; (with_reducible refine (hN1.out _ (by repeat (first | exact hb2h.out | refine Below.drew ?_))).mono ?_); rintro e wN ⟨ibN, rfl, hoN, hbN, cN⟩)
    | (go_simp; go_at_call 162; (with_reducible refine (hF1.out _ (by repeat (first | exact hb2h.out | refine Below.drew ?_))).mono ?_); rintro e wF ⟨ibF, rfl, hoF, hbF, cF⟩)
    | (go_simp; go_at_call 160; (with_reducible refine (hG.out _ ibN ibF (by repeat (first | exact hb4 | refine Below.drew ?_)) (by repeat (first | exact h2N | refine Two.drew ?_))).mono ?_); rintro e w5 ⟨fb, rfl, hfin⟩))
  all_goals
    go_wp2_with fail
    go_ret
    exact hfin.out
end Go.Proofs.YtanbhibllilccaaGreat
