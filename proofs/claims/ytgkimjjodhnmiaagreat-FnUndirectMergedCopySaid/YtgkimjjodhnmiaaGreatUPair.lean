/- Two iterators in one (graph.nodeIteratorPair): where its parts lie, and how they are turned. -/
import Derived.Test.YtgkimjjodhnmiaaGreatVMap
import Derived.Test.YtgkimjjodhnmiaaGreatRoles
import Derived.Test.YtgkimjjodhnmiaaGreatFrom
import Derived.Deep.LoopGhost
import Derived.Deep.RegionLaw
import Derived.BigRegion
namespace Go.Proofs.YtgkimjjodhnmiaaGreat
open Go.RowKit Go.Maps

set_option maxHeartbeats 1000000 in
theorem nextOver_any (B E ib k : Nat) (ns : List Int) (w : World) (hn : ns.length ≤ 1048576) (hk : k = ns.length ∨ k = ns.length + 1) (hi : IterAt w B E ib k ns) :
    Calls Tryz.prog 184 #[.pointer (some ⟨ib, 0, none⟩)] w
      fun e w' => e = .returned (.bool false) ∧ w.grownBy w' (some ib) ∧ IterAt w' B E ib (ns.length + 1) ns := by
  obtain ⟨hB, hE, a, c, hrE, hb, hown, hne⟩ := hi
  have c0 : w.cell? ⟨ib, 0, none⟩ = some (.int .i64 ((k : Int) - 1)) := by simp [World.cell?, hb]
  have c1 : w.cell? ⟨ib, 1, none⟩ = some (.slice a ns.length c) := by simp [World.cell?, hb]
  have f0 : w.frozen? ⟨ib, 0, none⟩ = false := by simp [World.frozen?, hb]
  have t1 : IntKind.u64.wrap (IntKind.u64.wrap ((k : Int) - 1) + 1) = (k : Int) := by
    simp only [IntKind.wrap, IntKind.bits, IntKind.signed]
    simp; omega
  have t2 : IntKind.u64.wrap (ns.length : Int) = (ns.length : Int) := by
    simp only [IntKind.wrap, IntKind.bits, IntKind.signed]
    simp; omega
  have hkl : ¬ (k : Int) < (ns.length : Int) := by omega
  have hkd : decide ((k : Int) < (ns.length : Int)) = false := decide_eq_false hkl
  go_enter Tryz.func184, Tryz.ntmps184
  go_wp2
  go_quiet (fail)
  have hg : ∀ q v, w.grownBy ((w.drewN q).setCell ⟨ib, 0, none⟩ v) (some ib) := fun q v =>
    ⟨rfl, rfl, rfl, by rw [size_setCell]; exact Nat.le_refl _, fun j _ hj => Below.heap_setCell (w.drewN q) _ _ _ (by intro e; exact hj (by rw [e]))⟩
  have hit : ∀ q, IterAt ((w.drewN q).setCell ⟨ib, 0, none⟩ (.int .i64 (ns.length : Nat))) B E ib (ns.length + 1) ns := fun q => by
    refine ⟨hB, hE, a, c, hrE, ?_, hown.kept (hg q _) (.inr hne), hne⟩
    rw [show ((ns.length + 1 : Nat) : Int) - 1 = ((ns.length : Nat) : Int) by omega]
    have hb' : (w.drewN q).heap[ib]? = some (.cells #[.int .i64 ((k : Int) - 1), .slice a ns.length c] 211 (0, 0)) := hb
    exact (heap_set_self hb' 0 _).trans rfl
  have hgh := Lib.hid hg
  have hih := Lib.hid hit
  clear hg hit hb hown hB hrE hk
  go_wp2
  go_ret
  exact ⟨rfl, hgh.out _ _, hih.out _⟩

theorem resetO_any (B E ib k : Nat) (ns : List Int) (w : World) (hi : IterAt w B E ib k ns) :
    Calls Tryz.prog 186 #[.pointer (some ⟨ib, 0, none⟩)] w
      fun e w' => e = .returned (.tuple #[]) ∧ w.grownBy w' (some ib) ∧ IterAt w' B E ib 0 ns := by
  obtain ⟨hB, hE, a, c, hrE, hb, hown, hne⟩ := hi
  have f0 : w.frozen? ⟨ib, 0, none⟩ = false := by simp [World.frozen?, hb]
  have c0 : w.cell? ⟨ib, 0, none⟩ = some (.int .i64 ((k : Int) - 1)) := by simp [World.cell?, hb]
  have hg : ∀ v, w.grownBy (w.setCell ⟨ib, 0, none⟩ v) (some ib) := fun v =>
    ⟨rfl, rfl, rfl, by rw [size_setCell]; exact Nat.le_refl _, fun j _ hj => Below.heap_setCell w _ _ _ (by intro e; exact hj (by rw [e]))⟩
  have hit : Hid (w.grownBy (w.setCell ⟨ib, 0, none⟩ (.int .i64 (-1))) (some ib) ∧ IterAt (w.setCell ⟨ib, 0, none⟩ (.int .i64 (-1))) B E ib 0 ns) :=
    ⟨hg _, hB, hE, a, c, hrE, (heap_set_self hb 0 _).trans rfl, hown.kept (hg _) (.inr hne), hne⟩
  clear hb hown hg hrE hB hE
  go_enter Tryz.func186, Tryz.ntmps186
  go_wp2_with fail
  go_end0
  exact ⟨rfl, hit.out.1, hit.out.2⟩

theorem oid_method (n : Nat) (x : Int) (w : World) : (method (n + 1) 205 (.int .i64 x) "ID").run Tryz.prog w = .ok (178, .int .i64 x) w := by kernel_rfl
theorem oo_node (n : Nat) (a : Addr) (w : World) : (method (n + 1) 208 (.pointer (some a)) "Node").run Tryz.prog w = .ok (185, .pointer (some a)) w := by kernel_rfl

/-- Where the parts lie. -/
structure PB (lo hi B1 E1 B2 E2 mb fb : Nat) : Prop where
  l1 : lo ≤ B1
  h1 : E1 ≤ hi
  l2 : lo ≤ B2
  h2 : E2 ≤ hi
  d : E1 ≤ B2 ∨ E2 ≤ B1
  ml : lo ≤ mb
  mh : mb < hi
  m1 : mb < B1 ∨ E1 ≤ mb
  m2 : mb < B2 ∨ E2 ≤ mb
  fl : lo ≤ fb
  fh : fb < hi
  f1 : fb < B1 ∨ E1 ≤ fb
  f2 : fb < B2 ∨ E2 ≤ fb
  mf : mb ≠ fb

/-- Two iterators in one. -/
structure PR (w0 w : World) (lo hi B1 E1 ib1 B2 E2 ib2 mb fb : Nat) (ids xs ys : List Int) (k1 k2 : Nat) (f : Int → Option Value) (cur : Value) (i c : Int) : Prop where
  b : PB lo hi B1 E1 B2 E2 mb fb
  z : hi ≤ w.heap.size
  i1 : IterAt w B1 E1 ib1 k1 xs
  i2 : IterAt w B2 E2 ib2 k2 ys
  blk : w.heap[fb]? = some (.cells #[.iface 208 (.pointer (some ⟨ib1, 0, none⟩)), .iface 208 (.pointer (some ⟨ib2, 0, none⟩)), cur, .int .i64 i, .int .i64 c, .map (some mb)] 220 (0, 0))
  map : VMap w ids mb f
  kp : Keeps (fun j => lo ≤ j ∧ j < hi) w0 w

section
variable {w0 w w' : World} {lo hi B1 E1 ib1 B2 E2 ib2 mb fb k1 k2 k : Nat} {ids xs ys : List Int} {f f' : Int → Option Value} {cur v : Value} {i c : Int}

theorem PR.next1 (h : PR w0 w lo hi B1 E1 ib1 B2 E2 ib2 mb fb ids xs ys k1 k2 f cur i c) (hg : w.grownBy w' (some ib1)) (hi' : IterAt w' B1 E1 ib1 k xs) : PR w0 w' lo hi B1 E1 ib1 B2 E2 ib2 mb fb ids xs ys k k2 f cur i c := by
  obtain ⟨b1, b2, b3, b4, b5, b6, b7, b8, b9, b10, b11, b12, b13, b14⟩ := h.b
  have q1 := h.i1.1; have q2 := h.i1.2.1; have hz := h.z
  have key : ∀ j, j < hi → (j < B1 ∨ E1 ≤ j) → w'.heap[j]? = w.heap[j]? := fun j hj hn => hg.block j (by omega) (fun e => by injection e with e; omega)
  exact ⟨h.b, Nat.le_trans hz hg.size, hi', h.i2.same fun j hj hj' => key j (by omega) (by omega), (key fb b11 b12).trans h.blk, h.map.same (key mb b7 b8), h.kp.trans (Keeps.grow hg ⟨by omega, by omega⟩)⟩

theorem PR.next2 (h : PR w0 w lo hi B1 E1 ib1 B2 E2 ib2 mb fb ids xs ys k1 k2 f cur i c) (hg : w.grownBy w' (some ib2)) (hi' : IterAt w' B2 E2 ib2 k ys) : PR w0 w' lo hi B1 E1 ib1 B2 E2 ib2 mb fb ids xs ys k1 k f cur i c := by
  obtain ⟨b1, b2, b3, b4, b5, b6, b7, b8, b9, b10, b11, b12, b13, b14⟩ := h.b
  have q1 := h.i2.1; have q2 := h.i2.2.1; have hz := h.z
  have key : ∀ j, j < hi → (j < B2 ∨ E2 ≤ j) → w'.heap[j]? = w.heap[j]? := fun j hj hn => hg.block j (by omega) (fun e => by injection e with e; omega)
  exact ⟨h.b, Nat.le_trans hz hg.size, h.i1.same fun j hj hj' => key j (by omega) (by omega), hi', (key fb b11 b13).trans h.blk, h.map.same (key mb b7 b9), h.kp.trans (Keeps.grow hg ⟨by omega, by omega⟩)⟩

theorem PR.put (h : PR w0 w lo hi B1 E1 ib1 B2 E2 ib2 mb fb ids xs ys k1 k2 f cur i c) (hg : w.grownBy w' (some mb)) (hm : VMap w' ids mb f') : PR w0 w' lo hi B1 E1 ib1 B2 E2 ib2 mb fb ids xs ys k1 k2 f' cur i c := by
  obtain ⟨b1, b2, b3, b4, b5, b6, b7, b8, b9, b10, b11, b12, b13, b14⟩ := h.b
  have hz := h.z
  have key : ∀ j, j < hi → j ≠ mb → w'.heap[j]? = w.heap[j]? := fun j hj hn => hg.block j (by omega) (fun e => by injection e with e; exact hn e)
  exact ⟨h.b, Nat.le_trans hz hg.size, h.i1.same fun j hj hj' => key j (by omega) (by omega), h.i2.same fun j hj hj' => key j (by omega) (by omega), (key fb b11 (Ne.symm b14)).trans h.blk, hm, h.kp.trans (Keeps.grow hg ⟨b6, b7⟩)⟩

/-- A cell of the pair's own block is set. -/
theorem PR.set (h : PR w0 w lo hi B1 E1 ib1 B2 E2 ib2 mb fb ids xs ys k1 k2 f cur i c) (n : Nat) (v : Value) {cur' : Value} {i' c' : Int}
    (he : (#[.iface 208 (.pointer (some ⟨ib1, 0, none⟩)), .iface 208 (.pointer (some ⟨ib2, 0, none⟩)), cur, .int .i64 i, .int .i64 c, .map (some mb)] : Array Value).setIfInBounds n v = #[.iface 208 (.pointer (some ⟨ib1, 0, none⟩)), .iface 208 (.pointer (some ⟨ib2, 0, none⟩)), cur', .int .i64 i', .int .i64 c', .map (some mb)]) :
    PR w0 (w.setCell ⟨fb, n, none⟩ v) lo hi B1 E1 ib1 B2 E2 ib2 mb fb ids xs ys k1 k2 f cur' i' c' := by
  obtain ⟨b1, b2, b3, b4, b5, b6, b7, b8, b9, b10, b11, b12, b13, b14⟩ := h.b
  have hz := h.z
  have key : ∀ j, j ≠ fb → (w.setCell ⟨fb, n, none⟩ v).heap[j]? = w.heap[j]? := fun j hj => Below.heap_setCell w _ _ _ hj
  exact ⟨h.b, by rw [size_setCell]; exact hz, h.i1.same fun j hj hj' => key j (by omega), h.i2.same fun j hj hj' => key j (by omega), by rw [heap_set_self h.blk n v, he], h.map.same (key mb b14), h.kp.setCell ⟨b10, b11⟩ v⟩
theorem PR.setCur (h : PR w0 w lo hi B1 E1 ib1 B2 E2 ib2 mb fb ids xs ys k1 k2 f cur i c) (v : Value) : PR w0 (w.setCell ⟨fb, 2, none⟩ v) lo hi B1 E1 ib1 B2 E2 ib2 mb fb ids xs ys k1 k2 f v i c := h.set 2 v rfl
theorem PR.setI (h : PR w0 w lo hi B1 E1 ib1 B2 E2 ib2 mb fb ids xs ys k1 k2 f cur i c) (j : Int) : PR w0 (w.setCell ⟨fb, 3, none⟩ (.int .i64 j)) lo hi B1 E1 ib1 B2 E2 ib2 mb fb ids xs ys k1 k2 f cur j c := h.set 3 _ rfl
theorem PR.setC (h : PR w0 w lo hi B1 E1 ib1 B2 E2 ib2 mb fb ids xs ys k1 k2 f cur i c) (j : Int) : PR w0 (w.setCell ⟨fb, 4, none⟩ (.int .i64 j)) lo hi B1 E1 ib1 B2 E2 ib2 mb fb ids xs ys k1 k2 f cur i j := h.set 4 _ rfl

theorem PR.below (h : PR w0 w lo hi B1 E1 ib1 B2 E2 ib2 mb fb ids xs ys k1 k2 f cur i c) (hb : Below w.heap.size w w') : PR w0 w' lo hi B1 E1 ib1 B2 E2 ib2 mb fb ids xs ys k1 k2 f cur i c := by
  obtain ⟨b1, b2, b3, b4, b5, b6, b7, b8, b9, b10, b11, b12, b13, b14⟩ := h.b
  have hz := h.z
  have key : ∀ j, j < hi → w'.heap[j]? = w.heap[j]? := fun j hj => hb.block j (by omega)
  exact ⟨h.b, Nat.le_trans hz hb.size, h.i1.same fun j hj hj' => key j (by omega), h.i2.same fun j hj hj' => key j (by omega), (key fb b11).trans h.blk, h.map.same (key mb b7), h.kp.trans (Keeps.of hb)⟩
theorem PR.drewN (h : PR w0 w lo hi B1 E1 ib1 B2 E2 ib2 mb fb ids xs ys k1 k2 f cur i c) (q : Nat) : PR w0 (w.drewN q) lo hi B1 E1 ib1 B2 E2 ib2 mb fb ids xs ys k1 k2 f cur i c :=
  h.below (below_draws (Below.refl _ _) q)
theorem PR.drew (h : PR w0 w lo hi B1 E1 ib1 B2 E2 ib2 mb fb ids xs ys k1 k2 f cur i c) : PR w0 w.drew lo hi B1 E1 ib1 B2 E2 ib2 mb fb ids xs ys k1 k2 f cur i c :=
  h.below (drew_below w)
theorem PR.rebase (h : PR w0 w lo hi B1 E1 ib1 B2 E2 ib2 mb fb ids xs ys k1 k2 f cur i c) : PR w w lo hi B1 E1 ib1 B2 E2 ib2 mb fb ids xs ys k1 k2 f cur i c := ⟨h.b, h.z, h.i1, h.i2, h.blk, h.map, Keeps.refl _ _⟩
theorem PR.bel (h : PR w0 w lo hi B1 E1 ib1 B2 E2 ib2 mb fb ids xs ys k1 k2 f cur i c) (hl : lo ≤ w0.heap.size) : Below lo w0 w :=
  ⟨h.kp.os, h.kp.tape, h.kp.output, h.kp.size, fun j hj => h.kp.block j (by omega) (by rintro ⟨h1, _⟩; omega)⟩
theorem PR.congr (h : PR w0 w lo hi B1 E1 ib1 B2 E2 ib2 mb fb ids xs ys k1 k2 f cur i c) (e : ∀ x, f x = f' x) : PR w0 w lo hi B1 E1 ib1 B2 E2 ib2 mb fb ids xs ys k1 k2 f' cur i c := ⟨h.b, h.z, h.i1, h.i2, h.blk, h.map.congr e, h.kp⟩

theorem PR.c0 (h : PR w0 w lo hi B1 E1 ib1 B2 E2 ib2 mb fb ids xs ys k1 k2 f cur i c) : w.cell? ⟨fb, 0, none⟩ = some (.iface 208 (.pointer (some ⟨ib1, 0, none⟩))) := by have := h.blk; simp [World.cell?, this]
theorem PR.c1 (h : PR w0 w lo hi B1 E1 ib1 B2 E2 ib2 mb fb ids xs ys k1 k2 f cur i c) : w.cell? ⟨fb, 1, none⟩ = some (.iface 208 (.pointer (some ⟨ib2, 0, none⟩))) := by have := h.blk; simp [World.cell?, this]
theorem PR.c2 (h : PR w0 w lo hi B1 E1 ib1 B2 E2 ib2 mb fb ids xs ys k1 k2 f cur i c) : w.cell? ⟨fb, 2, none⟩ = some cur := by have := h.blk; simp [World.cell?, this]
theorem PR.c3 (h : PR w0 w lo hi B1 E1 ib1 B2 E2 ib2 mb fb ids xs ys k1 k2 f cur i c) : w.cell? ⟨fb, 3, none⟩ = some (.int .i64 i) := by have := h.blk; simp [World.cell?, this]
theorem PR.c4 (h : PR w0 w lo hi B1 E1 ib1 B2 E2 ib2 mb fb ids xs ys k1 k2 f cur i c) : w.cell? ⟨fb, 4, none⟩ = some (.int .i64 c) := by have := h.blk; simp [World.cell?, this]
theorem PR.c5 (h : PR w0 w lo hi B1 E1 ib1 B2 E2 ib2 mb fb ids xs ys k1 k2 f cur i c) : w.cell? ⟨fb, 5, none⟩ = some (.map (some mb)) := by have := h.blk; simp [World.cell?, this]
theorem PR.fr (h : PR w0 w lo hi B1 E1 ib1 B2 E2 ib2 mb fb ids xs ys k1 k2 f cur i c) (n : Nat) : w.frozen? ⟨fb, n, none⟩ = false := by have := h.blk; simp [World.frozen?, this]

/-- Next, Node and Reset of both. -/
theorem PR.nextA (h : PR w0 w lo hi B1 E1 ib1 B2 E2 ib2 mb fb ids xs ys k1 k2 f cur i c) (hl : xs.length ≤ 1048576) (hk : k1 < xs.length) :
    Calls Tryz.prog 184 #[.pointer (some ⟨ib1, 0, none⟩)] w fun e w' => e = .returned (.bool true) ∧ w.grownBy w' (some ib1) ∧ PR w0 w' lo hi B1 E1 ib1 B2 E2 ib2 mb fb ids xs ys (k1 + 1) k2 f cur i c :=
  (next_any B1 E1 ib1 k1 xs w (by omega) hl h.i1).mono fun _ _ ⟨e1, hg, hi'⟩ => ⟨by rw [e1, decide_eq_true hk], hg, h.next1 hg (hi' hk)⟩
theorem PR.endA (h : PR w0 w lo hi B1 E1 ib1 B2 E2 ib2 mb fb ids xs ys k1 k2 f cur i c) (hl : xs.length ≤ 1048576) (hk : k1 = xs.length ∨ k1 = xs.length + 1) :
    Calls Tryz.prog 184 #[.pointer (some ⟨ib1, 0, none⟩)] w fun e w' => e = .returned (.bool false) ∧ w.grownBy w' (some ib1) ∧ PR w0 w' lo hi B1 E1 ib1 B2 E2 ib2 mb fb ids xs ys (xs.length + 1) k2 f cur i c :=
  (nextOver_any B1 E1 ib1 k1 xs w hl hk h.i1).mono fun _ _ ⟨e1, hg, hi'⟩ => ⟨e1, hg, h.next1 hg hi'⟩
theorem PR.nextB (h : PR w0 w lo hi B1 E1 ib1 B2 E2 ib2 mb fb ids xs ys k1 k2 f cur i c) (hl : ys.length ≤ 1048576) (hk : k2 < ys.length) :
    Calls Tryz.prog 184 #[.pointer (some ⟨ib2, 0, none⟩)] w fun e w' => e = .returned (.bool true) ∧ w.grownBy w' (some ib2) ∧ PR w0 w' lo hi B1 E1 ib1 B2 E2 ib2 mb fb ids xs ys k1 (k2 + 1) f cur i c :=
  (next_any B2 E2 ib2 k2 ys w (by omega) hl h.i2).mono fun _ _ ⟨e1, hg, hi'⟩ => ⟨by rw [e1, decide_eq_true hk], hg, h.next2 hg (hi' hk)⟩
theorem PR.endB (h : PR w0 w lo hi B1 E1 ib1 B2 E2 ib2 mb fb ids xs ys k1 k2 f cur i c) (hl : ys.length ≤ 1048576) (hk : k2 = ys.length ∨ k2 = ys.length + 1) :
    Calls Tryz.prog 184 #[.pointer (some ⟨ib2, 0, none⟩)] w fun e w' => e = .returned (.bool false) ∧ w.grownBy w' (some ib2) ∧ PR w0 w' lo hi B1 E1 ib1 B2 E2 ib2 mb fb ids xs ys k1 (ys.length + 1) f cur i c :=
  (nextOver_any B2 E2 ib2 k2 ys w hl hk h.i2).mono fun _ _ ⟨e1, hg, hi'⟩ => ⟨e1, hg, h.next2 hg hi'⟩
theorem PR.nodeA (h : PR w0 w lo hi B1 E1 ib1 B2 E2 ib2 mb fb ids xs ys (k + 1) k2 f cur i c) (hl : xs.length ≤ 1048576) (hk : k < xs.length) :
    Calls Tryz.prog 185 #[.pointer (some ⟨ib1, 0, none⟩)] w fun e w' => e = .returned (.iface 205 (.int .i64 xs[k])) ∧ ∃ q, w' = w.drewN q :=
  node_any B1 E1 ib1 k xs w hk hl h.i1
theorem PR.nodeB (h : PR w0 w lo hi B1 E1 ib1 B2 E2 ib2 mb fb ids xs ys k1 (k + 1) f cur i c) (hl : ys.length ≤ 1048576) (hk : k < ys.length) :
    Calls Tryz.prog 185 #[.pointer (some ⟨ib2, 0, none⟩)] w fun e w' => e = .returned (.iface 205 (.int .i64 ys[k])) ∧ ∃ q, w' = w.drewN q :=
  node_any B2 E2 ib2 k ys w hk hl h.i2
theorem PR.resetA (h : PR w0 w lo hi B1 E1 ib1 B2 E2 ib2 mb fb ids xs ys k1 k2 f cur i c) :
    Calls Tryz.prog 186 #[.pointer (some ⟨ib1, 0, none⟩)] w fun e w' => e = .returned (.tuple #[]) ∧ w.grownBy w' (some ib1) ∧ PR w0 w' lo hi B1 E1 ib1 B2 E2 ib2 mb fb ids xs ys 0 k2 f cur i c :=
  (resetO_any B1 E1 ib1 k1 xs w h.i1).mono fun _ _ ⟨e1, hg, hi'⟩ => ⟨e1, hg, h.next1 hg hi'⟩
theorem PR.resetB (h : PR w0 w lo hi B1 E1 ib1 B2 E2 ib2 mb fb ids xs ys k1 k2 f cur i c) :
    Calls Tryz.prog 186 #[.pointer (some ⟨ib2, 0, none⟩)] w fun e w' => e = .returned (.tuple #[]) ∧ w.grownBy w' (some ib2) ∧ PR w0 w' lo hi B1 E1 ib1 B2 E2 ib2 mb fb ids xs ys k1 0 f cur i c :=
  (resetO_any B2 E2 ib2 k2 ys w h.i2).mono fun _ _ ⟨e1, hg, hi'⟩ => ⟨e1, hg, h.next2 hg hi'⟩

/-- Where the block of an iterator lies. -/
theorem PR.at1 (h : PR w0 w lo hi B1 E1 ib1 B2 E2 ib2 mb fb ids xs ys k1 k2 f cur i c) : lo ≤ ib1 ∧ ib1 < hi := by
  have q1 := h.i1.1; have q2 := h.i1.2.1; have b1 := h.b.l1; have b2 := h.b.h1; omega
theorem PR.at2 (h : PR w0 w lo hi B1 E1 ib1 B2 E2 ib2 mb fb ids xs ys k1 k2 f cur i c) : lo ≤ ib2 ∧ ib2 < hi := by
  have q1 := h.i2.1; have q2 := h.i2.2.1; have b1 := h.b.l2; have b2 := h.b.h2; omega
end

/-- What the pair's map says: false of a's, true of those of b alone. -/
def ufun (xs ys : List Int) : Int → Option Value := fun x => if x ∈ xs then some (.bool false) else if x ∈ ys then some (.bool true) else none
theorem ufun_b {ys ys' : List Int} {y : Int} (h : ys' = ys ++ [y]) : ∀ x, updV (ufun [] ys) y (some (.bool true)) x = ufun [] ys' x := fun x => by
  subst h
  unfold updV ufun
  by_cases e : x = y
  · subst e; simp
  · simp [e]
theorem ufun_a {xs xs' ys : List Int} {y : Int} (h : xs' = xs ++ [y]) : ∀ x, updV (ufun xs ys) y (some (.bool false)) x = ufun xs' ys x := fun x => by
  subst h
  unfold updV ufun
  by_cases e : x = y
  · subst e; simp
  · simp [e]
theorem ufun_at {xs ys : List Int} {y : Int} (h : y ∈ ys) : ufun xs ys y = some (.bool (!decide (y ∈ xs))) := by
  unfold ufun
  by_cases e : y ∈ xs
  · simp [e]
  · simp [e, h]
end Go.Proofs.YtgkimjjodhnmiaaGreat
