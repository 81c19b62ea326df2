/- What CopyWeighted leaves, in plain Lean: the edges that are there; and what stands outside a zone.
   OrderedNodes.Reset, OrderedNodes.Next at its end; WeightedEdge of both kinds of graphs.
   The state of CopyWeighted: an iterator, and the graph in the making beside it.
   Methods that graph.CopyWeighted calls. -/
import Derived.Test.YtgkimjjodhnmiaaGreatWSetA
import Derived.Test.YtgkimjjodhnmiaaGreatEdge0
import Derived.Test.YtgkimjjodhnmiaaGreatNodes
import Derived.Test.YtgkimjjodhnmiaaGreatSucc
import Derived.Deep.LoopGhost
import Derived.Deep.DeepCutAuto
import Derived.Deep.Draws
import Derived.Deep.QuietTactic
import Derived.Deep.RegionLaw
namespace Go.Proofs.YtgkimjjodhnmiaaGreat
open Go.RowKit Go.Maps

/-- The edges D are there, in an undirected graph both ways, and no others. -/
def FI (dir : Bool) (F : Int → Int → Option Value) (D : List (Int × Int)) (f : Int → Int → Nat) : Prop :=
  ∀ x y, (((x, y) ∈ D ∨ (dir = false ∧ (y, x) ∈ D)) → ∃ a b, F x y = some (wev a b (f x y))) ∧ (¬ ((x, y) ∈ D ∨ (dir = false ∧ (y, x) ∈ D)) → F x y = none)

theorem FI.nil (dir : Bool) (f : Int → Int → Nat) : FI dir (fun _ _ => none) [] f := fun x y => ⟨fun h => by simp at h, fun _ => rfl⟩

theorem FI.congr {dir : Bool} {F : Int → Int → Option Value} {D D' : List (Int × Int)} {f : Int → Int → Nat} (h : FI dir F D f) (e : ∀ p, p ∈ D ↔ p ∈ D') : FI dir F D' f := fun x y => by
  have := h x y
  rwa [e, e] at this

theorem FI.stepD {F : Int → Int → Option Value} {D : List (Int × Int)} {f : Int → Int → Nat} (h : FI true F D f) (x y : Int) : FI true (updE F x y (wev x y (f x y))) ((x, y) :: D) f := fun a b => by
  rw [updE_at]
  by_cases e : a = x ∧ b = y
  · obtain ⟨rfl, rfl⟩ := e
    refine ⟨fun _ => ⟨a, b, by rw [if_pos ⟨rfl, rfl⟩]⟩, fun hn => absurd (.inl List.mem_cons_self) hn⟩
  · rw [if_neg e]
    refine ⟨fun hp => (h a b).1 ?_, fun hn => (h a b).2 fun hp => hn ?_⟩
    · rcases hp with hp | ⟨hd, _⟩
      · rcases List.mem_cons.1 hp with hp | hp
        · exact absurd ⟨congrArg Prod.fst hp, congrArg Prod.snd hp⟩ e
        · exact .inl hp
      · cases hd
    · rcases hp with hp | ⟨hd, _⟩
      · exact .inl (List.mem_cons_of_mem _ hp)
      · cases hd

theorem FI.stepU {F : Int → Int → Option Value} {D : List (Int × Int)} {f : Int → Int → Nat} (h : FI false F D f) (x y : Int) (hf : f x y = f y x) : FI false (updE (updE F x y (wev x y (f x y))) y x (wev x y (f x y))) ((x, y) :: D) f := fun a b => by
  rw [updE_at, updE_at]
  by_cases e : a = y ∧ b = x
  · obtain ⟨rfl, rfl⟩ := e
    refine ⟨fun _ => ⟨b, a, by rw [if_pos ⟨rfl, rfl⟩, hf]⟩, fun hn => absurd (.inr ⟨rfl, List.mem_cons_self⟩) hn⟩
  · rw [if_neg e]
    by_cases e2 : a = x ∧ b = y
    · obtain ⟨rfl, rfl⟩ := e2
      refine ⟨fun _ => ⟨a, b, by rw [if_pos ⟨rfl, rfl⟩]⟩, fun hn => absurd (.inl List.mem_cons_self) hn⟩
    · rw [if_neg e2]
      refine ⟨fun hp => (h a b).1 ?_, fun hn => (h a b).2 fun hp => hn ?_⟩
      · rcases hp with hp | ⟨_, hp⟩
        · rcases List.mem_cons.1 hp with hp | hp
          · exact absurd ⟨congrArg Prod.fst hp, congrArg Prod.snd hp⟩ e2
          · exact .inl hp
        · rcases List.mem_cons.1 hp with hp | hp
          · exact absurd ⟨congrArg Prod.snd hp, congrArg Prod.fst hp⟩ e
          · exact .inr ⟨rfl, hp⟩
      · rcases hp with hp | ⟨_, hp⟩
        · exact .inl (List.mem_cons_of_mem _ hp)
        · exact .inr ⟨rfl, List.mem_cons_of_mem _ hp⟩

theorem not_take {l : List Int} (h : l.Nodup) {k : Nat} (hk : k < l.length) : l[k] ∉ l.take k := fun hm => by
  have h2 : (l.take k ++ l.drop k).Nodup := by rwa [List.take_append_drop]
  exact (List.pairwise_append.1 h2).2.2 _ hm _ (by rw [List.drop_eq_getElem_cons hk]; exact List.mem_cons_self) rfl

/-- The arcs from the nodes l. -/
def arcsTo (s : Int → List Int) (l : List Int) : List (Int × Int) := l.flatMap fun x => (s x).map fun y => (x, y)

theorem arcsTo_mem (s : Int → List Int) (l : List Int) (x y : Int) : (x, y) ∈ arcsTo s l ↔ x ∈ l ∧ y ∈ s x := by
  unfold arcsTo
  rw [List.mem_flatMap]
  constructor
  · rintro ⟨a, ha, h⟩
    obtain ⟨b, hb, e⟩ := List.mem_map.1 h
    injection e with e1 e2
    subst e1; subst e2
    exact ⟨ha, hb⟩
  · rintro ⟨ha, hb⟩
    exact ⟨x, ha, List.mem_map.2 ⟨y, hb, rfl⟩⟩

theorem arcs_step (s : Int → List Int) (l : List Int) (x : Int) {t : Nat} (ht : t < (s x).length) (p : Int × Int) :
    p ∈ (x, (s x)[t]) :: (arcsTo s l ++ ((s x).take t).map fun y => (x, y)) ↔ p ∈ arcsTo s l ++ ((s x).take (t + 1)).map fun y => (x, y) := by
  rw [List.take_succ_eq_append_getElem ht, List.map_append]
  simp only [List.mem_cons, List.mem_append, List.map_cons, List.map_nil, List.not_mem_nil, or_false]
  constructor
  · rintro (h | h | h)
    · exact .inr (.inr h)
    · exact .inl h
    · exact .inr (.inl h)
  · rintro (h | h | h)
    · exact .inr (.inl h)
    · exact .inr (.inr h)
    · exact .inl h

theorem arcs_start (s : Int → List Int) (l : List Int) (x : Int) (p : Int × Int) : p ∈ arcsTo s l ↔ p ∈ arcsTo s l ++ ((s x).take 0).map fun y => (x, y) := by simp

theorem arcs_end (s : Int → List Int) {ids : List Int} {k : Nat} (hk : k < ids.length) (p : Int × Int) :
    p ∈ arcsTo s (ids.take k) ++ ((s ids[k]).take (s ids[k]).length).map (fun y => (ids[k], y)) ↔ p ∈ arcsTo s (ids.take (k + 1)) := by
  rw [List.take_length, List.take_succ_eq_append_getElem hk]
  unfold arcsTo
  rw [List.flatMap_append]
  simp

/-- B without the blocks from a up to b. -/
def Zone (B : Nat → Prop) (a b : Nat) : Nat → Prop := fun j => B j ∧ ¬ (a ≤ j ∧ j < b)

theorem Zone.sub {B : Nat → Prop} {a b j : Nat} (h : Zone B a b j) : B j := h.1
theorem Keeps.mono {B B' : Nat → Prop} {w w' : World} (h : Keeps B' w w') (hB : ∀ j, B' j → B j) : Keeps B w w' :=
  ⟨h.os, h.tape, h.output, h.size, fun j hj hn => h.block j hj fun hb => hn (hB j hb)⟩
theorem Keeps.zone {B : Nat → Prop} {a b : Nat} {w w' : World} (h : Keeps (Zone B a b) w w') : Keeps B w w' := h.mono fun _ hj => hj.1
theorem Keeps.in {B : Nat → Prop} {a b j : Nat} {w w' : World} (h : Keeps (Zone B a b) w w') (h1 : a ≤ j) (h2 : j < b) (hs : b ≤ w.heap.size) : w'.heap[j]? = w.heap[j]? :=
  h.block j (by omega) fun hz => hz.2 ⟨h1, h2⟩
theorem Keeps.under {B : Nat → Prop} {w0 w w' : World} (h : Keeps B w w') (h0 : Below w0.heap.size w0 w) (hB : ∀ j, j < w0.heap.size → ¬ B j) : Below w0.heap.size w0 w' :=
  ⟨h.os.trans h0.os, h.tape.trans h0.tape, h.output.trans h0.output, Nat.le_trans h0.size h.size, fun j hj => (h.block j (Nat.lt_of_lt_of_le hj h0.size) (hB j hj)).trans (h0.block j hj)⟩

section
variable {dir : Bool} {w : World} {ids : List Int} {B : Nat → Prop} {ad : WR → Option Nat} {c : WR → Cont} {gb jn je jt ju js jr : Nat} {N : List Int} {F : Int → Int → Option Value}

/-- Beside blocks that were made after it. -/
theorem WG.beside (h : WG dir w ids B ad c gb jn je jt ju js jr N F) {w' : World} (hb : Below w.heap.size w w') : WG dir w' ids (Zone B w.heap.size w'.heap.size) ad c gb jn je jt ju js jr N F :=
  (h.below hb).zone (fun r j hr => ⟨h.R.lo r j hr, fun hz => by have := h.R.lt hr; omega⟩) fun j hj => ⟨h.R.new j (Nat.le_trans hb.size hj), fun hz => by omega⟩
theorem WG.wide {a b : Nat} (h : WG dir w ids (Zone B a b) ad c gb jn je jt ju js jr N F) (hn : ∀ j, w.heap.size ≤ j → B j) : WG dir w ids B ad c gb jn je jt ju js jr N F :=
  h.zone (fun r j hr => (h.R.lo r j hr).1) hn
end
end Go.Proofs.YtgkimjjodhnmiaaGreat

namespace Go.Proofs.YtgkimjjodhnmiaaGreat
open Go.RowKit Go.Maps

theorem reset_any (B E ib k : Nat) (ns : List Int) (w : World) (hi : IterAt w B E ib k ns) :
    Calls Tryz.prog 186 #[.pointer (some ⟨ib, 0, none⟩)] w
      fun e w' => e = .returned (.tuple #[]) ∧ w.grownBy w' (some ib) ∧ IterAt w' B E ib 0 ns := by
  obtain ⟨hB, hE, a, c, hrE, hb, hown, hne⟩ := hi
  have f0 : w.frozen? ⟨ib, 0, none⟩ = false := by simp [World.frozen?, hb]
  have c0 : w.cell? ⟨ib, 0, none⟩ = some (.int .i64 ((k : Int) - 1)) := by simp [World.cell?, hb]
  have hg : ∀ v, w.grownBy (w.setCell ⟨ib, 0, none⟩ v) (some ib) := fun v =>
    ⟨rfl, rfl, rfl, by rw [size_setCell]; exact Nat.le_refl _, fun j _ hj => Below.heap_setCell w _ _ _ (by intro e; exact hj (by rw [e]))⟩
  have hit : Hid (w.grownBy (w.setCell ⟨ib, 0, none⟩ (.int .i64 (-1))) (some ib) ∧ IterAt (w.setCell ⟨ib, 0, none⟩ (.int .i64 (-1))) B E ib 0 ns) :=
    ⟨hg _, hB, hE, a, c, hrE, (heap_set_self hb 0 _).trans rfl, hown.kept (hg _) (.inr hne), hne⟩
  clear hb hown hg hrE hB hE
  go_enter Tryz.func186, Tryz.ntmps186
  go_wp2_with fail
  go_end0
  exact ⟨rfl, hit.out.1, hit.out.2⟩

set_option maxHeartbeats 1000000 in
theorem nextEnd_any (B E ib : Nat) (ns : List Int) (w : World) (hn : ns.length ≤ 1048576) (hi : IterAt w B E ib ns.length ns) :
    Calls Tryz.prog 184 #[.pointer (some ⟨ib, 0, none⟩)] w
      fun e w' => e = .returned (.bool false) ∧ w.grownBy w' (some ib) ∧ IterAt w' B E ib (ns.length + 1) ns := by
  obtain ⟨hB, hE, a, c, hrE, hb, hown, hne⟩ := hi
  have c0 : w.cell? ⟨ib, 0, none⟩ = some (.int .i64 ((ns.length : Int) - 1)) := by simp [World.cell?, hb]
  have c1 : w.cell? ⟨ib, 1, none⟩ = some (.slice a ns.length c) := by simp [World.cell?, hb]
  have f0 : w.frozen? ⟨ib, 0, none⟩ = false := by simp [World.frozen?, hb]
  obtain ⟨t1, t2⟩ := nextTest ns.length ns.length (Nat.le_refl _) hn
  go_enter Tryz.func184, Tryz.ntmps184
  go_wp2
  go_quiet (fail)
  have hg : ∀ q v, w.grownBy ((w.drewN q).setCell ⟨ib, 0, none⟩ v) (some ib) := fun q v =>
    ⟨rfl, rfl, rfl, by rw [size_setCell]; exact Nat.le_refl _, fun j _ hj => Below.heap_setCell (w.drewN q) _ _ _ (by intro e; exact hj (by rw [e]))⟩
  have hit : ∀ q, IterAt ((w.drewN q).setCell ⟨ib, 0, none⟩ (.int .i64 (ns.length : Nat))) B E ib (ns.length + 1) ns := fun q => by
    refine ⟨hB, hE, a, c, hrE, ?_, hown.kept (hg q _) (.inr hne), hne⟩
    rw [show ((ns.length + 1 : Nat) : Int) - 1 = ((ns.length : Nat) : Int) by omega]
    have hb' : (w.drewN q).heap[ib]? = some (.cells #[.int .i64 ((ns.length : Int) - 1), .slice a ns.length c] 211 (0, 0)) := hb
    exact (heap_set_self hb' 0 _).trans rfl
  have hgh := Lib.hid hg
  have hih := Lib.hid hit
  clear hg hit hb hown hB hrE
  go_wp2
  go_ret
  exact ⟨rfl, hgh.out _ _, hih.out _⟩

theorem nid_method (n : Nat) (x : Int) (w : World) : (method (n + 1) 205 (.int .i64 x) "ID").run Tryz.prog w = .ok (178, .int .i64 x) w := by kernel_rfl
theorem onode_method (n : Nat) (a : Addr) (w : World) : (method (n + 1) 208 (.pointer (some a)) "Node").run Tryz.prog w = .ok (185, .pointer (some a)) w := by kernel_rfl

set_option maxRecDepth 100000 in
set_option maxHeartbeats 1000000 in
theorem wedgeDir_any (pb : Nat) (ids : List Int) (outs ins : List (List Arc)) (x y : Int) (t wt : Nat) (w : World) (hids : ids.length ≤ 1048575) (hp : PlainAt w pb ids outs ins) (ha : ArcAt ids outs x y t wt) :
    Calls Tryz.prog 136 #[.agg #[.pointer (some ⟨pb, 0, none⟩)], .int .i64 x, .int .i64 y] w
      fun e w' => e = .returned (edgeV x y wt) ∧ Below w.heap.size w w' := by
  have he := Lib.hid (edge_any pb ids outs ins x y t wt (w.alloc (.cells #[.pointer (some ⟨pb, 0, none⟩)] 52)) hids (hp.below (alloc_below w _)) ha)
  clear hp ha
  simp only [edgeV] at *
  go_enter Tryz.func136, Tryz.ntmps136
  go_wp2_with fail
  refine (unhide he).mono ?_
  rintro e w2 ⟨rfl, hb2⟩
  have hb2h := Lib.hid (below_boxed hb2)
  clear hb2
  go_wp2_with fail
  go_ret
  exact ⟨rfl, hb2h.out⟩

set_option maxRecDepth 100000 in
set_option maxHeartbeats 1000000 in
theorem wedgeUnd_any (pb : Nat) (ids : List Int) (outs ins : List (List Arc)) (x y : Int) (t wt : Nat) (w : World) (hids : ids.length ≤ 1048575) (hp : PlainAt w pb ids outs ins) (ha : ArcAt ids outs x y t wt) :
    Calls Tryz.prog 160 #[.agg #[.pointer (some ⟨pb, 0, none⟩)], .int .i64 x, .int .i64 y] w
      fun e w' => e = .returned (edgeV x y wt) ∧ Below w.heap.size w w' := by
  have he := Lib.hid (edge_any pb ids outs ins x y t wt (w.alloc (.cells #[.pointer (some ⟨pb, 0, none⟩)] 73)) hids (hp.below (alloc_below w _)) ha)
  clear hp ha
  simp only [edgeV] at *
  go_enter Tryz.func160, Tryz.ntmps160
  go_wp2_with fail
  refine (unhide he).mono ?_
  rintro e w2 ⟨rfl, hb2⟩
  have hb2h := Lib.hid (below_boxed hb2)
  clear hb2
  go_wp2_with fail
  go_ret
  exact ⟨rfl, hb2h.out⟩

end Go.Proofs.YtgkimjjodhnmiaaGreat

namespace Go.Proofs.YtgkimjjodhnmiaaGreat
open Go.RowKit Go.Maps

/-- An iterator of ns in the blocks from S1 up to S2, and the graph outside them. -/
structure CSt (dir : Bool) (w1 wr : World) (ids ns : List Int) (B : Nat → Prop) (S1 S2 ib k gb jn je jt ju js jr : Nat) (N : List Int) (D : List (Int × Int)) (f : Int → Int → Nat) : Prop where
  it : IterAt wr S1 S2 ib k ns
  g : ∃ ad c F, WG dir wr ids (Zone B S1 S2) ad c gb jn je jt ju js jr N F ∧ FI dir F D f
  kp : Keeps B w1 wr
  hB : ∀ j, S1 ≤ j → B j
  hz : S2 ≤ w1.heap.size

section
variable {dir : Bool} {w1 wr w' : World} {ids ns : List Int} {B : Nat → Prop} {S1 S2 ib k gb jn je jt ju js jr : Nat} {N : List Int} {D : List (Int × Int)} {f : Int → Int → Nat}

theorem CSt.zs (h : CSt dir w1 wr ids ns B S1 S2 ib k gb jn je jt ju js jr N D f) : S2 ≤ wr.heap.size := Nat.le_trans h.hz h.kp.size

theorem CSt.next (h : CSt dir w1 wr ids ns B S1 S2 ib k gb jn je jt ju js jr N D f) {k' : Nat} (hg : wr.grownBy w' (some ib)) (hi : IterAt w' S1 S2 ib k' ns) :
    CSt dir w1 w' ids ns B S1 S2 ib k' gb jn je jt ju js jr N D f := by
  obtain ⟨ad, c, F, hW, hF⟩ := h.g
  refine ⟨hi, ⟨ad, c, F, hW.far hg fun r j hr e => ?_, hF⟩, h.kp.trans (Keeps.grow hg (h.hB ib h.it.1)), h.hB, h.hz⟩
  injection e with e
  exact (hW.R.lo r j hr).2 ⟨by rw [← e]; exact h.it.1, by rw [← e]; exact h.it.2.1⟩

theorem CSt.below (h : CSt dir w1 wr ids ns B S1 S2 ib k gb jn je jt ju js jr N D f) (hb : Below wr.heap.size wr w') : CSt dir w1 w' ids ns B S1 S2 ib k gb jn je jt ju js jr N D f := by
  obtain ⟨ad, c, F, hW, hF⟩ := h.g
  exact ⟨h.it.same fun j _ hj => hb.block j (Nat.lt_of_lt_of_le hj h.zs), ⟨ad, c, F, hW.below hb, hF⟩, h.kp.trans (Keeps.of hb), h.hB, h.hz⟩

theorem CSt.drew (h : CSt dir w1 wr ids ns B S1 S2 ib k gb jn je jt ju js jr N D f) : CSt dir w1 wr.drew ids ns B S1 S2 ib k gb jn je jt ju js jr N D f := h.below (drew_below wr)
theorem CSt.drewN (h : CSt dir w1 wr ids ns B S1 S2 ib k gb jn je jt ju js jr N D f) (q : Nat) : CSt dir w1 (wr.drewN q) ids ns B S1 S2 ib k gb jn je jt ju js jr N D f := h.below (drewN_below wr q)

theorem CSt.turn (h : CSt dir w1 wr ids ns B S1 S2 ib k gb jn je jt ju js jr N D f) {N' : List Int} {D' : List (Int × Int)} (hk : Keeps (Zone B S1 S2) wr w')
    (hg : ∃ ad c F, WG dir w' ids (Zone B S1 S2) ad c gb jn je jt ju js jr N' F ∧ FI dir F D' f) : CSt dir w1 w' ids ns B S1 S2 ib k gb jn je jt ju js jr N' D' f :=
  ⟨h.it.same fun _ h1 h2 => hk.in h1 h2 h.zs, hg, h.kp.trans hk.zone, h.hB, h.hz⟩

theorem CSt.congr (h : CSt dir w1 wr ids ns B S1 S2 ib k gb jn je jt ju js jr N D f) {D' : List (Int × Int)} (e : ∀ p, p ∈ D ↔ p ∈ D') : CSt dir w1 wr ids ns B S1 S2 ib k gb jn je jt ju js jr N D' f := by
  obtain ⟨ad, c, F, hW, hF⟩ := h.g
  exact ⟨h.it, ⟨ad, c, F, hW, hF.congr e⟩, h.kp, h.hB, h.hz⟩

/-- A second iterator is made: the graph lies outside both. -/
theorem CSt.inner (h : CSt dir w1 wr ids ns B S1 S2 ib k gb jn je jt ju js jr N D f) {wb : World} {ib2 : Nat} {ms : List Int} (hb : Below wr.heap.size wr wb) (hi : IterAt wb wr.heap.size wb.heap.size ib2 0 ms) :
    CSt dir wb wb ids ms (Zone B S1 S2) wr.heap.size wb.heap.size ib2 0 gb jn je jt ju js jr N D f := by
  obtain ⟨ad, c, F, hW, hF⟩ := h.g
  exact ⟨hi, ⟨ad, c, F, hW.beside hb, hF⟩, Keeps.refl _ _, hW.R.new, Nat.le_refl _⟩
/-- The second iterator is left. -/
theorem CSt.outer (h : CSt dir w1 wr ids ns B S1 S2 ib k gb jn je jt ju js jr N D f) {wb : World} {ib2 k2 : Nat} {ms : List Int} {D' : List (Int × Int)} (hb : Below wr.heap.size wr wb)
    (hi : CSt dir wb w' ids ms (Zone B S1 S2) wr.heap.size wb.heap.size ib2 k2 gb jn je jt ju js jr N D' f) : CSt dir w1 w' ids ns B S1 S2 ib k gb jn je jt ju js jr N D' f := by
  obtain ⟨ad, c, F, hW, hF⟩ := hi.g
  have h1 := h.below hb
  refine h1.turn hi.kp ⟨ad, c, F, hW.wide fun j hj => ?_, hF⟩
  have hz := h.zs
  have hs := hb.size
  have hs2 := hi.kp.size
  exact ⟨h.hB j (by have := h.it.1; have := h.it.2.1; omega), fun hq => by omega⟩

/-- The first iterator is made. -/
theorem CSt.start {ad : WR → Option Nat} {c : WR → Cont} (h : WG dir wr ids B ad c gb jn je jt ju js jr [] (fun _ _ => none)) {wb : World} (hb : Below wr.heap.size wr wb) (hi : IterAt wb wr.heap.size wb.heap.size ib 0 ns) :
    CSt dir wb wb ids ns B wr.heap.size wb.heap.size ib 0 gb jn je jt ju js jr [] [] f :=
  ⟨hi, ⟨ad, c, _, h.beside hb, FI.nil dir f⟩, Keeps.refl _ _, h.R.new, Nat.le_refl _⟩
end
end Go.Proofs.YtgkimjjodhnmiaaGreat

namespace Go.Proofs.YtgkimjjodhnmiaaGreat
open Go.RowKit Go.Maps

theorem addNode_methodDirected (n : Nat) (a : Addr) (w : World) : (method (n + 1) 42 (.pointer (some a)) "AddNode").run Tryz.prog w = .ok (105, .pointer (some a)) w := by kernel_rfl
theorem setEdge_methodDirected (n : Nat) (a : Addr) (w : World) : (method (n + 1) 42 (.pointer (some a)) "SetWeightedEdge").run Tryz.prog w = .ok (112, .pointer (some a)) w := by kernel_rfl
theorem addNode_aheadDirected (n : Nat) (a : Addr) (w : World) : (nilAhead (n + 1) 42 (.pointer (some a)) "AddNode").run Tryz.prog w = .ok (some false) w := by kernel_rfl
theorem setEdge_aheadDirected (n : Nat) (a : Addr) (w : World) : (nilAhead (n + 1) 42 (.pointer (some a)) "SetWeightedEdge").run Tryz.prog w = .ok (some false) w := by kernel_rfl
theorem addNode_methodUndirected (n : Nat) (a : Addr) (w : World) : (method (n + 1) 49 (.pointer (some a)) "AddNode").run Tryz.prog w = .ok (119, .pointer (some a)) w := by kernel_rfl
theorem setEdge_methodUndirected (n : Nat) (a : Addr) (w : World) : (method (n + 1) 49 (.pointer (some a)) "SetWeightedEdge").run Tryz.prog w = .ok (126, .pointer (some a)) w := by kernel_rfl
theorem addNode_aheadUndirected (n : Nat) (a : Addr) (w : World) : (nilAhead (n + 1) 49 (.pointer (some a)) "AddNode").run Tryz.prog w = .ok (some false) w := by kernel_rfl
theorem setEdge_aheadUndirected (n : Nat) (a : Addr) (w : World) : (nilAhead (n + 1) 49 (.pointer (some a)) "SetWeightedEdge").run Tryz.prog w = .ok (some false) w := by kernel_rfl
theorem wedge_methodDir (n : Nat) (v : Value) (w : World) : (method (n + 1) 52 (.agg #[v]) "WeightedEdge").run Tryz.prog w = .ok (136, .agg #[v]) w := by kernel_rfl
theorem wedge_aheadDir (n : Nat) (v : Value) (w : World) : (nilAhead (n + 1) 52 (.agg #[v]) "WeightedEdge").run Tryz.prog w = .ok (some false) w := by kernel_rfl
theorem wedge_methodUnd (n : Nat) (v : Value) (w : World) : (method (n + 1) 73 (.agg #[v]) "WeightedEdge").run Tryz.prog w = .ok (160, .agg #[v]) w := by kernel_rfl
theorem wedge_aheadUnd (n : Nat) (v : Value) (w : World) : (nilAhead (n + 1) 73 (.agg #[v]) "WeightedEdge").run Tryz.prog w = .ok (some false) w := by kernel_rfl
end Go.Proofs.YtgkimjjodhnmiaaGreat
