/- The closure of PathExistsIn; the set of numbers; the queue's Len. -/
import Derived.Test.YtpmphefmmcbpaaaGreatFrom
import Derived.Handy
import Derived.Maps.OwnSet
namespace Go.Proofs.YtpmphefmmcbpaaaGreat
open Go.RowKit

/-- Whether a number is one of Go's int64. -/
def In64 (x : Int) : Prop := (Lit.int .i64 x).wf = true

/-- A set of numbers in memory. -/
def SetAt (w : World) (mb N : Nat) (s : List Int) : Prop :=
  ∃ D : DataW Unit, w.ownsMap Tryz.prog 2 unitElem mb N D ∧ ∀ x, Maps.has D (.int .i64 x) = decide (x ∈ s)

theorem keyed64 : Maps.Keyed Tryz.prog 2 := Maps.int_keyed Tryz.underlying2

theorem setAt_new (w : World) : SetAt (w.alloc (.map #[] 0)) w.heap.size 0 [] := ⟨.map [], World.ownsMap_made w _ _ _, fun x => by simp [Maps.has]⟩

theorem setHas_any (mb N : Nat) (s : List Int) (x : Int) (w : World) (hx : In64 x) (hs : SetAt w mb N s) :
    Calls Tryz.prog 79 #[.map (some mb), .int .i64 x] w
      fun e w' => e = .returned (.bool (decide (x ∈ s))) ∧ ∃ o, w' = w.alloc o := by
  obtain ⟨D, hown, hD⟩ := hs
  have hkey : keyOf Tryz.prog 2 (.int .i64 x) = some (.int .i64 x) := Maps.keyOf_int_mk Tryz.underlying2 hx
  have hDx := hD x
  go_enter Tryz.func79, Tryz.ntmps79
  go_wp2_with (at_lookup; refine wpList_lookup_own_unit _ rfl _ _ 80 rfl 2 169 keyed64 Tryz.underlying80 (Tryz.zeroValue169 _) mb N D rfl hown _ _ rfl hkey ?_)
  go_ret
  exact ⟨rfl, _, rfl⟩

theorem setAdd_any (mb N : Nat) (s : List Int) (x : Int) (w : World) (hx : In64 x) (hN : N ≤ 1048576) (hs : SetAt w mb N s) :
    Calls Tryz.prog 80 #[.map (some mb), .int .i64 x] w
      fun e w' => e = .returned (.tuple #[]) ∧ SetAt w' mb (N + 1) (x :: s) ∧ w.grownBy w' (some mb) := by
  obtain ⟨D, hown, hD⟩ := hs
  have hkey : keyOf Tryz.prog 2 (.int .i64 x) = some (.int .i64 x) := Maps.keyOf_int_mk Tryz.underlying2 hx
  have hput : ∀ y, Maps.has (D.put (.int .i64 x) (.agg [])) (.int .i64 y) = decide (y ∈ x :: s) := fun y => by
    by_cases h : y = x
    · subst h
      rw [Maps.has_put_same hown.isMap (by simp [WideAt.IsKeyLit]) _]; simp
    · rw [Maps.has_put_other (by simpa using h), hD y]
      simp [h]
  have hput' := Lib.hid hput
  clear hput hD
  go_enter Tryz.func80, Tryz.ntmps80
  go_wp2_with (at_mapUpdate; refine wpList_mapUpdate_own _ rfl _ _ _ 80 rfl 2 169 keyed64 Tryz.underlying80 (unitElem (H := Unit)) mb N D rfl hown (by unfold maxLen; omega) _ _ _ rfl rfl hkey _ [] unitElem_mk ?_; intro w1 hown1 hgrow1)
  go_end0
  exact ⟨rfl, ⟨_, hown1, hput'.out⟩, hgrow1⟩

/-- What a walk breadth first doesn't turn of its record: Visit, Traverse, the set. -/
structure BF where
  fv : Value
  ft : Value
  m : Value

/-- The block of a walk breadth first: Visit, Traverse, the queue, the set. -/
def TBlock (w : World) (tb : Nat) (h : Int) (s : Value) (m : BF) : Prop := w.heap[tb]? = some (.cells #[m.fv, m.ft, .int .i64 h, s, m.m] 82 (0, 0))

theorem TBlock.lt {w : World} {tb : Nat} {h : Int} {s : Value} {m : BF} (p : TBlock w tb h s m) : tb < w.heap.size := lt_of_block p
theorem TBlock.c0 {w : World} {tb : Nat} {h : Int} {s : Value} {m : BF} (p : TBlock w tb h s m) : w.cell? ⟨tb, 0, none⟩ = some m.fv := by
  unfold TBlock at p; simp [World.cell?, p]
theorem TBlock.c1 {w : World} {tb : Nat} {h : Int} {s : Value} {m : BF} (p : TBlock w tb h s m) : w.cell? ⟨tb, 1, none⟩ = some m.ft := by
  unfold TBlock at p; simp [World.cell?, p]
theorem TBlock.c2 {w : World} {tb : Nat} {h : Int} {s : Value} {m : BF} (p : TBlock w tb h s m) : w.cell? ⟨tb, 2, none⟩ = some (.int .i64 h) := by
  unfold TBlock at p; simp [World.cell?, p]
theorem TBlock.c3 {w : World} {tb : Nat} {h : Int} {s : Value} {m : BF} (p : TBlock w tb h s m) : w.cell? ⟨tb, 3, none⟩ = some s := by
  unfold TBlock at p; simp [World.cell?, p]
theorem TBlock.c4 {w : World} {tb : Nat} {h : Int} {s : Value} {m : BF} (p : TBlock w tb h s m) : w.cell? ⟨tb, 4, none⟩ = some m.m := by
  unfold TBlock at p; simp [World.cell?, p]
theorem TBlock.free {w : World} {tb : Nat} {h : Int} {s : Value} {m : BF} (p : TBlock w tb h s m) (j : Nat) : w.frozen? ⟨tb, j, none⟩ = false := by
  unfold TBlock at p; simp [World.frozen?, p]
theorem TBlock.set2 {w : World} {tb : Nat} {h : Int} {s : Value} {m : BF} (p : TBlock w tb h s m) (u : Int) : TBlock (w.setCell ⟨tb, 2, none⟩ (.int .i64 u)) tb u s m := (heap_set_self p 2 _).trans rfl
theorem TBlock.set3 {w : World} {tb : Nat} {h : Int} {s : Value} {m : BF} (p : TBlock w tb h s m) (u : Value) : TBlock (w.setCell ⟨tb, 3, none⟩ u) tb h u m := (heap_set_self p 3 _).trans rfl
theorem TBlock.set4 {w : World} {tb : Nat} {h : Int} {s : Value} {m : BF} (p : TBlock w tb h s m) (u : Value) : TBlock (w.setCell ⟨tb, 4, none⟩ u) tb h s ⟨m.fv, m.ft, u⟩ := (heap_set_self p 4 _).trans rfl
theorem TBlock.kept {w w' : World} {tb : Nat} {h : Int} {s : Value} {m : BF} {row : Option Nat} (p : TBlock w tb h s m) (hg : w.grownBy w' row) (hne : some tb ≠ row) : TBlock w' tb h s m := by
  unfold TBlock at p ⊢; rw [hg.block tb (lt_of_block p) hne]; exact p

theorem qlen_any (tb : Nat) (h n : Nat) (a : Option Addr) (c : Nat) (m : BF) (w : World) (hh : h ≤ n) (hn : n ≤ 2097152) (p : TBlock w tb h (.slice a n c) m) :
    Calls Tryz.prog 81 #[.pointer (some ⟨tb, 2, none⟩)] w fun e w' => e = .returned (.int .i64 ((n - h : Nat) : Int)) ∧ ∃ q, w' = w.drewN q := by
  have c2 := p.c2
  have c3 := p.c3
  have e1 : IntKind.i64.wrap ((n : Int) - (h : Int)) = ((n - h : Nat) : Int) := by rw [IntKind.wrap_i64]; omega
  clear p
  go_enter Tryz.func81, Tryz.ntmps81
  go_wp2
  go_quiet (fail)
  go_wp2
  go_ret
  exact ⟨rfl, _, rfl⟩
end Go.Proofs.YtpmphefmmcbpaaaGreat
