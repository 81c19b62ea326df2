/- What a call leaves alone that writes into blocks of its own: the blocks may move to new places. -/
import Derived.Test.YtagnmdhdogaijaaGreatBase
namespace Go.Proofs.YtagnmdhdogaijaaGreat
open Go.RowKit

/-- All old blocks but those of S stay; those of S' are of S, or new. -/
structure Moves (S : List Nat) (w : World) (S' : List Nat) (w' : World) : Prop where
  os : w'.os = w.os
  tape : w'.tape = w.tape
  output : w'.output = w.output
  size : w.heap.size ≤ w'.heap.size
  block : ∀ k, k < w.heap.size → k ∉ S → w'.heap[k]? = w.heap[k]?
  row : ∀ k ∈ S', k ∈ S ∨ w.heap.size ≤ k

theorem Moves.refl (S : List Nat) (w : World) : Moves S w S w := ⟨rfl, rfl, rfl, Nat.le_refl _, fun _ _ _ => rfl, fun _ h => .inl h⟩

theorem Moves.apart {S S' : List Nat} {w w' : World} (h : Moves S w S' w') {k : Nat} (hk : k < w.heap.size) (hn : k ∉ S) : k ∉ S' := fun e => by
  rcases h.row k e with h' | h'
  · exact hn h'
  · omega

theorem Moves.trans {S S' S'' : List Nat} {w w' w'' : World} (h : Moves S w S' w') (k : Moves S' w' S'' w'') : Moves S w S'' w'' where
  os := k.os.trans h.os
  tape := k.tape.trans h.tape
  output := k.output.trans h.output
  size := Nat.le_trans h.size k.size
  block := fun i hi hn => (k.block i (Nat.lt_of_lt_of_le hi h.size) (h.apart hi hn)).trans (h.block i hi hn)
  row := fun i hi => by
    rcases k.row i hi with h' | h'
    · exact h.row i h'
    · exact .inr (Nat.le_trans h.size h')

/-- The same for a smaller set behind. -/
theorem Moves.sub {S S' T' : List Nat} {w w' : World} (h : Moves S w S' w') (hs : ∀ k ∈ T', k ∈ S' ∨ k ∈ S ∨ w.heap.size ≤ k) : Moves S w T' w' :=
  ⟨h.os, h.tape, h.output, h.size, h.block, fun k hk => by
    rcases hs k hk with e | e | e
    · exact h.row k e
    · exact .inl e
    · exact .inr e⟩

theorem Moves.wide {S T S' : List Nat} {w w' : World} (h : Moves S w S' w') (hs : ∀ k ∈ S, k ∈ T) : Moves T w S' w' :=
  ⟨h.os, h.tape, h.output, h.size, fun k hk hn => h.block k hk (fun e => hn (hs k e)), fun k hk => by
    rcases h.row k hk with e | e
    · exact .inl (hs k e)
    · exact .inr e⟩

theorem Moves.of_below {w w' : World} (S : List Nat) (hb : Below w.heap.size w w') : Moves S w S w' :=
  ⟨hb.os, hb.tape, hb.output, hb.size, fun k hk _ => hb.block k hk, fun _ h => .inl h⟩
theorem Moves.of_drewN (S : List Nat) (w : World) (q : Nat) : Moves S w S (w.drewN q) := Moves.of_below S (drewN_below w q)
theorem Moves.of_drew (S : List Nat) (w : World) : Moves S w S w.drew := Moves.of_below S (drew_below w)
theorem Moves.of_alloc (S : List Nat) (w : World) (o : Obj) : Moves S w S (w.alloc o) := Moves.of_below S (alloc_below w o)
theorem Moves.of_grown {w w' : World} {S : List Nat} {r : Nat} (hg : w.grownBy w' (some r)) (hr : r ∈ S) : Moves S w S w' :=
  ⟨hg.os, hg.tape, hg.output, hg.size, fun k hk hn => hg.block k hk (fun e => by injection e with e; exact hn (e ▸ hr)), fun _ h => .inl h⟩
theorem Moves.of_setCell {S : List Nat} (w : World) {b o : Nat} (v : Value) (hb : b ∈ S) : Moves S w S (w.setCell ⟨b, o, none⟩ v) :=
  ⟨rfl, rfl, rfl, by simp [World.setCell], fun k _ hn => Below.heap_setCell _ _ _ _ (fun e => hn (by rw [e]; exact hb)), fun _ h => .inl h⟩

theorem Moves.below {S S' : List Nat} {w0 w w' : World} {A : Nat} (h : Moves S w S' w') (hb : Below A w0 w) (hS : ∀ k ∈ S, A ≤ k) (hA : A ≤ w.heap.size) : Below A w0 w' :=
  hb.trans ⟨h.os, h.tape, h.output, h.size, fun k hk => h.block k (by omega) (fun e => by have := hS k e; omega)⟩

theorem Moves.low {S S' : List Nat} {w w' : World} {A : Nat} (h : Moves S w S' w') (hS : ∀ k ∈ S, A ≤ k) (hA : A ≤ w.heap.size) : ∀ k ∈ S', A ≤ k := fun k hk => by
  rcases h.row k hk with e | e
  · exact hS k e
  · omega

theorem Moves.cell {S S' : List Nat} {w w' : World} (h : Moves S w S' w') {p : Addr} {v : Value} (hp : w.cell? p = some v) (hn : p.block ∉ S) : w'.cell? p = some v := by
  rw [World.cell?_of_block (w := w) (h.block _ (cell_lt hp) hn)]; exact hp

theorem Moves.cells {S S' : List Nat} {w w' : World} (h : Moves S w S' w') {b o : Nat} {cs : List Value} (hp : Cells w (some ⟨b, o, none⟩) cs) (hn : b ∉ S) : Cells w' (some ⟨b, o, none⟩) cs := by
  rcases hp with hp | ⟨b', o', e, hlt, hr⟩
  · exact .inl hp
  · injection e with e
    injection e with e1 e2 _
    subst e1; subst e2
    exact .inr ⟨b, o, rfl, Nat.lt_of_lt_of_le hlt h.size, fun j u hj => h.cell (hr j u hj) hn⟩

/-- A new block written. -/
theorem Moves.grown {S S' : List Nat} {w w' w'' : World} {r : Option Nat} (h : Moves S w S' w') (hg : w'.grownBy w'' r) (hr : ∀ q, r = some q → w.heap.size ≤ q) : Moves S w S' w'' :=
  ⟨hg.os.trans h.os, hg.tape.trans h.tape, hg.output.trans h.output, Nat.le_trans h.size hg.size, fun k hk hn => (hg.block k (Nat.lt_of_lt_of_le hk h.size) (fun e => by have := hr k e.symm; omega)).trans (h.block k hk hn), h.row⟩
end Go.Proofs.YtagnmdhdogaijaaGreat
