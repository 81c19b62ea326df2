/- What stays of the queue, the set, the iterator. -/
import Derived.Test.YtpmphefmmcbpaaaGreatQueue2
import Derived.Test.YtpmphefmmcbpaaaGreatTarjanLaw
import Derived.Test.YtpmphefmmcbpaaaGreatSucc
namespace Go.Proofs.YtpmphefmmcbpaaaGreat
open Go.RowKit

theorem QAt.qge {w : World} {B tb N : Nat} {m : BF} {q : List Int} (h : QAt w B tb N m q) : ∀ k, qblk w tb = some k → B ≤ k ∧ k < w.heap.size := by
  obtain ⟨h, n, c, a, xs, p, own, _⟩ := h
  intro k hk
  rw [p.qblk] at hk
  exact own.lt k hk

theorem QAt.tbB {w : World} {B tb N : Nat} {m : BF} {q : List Int} (h : QAt w B tb N m q) : tb < B := by
  obtain ⟨_, _, _, _, _, _, _, _, _, _, _, h, _⟩ := h; exact h
theorem QAt.Bsz {w : World} {B tb N : Nat} {m : BF} {q : List Int} (h : QAt w B tb N m q) : B ≤ w.heap.size := by
  obtain ⟨_, _, _, _, _, _, _, _, _, _, _, _, h⟩ := h; exact h

theorem QAt.cells {w : World} {B tb N : Nat} {m : BF} {q : List Int} (h : QAt w B tb N m q) : w.cell? ⟨tb, 0, none⟩ = some m.fv ∧ w.cell? ⟨tb, 1, none⟩ = some m.ft ∧ w.cell? ⟨tb, 4, none⟩ = some m.m := by
  obtain ⟨_, _, _, _, _, p, _⟩ := h
  exact ⟨p.c0, p.c1, p.c4⟩

/-- Where the queue's own two blocks stay it stays. -/
theorem QAt.same {w w' : World} {B tb N : Nat} {m : BF} {q : List Int} (h : QAt w B tb N m q) (h1 : w'.heap[tb]? = w.heap[tb]?) (h2 : ∀ k, qblk w tb = some k → w'.heap[k]? = w.heap[k]?) (hs : w.heap.size ≤ w'.heap.size) :
    QAt w' B tb N m q ∧ qblk w' tb = qblk w tb := by
  obtain ⟨h, n, c, a, xs, p, own, r1, r2, r3, r4, r5, r6⟩ := h
  have p' : TBlock w' tb h (.slice a n c) m := h1.trans p
  exact ⟨⟨h, n, c, a, xs, p', owns_same own (fun k hk => h2 k (by rw [p.qblk]; exact hk)), r1, r2, r3, r4, r5, Nat.le_trans r6 hs⟩, by rw [p'.qblk, p.qblk]⟩

theorem QAt.below {w w' : World} {B tb N : Nat} {m : BF} {q : List Int} (h : QAt w B tb N m q) (hb : Below w.heap.size w w') : QAt w' B tb N m q ∧ qblk w' tb = qblk w tb :=
  h.same (hb.block tb (by have := h.tbB; have := h.Bsz; omega)) (fun k hk => hb.block k (h.qge k hk).2) hb.size

theorem QAt.grown {w w' : World} {B tb N r : Nat} {m : BF} {q : List Int} (h : QAt w B tb N m q) (hg : w.grownBy w' (some r)) (h1 : r ≠ tb) (h2 : qblk w tb ≠ some r) : QAt w' B tb N m q ∧ qblk w' tb = qblk w tb :=
  h.same (hg.block tb (by have := h.tbB; have := h.Bsz; omega) (fun e => by injection e with e; omega)) (fun k hk => hg.block k (h.qge k hk).2 (fun e => h2 (by rw [hk, e]))) hg.size

theorem SetAt.same {w w' : World} {mb N : Nat} {s : List Int} (h : SetAt w mb N s) (h1 : w'.heap[mb]? = w.heap[mb]?) : SetAt w' mb N s := by
  obtain ⟨D, hown, hD⟩ := h
  obtain ⟨es, clock, hb, r⟩ := hown
  exact ⟨D, ⟨es, clock, h1.trans hb, r⟩, hD⟩
theorem SetAt.lt {w : World} {mb N : Nat} {s : List Int} (h : SetAt w mb N s) : mb < w.heap.size := by
  obtain ⟨D, ⟨es, clock, hb, r⟩, hD⟩ := h
  exact (Array.getElem?_eq_some_iff.1 hb).1
theorem SetAt.below {w w' : World} {mb N : Nat} {s : List Int} (h : SetAt w mb N s) (hb : Below w.heap.size w w') : SetAt w' mb N s := h.same (hb.block mb h.lt)
theorem SetAt.touch {w w' : World} {mb N tb B N' : Nat} {s q : List Int} {m : BF} (h : SetAt w mb N s) (hq : QAt w B tb N' m q) (ht : Touch tb w w') (h1 : mb ≠ tb) (h2 : mb < B) : SetAt w' mb N s :=
  h.same (ht.block mb h.lt h1 (fun e => by have := (hq.qge mb e.symm).1; omega))

theorem touch_below {w0 w w' : World} {A tb B N : Nat} {m : BF} {q : List Int} (hb : Below A w0 w) (hq : QAt w B tb N m q) (ht : Touch tb w w') (h1 : A ≤ tb) : Below A w0 w' :=
  hb.trans ⟨ht.os, ht.tape, ht.output, ht.size, fun k hk => ht.block k (by have := hq.tbB; have := hq.Bsz; omega) (by omega) (fun e => by have := (hq.qge k e.symm).1; have := hq.tbB; omega)⟩

/-- The queue's row lies outside of the iterator's blocks. -/
def Far (w : World) (tb B2 E : Nat) : Prop := ∀ k, qblk w tb = some k → k < B2 ∨ E ≤ k

theorem Far.touch {w w' : World} {tb B2 E : Nat} (h : Far w tb B2 E) (ht : Touch tb w w') (hE : E ≤ w.heap.size) : Far w' tb B2 E := fun k hk => by
  rcases ht.row k hk with h' | h'
  · exact h k h'
  · exact .inr (by omega)

theorem IterAt.touch {w w' : World} {B2 E ib k tb : Nat} {ns : List Int} (h : IterAt w B2 E ib k ns) (hf : Far w tb B2 E) (ht : Touch tb w w') (h1 : tb < B2) (hE : E ≤ w.heap.size) : IterAt w' B2 E ib k ns :=
  h.same fun j h2 h3 => ht.block j (by omega) (by omega) (fun e => by
    rcases hf j e.symm with h' | h' <;> omega)

theorem qlenAt_any (B tb N : Nat) (m : BF) (q : List Int) (w : World) (hN : N ≤ 1048576) (hq : QAt w B tb N m q) :
    Calls Tryz.prog 81 #[.pointer (some ⟨tb, 2, none⟩)] w fun e w' => e = .returned (.int .i64 (q.length : Nat)) ∧ ∃ k, w' = w.drewN k := by
  obtain ⟨h, n, c, a, xs, p, own, hd, hh, _, hn, _⟩ := hq
  have hxl : xs.length = n := by have := own.1; omega
  have hql : n - h = q.length := by
    have := congrArg List.length hd
    rw [List.length_drop, nodes_length, hxl] at this; exact this
  rw [← hql]
  exact qlen_any tb h n a c m w hh (by omega) p
end Go.Proofs.YtpmphefmmcbpaaaGreat
