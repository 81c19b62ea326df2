/- The definitions (spec): hasInt, reached. -/
import Derived.Test.YtanbhibllilccaaGreatSpec1
import Derived.Test.YtanbhibllilccaaGreatTarjanLaw
import Derived.Deep.LoopGhost
namespace Go.Proofs.YtanbhibllilccaaGreat
open Go.RowKit

/-- A row that is read, apart from one that grows. -/
def RdOne (w : World) (lb : Nat) (al : Option Addr) (l : List Int) (sa : Value) : Prop :=
  l = [] ∨ (al = some ⟨lb, 0, none⟩ ∧ w.rangeAt lb 0 (ints l) ∧ lb < w.heap.size ∧ sa.ownBlock ≠ some lb)

theorem RdOne.keep {w w1 : World} {lb : Nat} {al : Option Addr} {l : List Int} {sa : Value} (h : RdOne w lb al l sa) (hb : Below w.heap.size w w1) : RdOne w1 lb al l sa := by
  rcases h with h | ⟨h1, h2, h3, h4⟩
  · exact .inl h
  · exact .inr ⟨h1, rangeAt_below h2 hb h3, Nat.lt_of_lt_of_le h3 hb.size, h4⟩

theorem RdOne.grown {w w1 : World} {lb : Nat} {al : Option Addr} {l : List Int} {sa sa' : Value} (h : RdOne w lb al l sa) (hg : w.grownBy w1 sa.ownBlock) (ha : ∀ j, sa'.ownBlock = some j → sa.ownBlock = some j ∨ w.heap.size ≤ j) : RdOne w1 lb al l sa' := by
  rcases h with h | ⟨h1, h2, h3, h4⟩
  · exact .inl h
  · refine .inr ⟨h1, fun j u hj => ?_, Nat.lt_of_lt_of_le h3 hg.size, fun e => ?_⟩
    · rw [World.cell?_of_block (hg.block lb h3 (fun e => h4 e.symm))]; exact h2 j u hj
    · rcases ha lb e with e' | e'
      · exact h4 e'
      · omega

/-- What has been reached, of which the first i were gone from. -/
structure RS (s : Int → List Int) (u : Int) (i : Nat) (F : List Int) : Prop where
  nd : F.Nodup
  start : u ∈ F
  reach : ∀ x ∈ F, Reach s u x
  shut : ∀ j (hj : j < F.length), j < i → ∀ y ∈ s F[j], y ∈ F

theorem RS.new (s : Int → List Int) (u : Int) : RS s u 0 [u] := ⟨by simp, by simp, fun x hx => by rw [List.mem_singleton.1 hx]; exact .refl, fun j _ h => absurd h (Nat.not_lt_zero j)⟩

theorem RS.more {s : Int → List Int} {u : Int} {i : Nat} {F : List Int} (h : RS s u i F) (hi : i ≤ F.length) {t x : Int} (ht : t ∈ F) (hx : x ∈ s t) (hn : x ∉ F) : RS s u i (F ++ [x]) := by
  refine ⟨?_, List.mem_append_left _ h.start, fun y hy => ?_, fun j hj hji y hy => ?_⟩
  · rw [List.nodup_append]
    exact ⟨h.nd, by simp, fun a ha b hb e => hn (by rw [List.mem_singleton.1 hb] at e; exact e ▸ ha)⟩
  · rcases List.mem_append.1 hy with hy | hy
    · exact h.reach y hy
    · rw [List.mem_singleton.1 hy]; exact (h.reach t ht).step hx
  · rw [List.getElem_append_left (by omega)] at hy
    exact List.mem_append_left _ (h.shut j (by omega) hji y hy)

theorem RS.next {s : Int → List Int} {u : Int} {i : Nat} {F : List Int} (h : RS s u i F) (hi : i < F.length) (hs : ∀ y ∈ s F[i], y ∈ F) : RS s u (i + 1) F :=
  ⟨h.nd, h.start, h.reach, fun j hj hji y hy => by
    rcases Nat.lt_or_eq_of_le (Nat.le_of_lt_succ hji) with e | e
    · exact h.shut j hj e y hy
    · subst e; exact hs y hy⟩

theorem RS.all {s : Int → List Int} {u : Int} {F : List Int} (h : RS s u F.length F) {x : Int} (hx : Reach s u x) : x ∈ F := by
  induction hx with
  | refl => exact h.start
  | step _ hy ih =>
    obtain ⟨j, hj, e⟩ := List.mem_iff_getElem.1 ih
    exact h.shut j hj hj _ (by rw [e]; exact hy)

theorem sReach {g : Gr} {u : Int} (hu : u ∈ g.nodes) : ∀ x, Reach (sFrom g) u x → x ∈ asc g.nodes := fun x r => by
  induction r with
  | refl => exact asc_mem.2 hu
  | step _ hy _ => exact (List.mem_filter.1 hy).1

/-- What reached gives. -/
def ReachedPost (w : World) (g : Gr) (u : Int) (e : Ending) (w' : World) : Prop :=
  ∃ (R : List Int) (a : Option Addr) (c : Nat), R.Nodup ∧ (∀ x, x ∈ R ↔ Reach (sFrom g) u x) ∧ R.length ≤ 1000 ∧ e = .returned (.slice a R.length c) ∧ w'.ownsRow w.heap.size 3 1 (.slice a R.length c) R.length (ints (asc R)) ∧ Below w.heap.size w w'

end Go.Proofs.YtanbhibllilccaaGreat
