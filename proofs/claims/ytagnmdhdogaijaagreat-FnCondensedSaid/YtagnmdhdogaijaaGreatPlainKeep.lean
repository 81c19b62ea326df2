/- A plain graph stays where a cell is written that holds a pointer. -/
import Derived.Test.YtagnmdhdogaijaaGreatRead0
namespace Go.Proofs.YtagnmdhdogaijaaGreat
open Go.RowKit

theorem cell_keep {w : World} {p q : Addr} {v u0 : Value} (hp : w.cell? p = some v) (hq : w.cell? q = some u0) (hn : v ≠ u0) (u : Value) : (w.setCell q u).cell? p = some v := by
  have hne : q ≠ p := fun e => by
    subst e
    rw [hq] at hp
    injection hp with hp
    exact hn hp.symm
  rw [World.cell?_setCell_other _ _ _ _ hne]; exact hp

theorem Cells.keep {w : World} {a : Option Addr} {cs : List Value} {q : Addr} {u0 : Value} (h : Cells w a cs) (hq : w.cell? q = some u0) (hn : ∀ v ∈ cs, v ≠ u0) (u : Value) : Cells (w.setCell q u) a cs := by
  rcases h with h | ⟨b, o, ha, hlt, hr⟩
  · exact .inl h
  · exact .inr ⟨b, o, ha, by simp [World.setCell]; exact hlt, fun j v hj => cell_keep (hr j v hj) hq (hn v (List.mem_of_getElem? hj)) u⟩

theorem ints_nptr (zs : List Int) (p : Option Addr) : ∀ v ∈ ints zs, v ≠ .pointer p := fun v hv e => by
  obtain ⟨x, _, rfl⟩ := List.mem_map.1 hv
  cases e

theorem arcs_nptr (l : List Arc) (p : Option Addr) : ∀ v ∈ arcCells l, v ≠ .pointer p := fun v hv e => by
  unfold arcCells at hv
  obtain ⟨x, _, hx⟩ := List.mem_flatMap.1 hv
  subst e
  simp at hx

theorem TableAt.keep {w : World} {pb f n : Nat} {ls : List (List Arc)} {q : Addr} {p : Option Addr} (h : TableAt w pb f n ls) (hq : w.cell? q = some (.pointer p)) (u : Value) : TableAt (w.setCell q u) pb f n ls := by
  obtain ⟨g, h1, h2, h3⟩ := h
  refine ⟨g, cell_keep h1 hq (fun e => by cases e) u, h2, fun j l hl => ?_⟩
  obtain ⟨a, c, h4, h5⟩ := h3 j l hl
  exact ⟨a, c, cell_keep h4 hq (fun e => by cases e) u, h5.keep hq (arcs_nptr l p) u⟩

theorem PlainAt.keep {w : World} {pb : Nat} {ids : List Int} {outs ins : List (List Arc)} {q : Addr} {p : Option Addr} (h : PlainAt w pb ids outs ins) (hq : w.cell? q = some (.pointer p)) (u : Value) : PlainAt (w.setCell q u) pb ids outs ins := by
  obtain ⟨a, c, h1, h2⟩ := h.row
  exact ⟨⟨a, c, cell_keep h1 hq (fun e => by cases e) u, h2.keep hq (ints_nptr ids p) u⟩, h.up, h.out.keep hq u, h.inn.keep hq u, h.okOut, h.okIn⟩
end Go.Proofs.YtagnmdhdogaijaaGreat
