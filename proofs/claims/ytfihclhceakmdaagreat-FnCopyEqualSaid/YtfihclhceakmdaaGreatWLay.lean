/- An edge laid into a simple graph with weights: the maps' part. -/
import Derived.Test.YtfihclhceakmdaaGreatWAdd
namespace Go.Proofs.YtfihclhceakmdaaGreat
open Go.RowKit Go.Maps

theorem vmap_new' (w : World) (ids : List Int) : VMap (w.alloc (.map #[] 0)) ids w.heap.size (fun _ => none) := vmap_new w ids

section
variable {dir : Bool} {w : World} {ids : List Int} {B : Nat → Prop} {ad : WR → Option Nat} {c : WR → Cont} {gb jn je jt ju js jr : Nat} {N : List Int} {F : Int → Int → Option Value}

/-- A node that is there laid once more. -/
theorem WG.again (h : WG dir w ids B ad c gb jn je jt ju js jr N F) {x : Int} (hx : In64 x) (hm : x ∈ ids) (hxN : x ∈ N) (hl : ids.length ≤ 1000) :
    (Instr.lookup 81 (.map (some jn)) (.int .i64 x) true).run Tryz.prog w = .ok (.tuple #[.iface 227 (.int .i64 x), .bool true]) w ∧
    ∃ w', (Instr.mapUpdate 81 (.map (some jn)) (.int .i64 x) (.iface 227 (.int .i64 x))).run Tryz.prog w = .ok () w' ∧ (∃ c', WG dir w' ids B ad c' gb jn je jt ju js jr N F) ∧ Keeps B w w' := by
  have hlk := vmap_look_ok h.nmap Tryz.underlying81 (Tryz.zeroValue97 w) hx
  unfold nfun at hlk
  rw [if_pos hxN] at hlk
  obtain ⟨w7, hrun7, hm7, hg7⟩ := vmap_put h.nmap Tryz.underlying81 hx hm (by omega) (.iface 227 (.int .i64 x))
  have e7 : updV (nfun N) x (some (.iface 227 (.int .i64 x))) = nfun N := by
    funext y
    unfold updV nfun
    by_cases e : y = x
    · subst e
      rw [if_pos rfl, if_pos hxN]; rfl
    · rw [if_neg e]
  rw [e7] at hm7
  exact ⟨hlk, w7, hrun7, ⟨_, h.turnN hg7 hm7⟩, Keeps.grow hg7 (h.lo h.an)⟩

theorem WG.layE (h : WG dir w ids B ad c gb jn je jt ju js jr N F) {x y : Int} (hx : In64 x) (hy : In64 y) (hxm : x ∈ ids) (hym : y ∈ ids) (hl : ids.length ≤ 1000) (v : Value) :
    (∃ j w', (Instr.lookup 82 (.map (some je)) (.int .i64 x) true).run Tryz.prog w = .ok (.tuple #[.map (some j), .bool true]) w ∧
      (Instr.mapUpdate 109 (.map (some j)) (.int .i64 y) v).run Tryz.prog w = .ok () w' ∧ (∃ ad' c', WG dir w' ids B ad' c' gb jn je jt ju js jr N (updE F x y v)) ∧ Keeps B w w') ∨
    (∃ w2 w3, (Instr.lookup 82 (.map (some je)) (.int .i64 x) true).run Tryz.prog w = .ok (.tuple #[.map none, .bool false]) w ∧
      (Instr.mapUpdate 109 (.map (some w.heap.size)) (.int .i64 y) v).run Tryz.prog (w.alloc (.map #[] 0)) = .ok () w2 ∧
      (Instr.mapUpdate 82 (.map (some je)) (.int .i64 x) (.map (some w.heap.size))).run Tryz.prog w2 = .ok () w3 ∧ (∃ ad' c', WG dir w3 ids B ad' c' gb jn je jt ju js jr N (updE F x y v)) ∧ Keeps B w w3) := by
  have hlk := vmap_look_ok h.emap Tryz.underlying82 (Tryz.zeroValue109 w) hx
  cases hc : ad (.ei x) with
  | some j =>
    left
    unfold mfun at hlk
    simp only [hc] at hlk
    obtain ⟨w', hr, hm, hg⟩ := vmap_put (h.imap hc) Tryz.underlying109 hy hym (by omega) v
    obtain ⟨c', h'⟩ := h.putE hc hg hm
    exact ⟨j, w', hlk, hr, ⟨ad, c', h'⟩, Keeps.grow hg (h.lo hc)⟩
  | none =>
    right
    unfold mfun at hlk
    simp only [hc] at hlk
    obtain ⟨w2, hr, hm, hg⟩ := vmap_put (vmap_new' w ids) Tryz.underlying109 hy hym (by omega) v
    have hg1 : w.grownBy w2 none := by
      refine ⟨hg.os, hg.tape, hg.output, by have := hg.size; simp at this; omega, fun k hk _ => ?_⟩
      rw [hg.block k (by simp; omega) (by intro e; injection e with e; omega), Below.heap_alloc _ _ _ hk]
    have hem : VMap w2 ids je (mfun fun x => ad (.ei x)) := (h.grown hg1).emap
    obtain ⟨w3, hr3, hm3, hg3⟩ := vmap_put hem Tryz.underlying82 hx hxm (by omega) (.map (some w.heap.size))
    obtain ⟨ad', c', h'⟩ := h.newE (y := y) (v := v) hc hg1 (Nat.le_refl _) hm hg3 hm3
    refine ⟨w2, w3, hlk, hr, hr3, ⟨ad', c', h'⟩, ?_⟩
    have hb2 : Keeps B w w2 := ⟨hg1.os, hg1.tape, hg1.output, hg1.size, fun k hk _ => hg1.block k hk (by simp)⟩
    exact hb2.trans (Keeps.grow hg3 (h.lo h.ae))

theorem WG.layT (hd : dir = true) (h : WG dir w ids B ad c gb jn je jt ju js jr N F) {x y : Int} (hx : In64 x) (hy : In64 y) (hxm : x ∈ ids) (hym : y ∈ ids) (hl : ids.length ≤ 1000) (v : Value) :
    (∃ j w', (Instr.lookup 82 (.map (some jt)) (.int .i64 x) true).run Tryz.prog w = .ok (.tuple #[.map (some j), .bool true]) w ∧
      (Instr.mapUpdate 109 (.map (some j)) (.int .i64 y) v).run Tryz.prog w = .ok () w' ∧ (∃ ad' c', WG dir w' ids B ad' c' gb jn je jt ju js jr N F) ∧ Keeps B w w') ∨
    (∃ w2 w3, (Instr.lookup 82 (.map (some jt)) (.int .i64 x) true).run Tryz.prog w = .ok (.tuple #[.map none, .bool false]) w ∧
      (Instr.mapUpdate 109 (.map (some w.heap.size)) (.int .i64 y) v).run Tryz.prog (w.alloc (.map #[] 0)) = .ok () w2 ∧
      (Instr.mapUpdate 82 (.map (some jt)) (.int .i64 x) (.map (some w.heap.size))).run Tryz.prog w2 = .ok () w3 ∧ (∃ ad' c', WG dir w3 ids B ad' c' gb jn je jt ju js jr N F) ∧ Keeps B w w3) := by
  have hlk := vmap_look_ok (h.tmap hd) Tryz.underlying82 (Tryz.zeroValue109 w) hx
  cases hc : ad (.ti x) with
  | some j =>
    left
    unfold mfun at hlk
    simp only [hc] at hlk
    obtain ⟨f, hf⟩ := h.ti x j hc
    obtain ⟨w', hr, hm, hg⟩ := vmap_put (h.R.map hc hf) Tryz.underlying109 hy hym (by omega) v
    obtain ⟨c', h'⟩ := h.putT hc hg hm
    exact ⟨j, w', hlk, hr, ⟨ad, c', h'⟩, Keeps.grow hg (h.lo hc)⟩
  | none =>
    right
    unfold mfun at hlk
    simp only [hc] at hlk
    obtain ⟨w2, hr, hm, hg⟩ := vmap_put (vmap_new' w ids) Tryz.underlying109 hy hym (by omega) v
    have hg1 : w.grownBy w2 none := by
      refine ⟨hg.os, hg.tape, hg.output, by have := hg.size; simp at this; omega, fun k hk _ => ?_⟩
      rw [hg.block k (by simp; omega) (by intro e; injection e with e; omega), Below.heap_alloc _ _ _ hk]
    have hem : VMap w2 ids jt (mfun fun x => ad (.ti x)) := (h.grown hg1).tmap hd
    obtain ⟨w3, hr3, hm3, hg3⟩ := vmap_put hem Tryz.underlying82 hx hxm (by omega) (.map (some w.heap.size))
    obtain ⟨ad', c', h'⟩ := h.newT hd (x := x) hg1 (Nat.le_refl _) hm hg3 hm3
    refine ⟨w2, w3, hlk, hr, hr3, ⟨ad', c', h'⟩, ?_⟩
    have hb2 : Keeps B w w2 := ⟨hg1.os, hg1.tape, hg1.output, hg1.size, fun k hk _ => hg1.block k hk (by simp)⟩
    exact hb2.trans (Keeps.grow hg3 (h.lo (h.at_ hd)))
end
end Go.Proofs.YtfihclhceakmdaaGreat
