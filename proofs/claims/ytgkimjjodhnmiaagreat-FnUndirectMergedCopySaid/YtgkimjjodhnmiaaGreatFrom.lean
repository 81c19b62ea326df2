/- Node, ID, and From of both kinds of graph. -/
import Derived.Test.YtgkimjjodhnmiaaGreatIter
import Derived.Test.YtgkimjjodhnmiaaGreatOpen
namespace Go.Proofs.YtgkimjjodhnmiaaGreat
open Go.RowKit

theorem id_any (x : Int) (w : World) : Calls Tryz.prog 178 #[.int .i64 x] w fun e w' => e = .returned (.int .i64 x) ∧ w = w' := by
  go_enter Tryz.func178, Tryz.ntmps178
  go_wp2
  go_ret
  exact ⟨rfl, rfl⟩

set_option maxHeartbeats 1000000 in
theorem node_any (B E ib k : Nat) (ns : List Int) (w : World) (hk : k < ns.length) (hn : ns.length ≤ 1048576) (hi : IterAt w B E ib (k + 1) ns) :
    Calls Tryz.prog 185 #[.pointer (some ⟨ib, 0, none⟩)] w
      fun e w' => e = .returned (.iface 205 (.int .i64 ns[k])) ∧ ∃ q, w' = w.drewN q := by
  obtain ⟨hB, hE, a, c, hrE, hb, hown, hne⟩ := hi
  rw [show ((k + 1 : Nat) : Int) - 1 = (k : Int) by omega] at hb
  have c0 : w.cell? ⟨ib, 0, none⟩ = some (.int .i64 (k : Int)) := by simp [World.cell?, hb]
  have c1 : w.cell? ⟨ib, 1, none⟩ = some (.slice a ns.length c) := by simp [World.cell?, hb]
  obtain ⟨g, rfl, _, _, _⟩ := owns_at hown (by omega)
  have c2 : w.cell? ⟨g, k, none⟩ = some (.iface 205 (.int .i64 ns[k])) := owns_cell hown (nodes_get ns k hk)
  have d1 : decide ((ns.length : Int) ≤ (k : Int)) = false := decide_eq_false (by omega)
  have d2 : decide (ns.length ≤ k) = false := decide_eq_false (by omega)
  have d3 : decide ((k : Int) < 0) = false := decide_eq_false (by omega)
  clear hb hown hne
  go_enter Tryz.func185, Tryz.ntmps185
  go_wp2
  go_quiet (fail)
  go_wp2
  go_quiet (fail)
  go_wp2
  go_ret
  exact ⟨rfl, _, World.drewN_drewN _ _ _⟩

theorem IterAt.mono {w : World} {B A E ib k : Nat} {ns : List Int} (h : IterAt w B E ib k ns) (hA : A ≤ B) : IterAt w A E ib k ns := by
  obtain ⟨hB, hE, a, c, hr, hb, hown, hne⟩ := h
  exact ⟨Nat.le_trans hA hB, hE, a, c, hr, hb, owns_base hown hA, hne⟩

/-- Its blocks lie from B on, ahead of E: where these stay it stays. -/
theorem IterAt.same {w w' : World} {B E ib k : Nat} {ns : List Int} (h : IterAt w B E ib k ns) (hs : ∀ j, B ≤ j → j < E → w'.heap[j]? = w.heap[j]?) : IterAt w' B E ib k ns := by
  obtain ⟨hB, hE, a, c, hr, hb, hown, hne⟩ := h
  exact ⟨hB, hE, a, c, hr, (hs ib hB hE).trans hb, owns_same hown (fun j hj => hs j (hown.lt j hj).1 (hr j hj)), hne⟩

/-- What From leaves: an iterator of the ends of a row. -/
def FromPost (w : World) (ids : List Int) (outs : List (List Arc)) (x : Int) (e : Ending) (w' : World) : Prop :=
  ∃ ib, e = .returned (.iface 208 (.pointer (some ⟨ib, 0, none⟩))) ∧ IterAt w' w.heap.size w'.heap.size ib 0 (endsOf ids (outs.getD (posOf ids x) [])) ∧ Below w.heap.size w w'

set_option maxHeartbeats 1000000 in
theorem fromDir_any (pb : Nat) (ids : List Int) (outs ins : List (List Arc)) (x : Int) (w : World) (hids : ids.length ≤ 1048575) (hp : PlainAt w pb ids outs ins) (hx : x ∈ ids) :
    Calls Tryz.prog 130 #[.agg #[.pointer (some ⟨pb, 0, none⟩)], .int .i64 x] w (FromPost w ids outs x) := by
  have hp1 := hp.below (alloc_below w (.cells #[.pointer (some ⟨pb, 0, none⟩)] 52))
  obtain ⟨ai, ci, h0, hc0⟩ := hp1.row
  obtain ⟨gt, h1, hlen, hrow⟩ := hp1.out
  obtain ⟨hpl, hpe⟩ := posOf_mem hp1.up hx
  have hl : outs[posOf ids x]? = some (outs.getD (posOf ids x) []) := by simp [hlen, hpl]
  obtain ⟨a, c, h2, hc2⟩ := hrow _ _ hl
  have hro := hp1.okOut _ (List.mem_of_getElem? hl)
  have hsh := asc_short hro
  have hpi := Lib.hid (pindex_any pb ai ids.length ci ids x _ h0 rfl (by omega) hc0 hp1.up)
  have hd : decide (x ∈ ids) = true := decide_eq_true hx
  unfold FromPost
  generalize outs.getD (posOf ids x) [] = l at *
  have hen := Lib.hid (ends_any pb ids ai ci a l.length c l (w.alloc (.cells #[.pointer (some ⟨pb, 0, none⟩)] 52)).drew rfl (by omega) (by omega) h0 (show Cells (w.alloc _).drew _ _ from hc0.drewN 1) (show Cells (w.alloc _).drew _ _ from hc2.drewN 1) hro.2)
  clear hrow hl hp1 hp hc0 hc2 hro hpe hx
  go_enter Tryz.func130, Tryz.ntmps130
  go_wp2_with (go_at_call 39; refine (unhide hpi).mono ?_; rintro e w' ⟨rfl, rfl⟩)
  go_region_law (go_simp; go_at_call 139; refine (unhide hen).mono ?_; rintro e w2 ⟨ib, rfl, hit, hb⟩)
  all_goals
    have hfin : Hid (IterAt w2 w.heap.size w2.heap.size ib 0 (endsOf ids l) ∧ Below w.heap.size w w2) := by
      exact ⟨hit.mono (show _ ≤ (w.alloc _).heap.size by simp), ((alloc_below w _).trans ((drew_below (w.alloc _)).mono (by simp))).trans (hb.mono (show _ ≤ (w.alloc _).heap.size by simp))⟩
    clear hit hb
    go_wp2
    go_ret
    exact ⟨ib, rfl, hfin.out.1, hfin.out.2⟩

set_option maxHeartbeats 1000000 in
theorem fromUnd_any (pb : Nat) (ids : List Int) (outs ins : List (List Arc)) (x : Int) (w : World) (hids : ids.length ≤ 1048575) (hp : PlainAt w pb ids outs ins) (hx : x ∈ ids) :
    Calls Tryz.prog 155 #[.agg #[.pointer (some ⟨pb, 0, none⟩)], .int .i64 x] w (FromPost w ids outs x) := by
  have hp1 := hp.below (alloc_below w (.cells #[.pointer (some ⟨pb, 0, none⟩)] 73))
  obtain ⟨ai, ci, h0, hc0⟩ := hp1.row
  obtain ⟨gt, h1, hlen, hrow⟩ := hp1.out
  obtain ⟨hpl, hpe⟩ := posOf_mem hp1.up hx
  have hl : outs[posOf ids x]? = some (outs.getD (posOf ids x) []) := by simp [hlen, hpl]
  obtain ⟨a, c, h2, hc2⟩ := hrow _ _ hl
  have hro := hp1.okOut _ (List.mem_of_getElem? hl)
  have hsh := asc_short hro
  have hpi := Lib.hid (pindex_any pb ai ids.length ci ids x _ h0 rfl (by omega) hc0 hp1.up)
  have hd : decide (x ∈ ids) = true := decide_eq_true hx
  unfold FromPost
  generalize outs.getD (posOf ids x) [] = l at *
  have hen := Lib.hid (ends_any pb ids ai ci a l.length c l (w.alloc (.cells #[.pointer (some ⟨pb, 0, none⟩)] 73)).drew rfl (by omega) (by omega) h0 (show Cells (w.alloc _).drew _ _ from hc0.drewN 1) (show Cells (w.alloc _).drew _ _ from hc2.drewN 1) hro.2)
  clear hrow hl hp1 hp hc0 hc2 hro hpe hx
  go_enter Tryz.func155, Tryz.ntmps155
  go_wp2_with (go_at_call 39; refine (unhide hpi).mono ?_; rintro e w' ⟨rfl, rfl⟩)
  go_region_law (go_simp; go_at_call 139; refine (unhide hen).mono ?_; rintro e w2 ⟨ib, rfl, hit, hb⟩)
  all_goals
    have hfin : Hid (IterAt w2 w.heap.size w2.heap.size ib 0 (endsOf ids l) ∧ Below w.heap.size w w2) := by
      exact ⟨hit.mono (show _ ≤ (w.alloc _).heap.size by simp), ((alloc_below w _).trans ((drew_below (w.alloc _)).mono (by simp))).trans (hb.mono (show _ ≤ (w.alloc _).heap.size by simp))⟩
    clear hit hb
    go_wp2
    go_ret
    exact ⟨ib, rfl, hfin.out.1, hfin.out.2⟩
end Go.Proofs.YtgkimjjodhnmiaaGreat
