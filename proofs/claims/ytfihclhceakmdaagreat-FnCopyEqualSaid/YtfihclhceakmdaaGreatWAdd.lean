/- AddNode of simple graphs with weights. -/
import Derived.Test.YtfihclhceakmdaaGreatWUse
import Derived.Test.YtfihclhceakmdaaGreatFrom
import Derived.Deep.Draws
import Derived.Deep.QuietTactic
import Derived.Deep.RegionLaw
import Derived.StillTailTactics
namespace Go.Proofs.YtfihclhceakmdaaGreat
open Go.RowKit Go.Maps

theorem nidw_method (n : Nat) (x : Int) (w : World) : (method (n + 1) 227 (.int .i64 x) "ID").run Tryz.prog w = .ok (204, .int .i64 x) w := by kernel_rfl

set_option maxRecDepth 100000 in
set_option maxHeartbeats 2000000 in
theorem addNodeDirected_any {w : World} {ids : List Int} {B : Nat → Prop} {ad : WR → Option Nat} {c : WR → Cont} {gb jn je jt ju js jr : Nat} {N : List Int} {F : Int → Int → Option Value}
    (h : WG true w ids B ad c gb jn je jt ju js jr N F) {x : Int} (hx : In64 x) (hm : x ∈ ids) (hxN : x ∉ N) (hl : ids.length ≤ 1000) :
    Calls Tryz.prog 128 #[.pointer (some ⟨gb, 0, none⟩), .iface 227 (.int .i64 x)] w
      fun e w' => e = .returned (.tuple #[]) ∧ (∃ c', WG true w' ids B ad c' gb jn je jt ju js jr (x :: N) F) ∧ Keeps B w w' := by
  have k0 : w.cell? ⟨gb, 0, none⟩ = some (.map (some jn)) := h.cell rfl
  have h1 := h.below (drew_below w)
  have hlk := vmap_look_ok h1.nmap Tryz.underlying81 (Tryz.zeroValue97 w.drew) hx
  unfold nfun at hlk
  rw [if_neg hxN] at hlk
  simp only [Option.getD_none, Option.isSome_none] at hlk
  have h2 := h1.below (drew_below w.drew)
  obtain ⟨w7, hrun7, hm7, hg7⟩ := vmap_put h2.nmap Tryz.underlying81 hx hm (by omega) (.iface 227 (.int .i64 x))
  have e7 : updV (nfun N) x (some (.iface 227 (.int .i64 x))) = nfun (x :: N) := by
    funext y
    unfold updV nfun
    by_cases e : y = x
    · subst e
      rw [if_pos rfl, if_pos List.mem_cons_self]; rfl
    · rw [if_neg e]
      by_cases e2 : y ∈ N
      · rw [if_pos e2, if_pos (List.mem_cons_of_mem _ e2)]
      · rw [if_neg e2, if_neg (by simp [e, e2])]
  rw [e7] at hm7
  have h7 := h2.turnN hg7 hm7
  have hb7 : Hid (Keeps B w w7) := ((Keeps.refl B w).drew.drew).trans (Keeps.grow hg7 (h.lo h.an))
  have h8 := h7.below (drew_below w7)
  have k5 : w7.cell? ⟨gb, 5, none⟩ = some (.pointer (some ⟨ju, 0, none⟩)) := h7.cell rfl
  have huse := Lib.hid (use_any h8 hx hm hl)
  have hmi := nidw_method
  clear h h1 h2 hm7 hg7 e7 h7 h8 hm hl hxN
  go_enter Tryz.func128, Tryz.ntmps128
  go_wp2_with fail
  go_region_law (go_simp; go_at_call 204; refine (id_any _ _).mono ?_; rintro e w' ⟨rfl, rfl⟩)
  all_goals
    go_wp2_with fail
    go_region_law (go_simp; go_at_call 204; refine (id_any _ _).mono ?_; rintro e w' ⟨rfl, rfl⟩)
  all_goals
    go_wp2_with fail
    go_region_law (first
      | (go_simp; go_at_call 204; refine (id_any _ _).mono ?_; rintro e w' ⟨rfl, rfl⟩)
      | (go_simp; go_at_call 137; refine (unhide huse).mono ?_; rintro e w9 ⟨rfl, h9, hb9⟩))
  all_goals
    go_wp2_with fail
    go_end0
    exact ⟨rfl, h9, hb7.out.drew.trans hb9⟩

set_option maxRecDepth 100000 in
set_option maxHeartbeats 2000000 in
theorem addNodeUndirected_any {w : World} {ids : List Int} {B : Nat → Prop} {ad : WR → Option Nat} {c : WR → Cont} {gb jn je jt ju js jr : Nat} {N : List Int} {F : Int → Int → Option Value}
    (h : WG false w ids B ad c gb jn je jt ju js jr N F) {x : Int} (hx : In64 x) (hm : x ∈ ids) (hxN : x ∉ N) (hl : ids.length ≤ 1000) :
    Calls Tryz.prog 142 #[.pointer (some ⟨gb, 0, none⟩), .iface 227 (.int .i64 x)] w
      fun e w' => e = .returned (.tuple #[]) ∧ (∃ c', WG false w' ids B ad c' gb jn je jt ju js jr (x :: N) F) ∧ Keeps B w w' := by
  have k0 : w.cell? ⟨gb, 0, none⟩ = some (.map (some jn)) := h.cell rfl
  have h1 := h.below (drew_below w)
  have hlk := vmap_look_ok h1.nmap Tryz.underlying81 (Tryz.zeroValue97 w.drew) hx
  unfold nfun at hlk
  rw [if_neg hxN] at hlk
  simp only [Option.getD_none, Option.isSome_none] at hlk
  have h2 := h1.below (drew_below w.drew)
  obtain ⟨w7, hrun7, hm7, hg7⟩ := vmap_put h2.nmap Tryz.underlying81 hx hm (by omega) (.iface 227 (.int .i64 x))
  have e7 : updV (nfun N) x (some (.iface 227 (.int .i64 x))) = nfun (x :: N) := by
    funext y
    unfold updV nfun
    by_cases e : y = x
    · subst e
      rw [if_pos rfl, if_pos List.mem_cons_self]; rfl
    · rw [if_neg e]
      by_cases e2 : y ∈ N
      · rw [if_pos e2, if_pos (List.mem_cons_of_mem _ e2)]
      · rw [if_neg e2, if_neg (by simp [e, e2])]
  rw [e7] at hm7
  have h7 := h2.turnN hg7 hm7
  have hb7 : Hid (Keeps B w w7) := ((Keeps.refl B w).drew.drew).trans (Keeps.grow hg7 (h.lo h.an))
  have h8 := h7.below (drew_below w7)
  have k5 : w7.cell? ⟨gb, 4, none⟩ = some (.pointer (some ⟨ju, 0, none⟩)) := h7.cell rfl
  have huse := Lib.hid (use_any h8 hx hm hl)
  have hmi := nidw_method
  clear h h1 h2 hm7 hg7 e7 h7 h8 hm hl hxN
  go_enter Tryz.func142, Tryz.ntmps142
  go_wp2_with fail
  go_region_law (go_simp; go_at_call 204; refine (id_any _ _).mono ?_; rintro e w' ⟨rfl, rfl⟩)
  all_goals
    go_wp2_with fail
    go_region_law (go_simp; go_at_call 204; refine (id_any _ _).mono ?_; rintro e w' ⟨rfl, rfl⟩)
  all_goals
    go_wp2_with fail
    go_region_law (first
      | (go_simp; go_at_call 204; refine (id_any _ _).mono ?_; rintro e w' ⟨rfl, rfl⟩)
      | (go_simp; go_at_call 137; refine (unhide huse).mono ?_; rintro e w9 ⟨rfl, h9, hb9⟩))
  all_goals
    go_wp2_with fail
    go_end0
    exact ⟨rfl, h9, hb7.out.drew.trans hb9⟩

end Go.Proofs.YtfihclhceakmdaaGreat
