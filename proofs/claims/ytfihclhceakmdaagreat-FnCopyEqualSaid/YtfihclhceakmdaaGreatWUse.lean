/- uid.Set.Use. -/
import Derived.Test.YtfihclhceakmdaaGreatWNew
import Derived.Deep.Draws
import Derived.Deep.QuietTactic
import Derived.StillTailTactics
namespace Go.Proofs.YtfihclhceakmdaaGreat
open Go.RowKit Go.Maps

theorem vsetAdd_any {w : World} {ids : List Int} {j : Nat} {f : Int → Option Value} (h : VMap w ids j f) {x : Int} (hx : In64 x) (hm : x ∈ ids) (hl : ids.length ≤ 1000) :
    Calls Tryz.prog 140 #[.map (some j), .int .i64 x] w fun e w' => e = .returned (.tuple #[]) ∧ VMap w' ids j (updV f x (some (.agg #[]))) ∧ w.grownBy w' (some j) := by
  obtain ⟨w7, hrun, hm7, hg7⟩ := vmap_put h Tryz.underlying131 hx hm (by omega) (.agg #[])
  go_enter Tryz.func140, Tryz.ntmps140
  go_wp2_with fail
  go_end0
  exact ⟨rfl, hm7, hg7⟩

theorem vsetRem_any {w : World} {ids : List Int} {j : Nat} {f : Int → Option Value} (h : VMap w ids j f) {x : Int} (hx : In64 x) :
    Calls Tryz.prog 141 #[.map (some j), .int .i64 x] w fun e w' => e = .returned (.tuple #[]) ∧ VMap w' ids j (updV f x none) ∧ w.grownBy w' (some j) := by
  obtain ⟨w7, hrun, hm7, hg7⟩ := vmap_del h Tryz.underlying131 hx 0
  go_enter Tryz.func141, Tryz.ntmps141
  go_wp2_with fail
  go_end0
  exact ⟨rfl, hm7, hg7⟩

section
variable {dir : Bool} {w : World} {ids : List Int} {B : Nat → Prop} {ad : WR → Option Nat} {c : WR → Cont} {gb jn je jt ju js jr : Nat} {N : List Int} {F : Int → Int → Option Value}

theorem WG.lo {r : WR} {j : Nat} (h : WG dir w ids B ad c gb jn je jt ju js jr N F) (hr : ad r = some j) : B j := h.R.lo r j hr

theorem grow_below {w w' : World} {B j : Nat} (hg : w.grownBy w' (some j)) (hj : B ≤ j) (hB : B ≤ w.heap.size) : Below B w w' :=
  ⟨hg.os, hg.tape, hg.output, hg.size, fun k hk => hg.block k (by omega) (by intro e; injection e with e; omega)⟩

set_option maxRecDepth 100000 in
set_option maxHeartbeats 1000000 in
theorem use_any (h : WG dir w ids B ad c gb jn je jt ju js jr N F) {x : Int} (hx : In64 x) (hm : x ∈ ids) (hl : ids.length ≤ 1000) :
    Calls Tryz.prog 137 #[.pointer (some ⟨ju, 0, none⟩), .int .i64 x] w fun e w' => e = .returned (.tuple #[]) ∧ (∃ c', WG dir w' ids B ad c' gb jn je jt ju js jr N F) ∧ Keeps B w w' := by
  have hlo := h.lo h.au
  obtain ⟨m0, hm0, u0, u1, u2, fu⟩ := h.max
  obtain ⟨fs, hfs⟩ := h.cs
  have hadd := Lib.hid (vsetAdd_any (h.R.map h.as_ hfs) hx hm hl)
  have hH := Lib.hid h
  have hlh := Lib.hid hl
  clear h hfs u0 u2 fu hm0
  go_enter Tryz.func137, Tryz.ntmps137
  go_wp2_with fail
  refine (unhide hadd).mono ?_
  rintro e w1 ⟨rfl, hm1, hg1⟩
  have h1 := hH.out.turnS hg1 hm1
  have hb1 := Lib.hid (Keeps.grow hg1 (hH.out.lo hH.out.as_))
  obtain ⟨m1, hm1', u0, v1, u2, fu⟩ := h1.max
  obtain ⟨fr, hfr⟩ := h1.cr
  have hrem := Lib.hid (vsetRem_any (h1.R.map h1.ar hfr) hx)
  have h1h := Lib.hid h1
  clear hm1 hg1 h1 hadd hH u1 u0 v1 fu hm1' hfr
  go_wp2_with fail
  refine (unhide hrem).mono ?_
  rintro e w2 ⟨rfl, hm2, hg2⟩
  have h2 := h1h.out.turnR hg2 hm2
  have hb2 := Lib.hid (hb1.out.trans (Keeps.grow hg2 (h1h.out.lo h1h.out.ar)))
  obtain ⟨m2, hm2', u0, v1, v2, fu⟩ := h2.max
  have h2h := Lib.hid h2
  clear hm2 hg2 h2 hrem h1h hb1 u2 v1 v2
  by_cases hgt : m2 < x
  · obtain ⟨c3, h3⟩ := h2h.out.setM hx
    have h3h := Lib.hid h3
    have hb3 : Hid (Keeps B w (w2.setCell ⟨ju, 0, none⟩ (.int .i64 x))) := hb2.out.setCell hlo _
    clear h3
    go_wp2_with fail
    go_end0
    exact ⟨rfl, ⟨_, h3h.out⟩, hb3.out⟩
  · go_wp2_with fail
    go_end0
    exact ⟨rfl, ⟨_, h2h.out⟩, hb2.out⟩
end
end Go.Proofs.YtfihclhceakmdaaGreat
