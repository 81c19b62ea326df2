/- impl.from with one node. -/
import Derived.Test.YtpmphefmmcbpaaaGreatOpen
import Derived.Test.YtpmphefmmcbpaaaGreatSucc
import Derived.Test.YtpmphefmmcbpaaaGreatLay
namespace Go.Proofs.YtpmphefmmcbpaaaGreat
open Go.RowKit

set_option maxHeartbeats 1000000 in
theorem from_one (g : Gr) (an : Option Addr) (cn : Nat) (ae : Option Addr) (ce : Nat) (u : Int) (lb : Nat) (w : World) (hn : g.nodes.length ≤ 1048575) (he : g.edges.length ≤ 1048576) (hg : GrAt w g an cn ae) (hok : okGraph g = true)
    (hl : w.cell? ⟨lb, 0, none⟩ = some (.int .i64 u)) :
    Calls Tryz.prog 41 #[.agg #[.bool g.dir, .slice an g.nodes.length cn, .slice ae g.edges.length ce], .slice (some ⟨lb, 0, none⟩) 1 1] w
      fun e w' => ∃ pb, e = .returned (.tuple #[openv g.dir pb, .pointer (some ⟨pb, 0, none⟩), .bool (decide (u ∈ asc g.nodes))]) ∧ Below w.heap.size w w' ∧
        PlainAt w' pb (asc g.nodes) (outsOf g) (tabs bitsOf (asc g.nodes) g.dir g.edges).2 ∧ FarAt w.heap.size w' pb (asc g.nodes) (outsOf g) (tabs bitsOf (asc g.nodes) g.dir g.edges).2 := by
  have ho := Lib.hid (open_any g an cn ae ce (w.alloc (.cells #[.bool g.dir, .slice an g.nodes.length cn, .slice ae g.edges.length ce] 25)) hn he (hg.below (alloc_below w _)))
  clear hg
  go_enter Tryz.func41, Tryz.ntmps41
  go_wp2_with fail
  refine (unhide ho).mono ?_
  rintro e w1 ⟨pb, b, rfl, hb, hb1, _, _, hp1, hfar1⟩
  rw [hok] at hb
  subst hb
  have hp := hp1 hok
  have hl1 : w1.cell? ⟨lb, 0, none⟩ = some (.int .i64 u) := cell_below hb1 (cell_alloc hl _)
  have hbw : Hid (Below w.heap.size w w1) := (alloc_below w _).trans (hb1.mono (by simp))
  obtain ⟨ai, ci, h0, hc0⟩ := hp.row
  have hal := asc_length g.nodes
  have hpi := Lib.hid (pindex_any pb ai (asc g.nodes).length ci (asc g.nodes) u w1 h0 rfl (by omega) hc0 hp.up)
  have hph := Lib.hid hp
  have hfarh := Lib.hid ((hfar1 hok).low (by simp) : FarAt w.heap.size w1 pb (asc g.nodes) (outsOf g) (tabs bitsOf (asc g.nodes) g.dir g.edges).2)
  clear ho hp1 hp hc0 hb1 hl h0 hok hfar1
  obtain ⟨ov, hov⟩ : ∃ ov, ov = openv g.dir pb := ⟨_, rfl⟩
  rw [← hov]
  have hovh := Lib.hid hov
  clear hov
  go_wp2_with fail
  go_loopw [9, 22] (fun b i wr => wr = w1 ∧ ∃ k : Nat, k ≤ 1 ∧ i = .int .i64 k ∧ b = .bool (if k = 0 then true else decide (u ∈ asc g.nodes))) (fun _ i _ => 1 - (intOf i).toNat)
  case atStart => exact ⟨rfl, 0, by omega, rfl, rfl⟩
  case round =>
    obtain ⟨rfl, k, hk, rfl, rfl⟩ := hrel
    rcases k with _ | k
    · go_wp2_with (go_at_call 75; refine (unhide hpi).mono ?_; rintro e w' ⟨rfl, rfl⟩)
      go_roundw
      case rel => exact ⟨by first | rfl | trivial, 1, by omega, rfl, rfl⟩
      case measure => simp [intOf]
    · obtain rfl : k = 0 := by omega
      go_wp2
      go_ret3
      exact ⟨pb, by rw [hovh.out]; rfl, hbw.out, hph.out, hfarh.out⟩
end Go.Proofs.YtpmphefmmcbpaaaGreat
