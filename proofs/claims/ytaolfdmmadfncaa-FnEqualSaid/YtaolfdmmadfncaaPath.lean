/- topo.PathExistsIn, impl.from, impl.PathExistsIn. -/
import Derived.Test.YtaolfdmmadfncaaWalk2
namespace Go.Proofs.Ytaolfdmmadfncaa
open Go.RowKit

open Classical in
/-- Whether there is a path. -/
noncomputable def pathB (succ : Int → List Int) (u v : Int) : Bool := decide (Reach succ u v)

open Classical in
theorem pathB_iff {succ : Int → List Int} {u v : Int} : pathB succ u v = true ↔ Reach succ u v := by
  unfold pathB; simp
theorem pathB_true {succ : Int → List Int} {u v : Int} (h : Reach succ u v) : true = pathB succ u v := (pathB_iff.2 h).symm
theorem pathB_false {succ : Int → List Int} {u v : Int} (h : ¬ Reach succ u v) : false = pathB succ u v := by
  cases e : pathB succ u v
  · rfl
  · exact absurd (pathB_iff.1 e) h

theorem topoDir_any (pb : Nat) (ids : List Int) (outs ins : List (List Arc)) (u v : Int) (w : World) (hids : ids.length ≤ 1000) (hp : PlainAt w pb ids outs ins) (hu : u ∈ ids) (h64 : ∀ x ∈ ids, In64 x) :
    Calls Try.prog 20 #[.iface 59 (.agg #[.pointer (some ⟨pb, 0, none⟩)]), .iface 54 (.int .i64 u), .iface 54 (.int .i64 v)] w
      fun e w' => e = .returned (.bool (pathB (succOf ids outs) u v)) ∧ Below w.heap.size w w' := by
  have hw := walkDir_any pb w.heap.size ids outs ins u v (w.alloc (.cells #[.iface 54 (.int .i64 v)] 71)) hids (hp.below (alloc_below w _)) hu h64 (by simp)
  rw [show (w.alloc (.cells #[.iface 54 (.int .i64 v)] 71)).heap.size = w.heap.size + 1 by simp] at hw
  have hwh := Lib.hid hw
  clear hw
  go_enter Try.func20, Try.ntmps20
  go_wp2_with fail
  refine (unhide hwh).mono ?_
  rintro e w' ⟨⟨rfl, hr⟩ | ⟨rfl, hr⟩, hb⟩
  · have hb' : Hid (Below w.heap.size w w') := (alloc_below w _).trans (hb.mono (by simp))
    have hpath : Hid (true = pathB (succOf ids outs) u v) := pathB_true hr
    clear hb hr
    go_wp2_with fail
    go_ret
    exact ⟨ret_bool hpath.out, hb'.out⟩
  · have hb' : Hid (Below w.heap.size w w') := (alloc_below w _).trans (hb.mono (by simp))
    have hpath : Hid (false = pathB (succOf ids outs) u v) := pathB_false hr
    clear hb hr
    go_wp2_with fail
    go_ret
    exact ⟨ret_bool hpath.out, hb'.out⟩

theorem topoUnd_any (pb : Nat) (ids : List Int) (outs ins : List (List Arc)) (u v : Int) (w : World) (hids : ids.length ≤ 1000) (hp : PlainAt w pb ids outs ins) (hu : u ∈ ids) (h64 : ∀ x ∈ ids, In64 x) :
    Calls Try.prog 20 #[.iface 60 (.agg #[.pointer (some ⟨pb, 0, none⟩)]), .iface 54 (.int .i64 u), .iface 54 (.int .i64 v)] w
      fun e w' => e = .returned (.bool (pathB (succOf ids outs) u v)) ∧ Below w.heap.size w w' := by
  have hw := walkUnd_any pb w.heap.size ids outs ins u v (w.alloc (.cells #[.iface 54 (.int .i64 v)] 71)) hids (hp.below (alloc_below w _)) hu h64 (by simp)
  rw [show (w.alloc (.cells #[.iface 54 (.int .i64 v)] 71)).heap.size = w.heap.size + 1 by simp] at hw
  have hwh := Lib.hid hw
  clear hw
  go_enter Try.func20, Try.ntmps20
  go_wp2_with fail
  refine (unhide hwh).mono ?_
  rintro e w' ⟨⟨rfl, hr⟩ | ⟨rfl, hr⟩, hb⟩
  · have hb' : Hid (Below w.heap.size w w') := (alloc_below w _).trans (hb.mono (by simp))
    have hpath : Hid (true = pathB (succOf ids outs) u v) := pathB_true hr
    clear hb hr
    go_wp2_with fail
    go_ret
    exact ⟨ret_bool hpath.out, hb'.out⟩
  · have hb' : Hid (Below w.heap.size w w') := (alloc_below w _).trans (hb.mono (by simp))
    have hpath : Hid (false = pathB (succOf ids outs) u v) := pathB_false hr
    clear hb hr
    go_wp2_with fail
    go_ret
    exact ⟨ret_bool hpath.out, hb'.out⟩


/-- The tables of a graph. -/
def outsOf (g : Gr) : List (List Arc) := (tabs bitsOf (asc g.nodes) g.dir g.edges).1
def gSucc (g : Gr) (x : Int) : List Int := succOf (asc g.nodes) (outsOf g) x

set_option maxHeartbeats 1000000 in
theorem from_one (g : Gr) (an : Option Addr) (cn : Nat) (ae : Option Addr) (ce : Nat) (u : Int) (lb : Nat) (w : World) (hn : g.nodes.length ≤ 1048575) (he : g.edges.length ≤ 1048576) (hg : GrAt w g an cn ae) (hok : okGraph g = true)
    (hl : w.cell? ⟨lb, 0, none⟩ = some (.int .i64 u)) :
    Calls Try.prog 19 #[.agg #[.bool g.dir, .slice an g.nodes.length cn, .slice ae g.edges.length ce], .slice (some ⟨lb, 0, none⟩) 1 1] w
      fun e w' => ∃ pb, e = .returned (.tuple #[openv g.dir pb, .pointer (some ⟨pb, 0, none⟩), .bool (decide (u ∈ asc g.nodes))]) ∧ Below w.heap.size w w' ∧
        PlainAt w' pb (asc g.nodes) (outsOf g) (tabs bitsOf (asc g.nodes) g.dir g.edges).2 := by
  have ho := Lib.hid (open_any g an cn ae ce (w.alloc (.cells #[.bool g.dir, .slice an g.nodes.length cn, .slice ae g.edges.length ce] 25)) hn he (hg.below (alloc_below w _)))
  clear hg
  go_enter Try.func19, Try.ntmps19
  go_wp2_with fail
  refine (unhide ho).mono ?_
  rintro e w1 ⟨pb, b, rfl, hb, hb1, _, _, hp1⟩
  rw [hok] at hb
  subst hb
  have hp := hp1 hok
  have hl1 : w1.cell? ⟨lb, 0, none⟩ = some (.int .i64 u) := cell_below hb1 (cell_alloc hl _)
  have hbw : Hid (Below w.heap.size w w1) := (alloc_below w _).trans (hb1.mono (by simp))
  obtain ⟨ai, ci, h0, hc0⟩ := hp.row
  have hal := asc_length g.nodes
  have hpi := Lib.hid (pindex_any pb ai (asc g.nodes).length ci (asc g.nodes) u w1 h0 rfl (by omega) hc0 hp.up)
  have hph := Lib.hid hp
  clear ho hp1 hp hc0 hb1 hl h0 hok
  obtain ⟨ov, hov⟩ : ∃ ov, ov = openv g.dir pb := ⟨_, rfl⟩
  rw [← hov]
  have hovh := Lib.hid hov
  clear hov
  go_wp2_with fail
  go_loopw [9, 22] (fun b i wr => wr = w1 ∧ ∃ k : Nat, k ≤ 1 ∧ i = .int .i64 k ∧ b = .bool (if k = 0 then true else decide (u ∈ asc g.nodes))) (fun _ i _ => 1 - (intOf i).toNat)
  case atStart => exact ⟨rfl, 0, by omega, rfl, rfl⟩
  case round =>
    obtain ⟨rfl, k, hk, rfl, rfl⟩ := hrel
    rcases k with _ | k
    · go_wp2_with (go_at_call 26; refine (unhide hpi).mono ?_; rintro e w' ⟨rfl, rfl⟩)
      go_roundw
      case rel => exact ⟨by first | rfl | trivial, 1, by omega, rfl, rfl⟩
      case measure => simp [intOf]
    · obtain rfl : k = 0 := by omega
      go_wp2
      go_ret3
      exact ⟨pb, by rw [hovh.out]; rfl, hbw.out, hph.out⟩

theorem below_box {w w' : World} {o : Obj} (h : Below (w.alloc o).heap.size (w.alloc o) w') : Below w.heap.size w w' := (alloc_below w o).trans (h.mono (by simp))

set_option maxHeartbeats 1000000 in
theorem pathIn_any (g : Gr) (an : Option Addr) (cn : Nat) (ae : Option Addr) (ce : Nat) (u v : Int) (w : World) (hn : g.nodes.length ≤ 1000) (he : g.edges.length ≤ 1048576) (hg : GrAt w g an cn ae) (hok : okGraph g = true) (hu : u ∈ g.nodes) (h64 : ∀ x ∈ g.nodes, In64 x) :
    Calls Try.prog 12 #[.agg #[.bool g.dir, .slice an g.nodes.length cn, .slice ae g.edges.length ce], .int .i64 u, .int .i64 v] w
      fun e w' => e = .returned (.tuple #[.bool (pathB (gSucc g) u v), .bool false]) ∧ Below w.heap.size w w' := by
  obtain ⟨w2, hw2⟩ : ∃ w2, w2 = (w.alloc (.cells #[.bool g.dir, .slice an g.nodes.length cn, .slice ae g.edges.length ce] 25)).alloc (.cells #[.int .i64 u] 3) := ⟨_, rfl⟩
  have hb2 : Below w.heap.size w w2 := by rw [hw2]; exact (alloc_below w _).trans ((alloc_below _ _).mono (by simp))
  have hl2 : w2.cell? ⟨w.heap.size + 1, 0, none⟩ = some (.int .i64 u) := by
    rw [hw2]
    have := new_one (w.alloc (.cells #[.bool g.dir, .slice an g.nodes.length cn, .slice ae g.edges.length ce] 25)) (.int .i64 u) 3 0 (.int .i64 u) rfl
    rw [Addr.add_mid, show (w.alloc (.cells #[.bool g.dir, .slice an g.nodes.length cn, .slice ae g.edges.length ce] 25)).heap.size = w.heap.size + 1 by simp] at this
    exact this
  have hfrom := from_one g an cn ae ce u (w.heap.size + 1) w2 (by omega) he (hg.below hb2) hok hl2
  rw [hw2] at hfrom hb2
  have hfromh := Lib.hid hfrom
  have hb2h := Lib.hid hb2
  have hd : decide (u ∈ asc g.nodes) = true := decide_eq_true (asc_mem.2 hu)
  have hal := asc_length g.nodes
  have hids : (asc g.nodes).length ≤ 1000 := by omega
  clear hw2 hfrom hb2 hg hl2 hal
  go_enter Try.func12, Try.ntmps12
  go_wp2_with fail
  refine (unhide hfromh).mono ?_
  rintro e w3 ⟨pb, rfl, hb3, hp3⟩
  have hb3' : Hid (Below w.heap.size w w3) := (unhide hb2h).trans (hb3.mono (by simp; omega))
  have h64' : ∀ x ∈ asc g.nodes, In64 x := fun x hx => h64 x (asc_mem.1 hx)
  rcases hdir : g.dir with _ | _
  · have htopo := Lib.hid (topoUnd_any pb (asc g.nodes) (outsOf g) _ u v w3 hids hp3 (asc_mem.2 hu) h64')
    clear hb3 hp3 h64' hfromh
    unfold openv
    go_wp2_with fail
    refine (unhide htopo).mono ?_
    rintro e w4 ⟨rfl, hb4⟩
    have hb5 : Hid (Below w.heap.size w w4) := hb3'.out.trans (hb4.mono hb3'.out.size)
    clear hb4
    go_wp2_with fail
    go_ret2
    exact ⟨rfl, hb5.out⟩
  · have htopo := Lib.hid (topoDir_any pb (asc g.nodes) (outsOf g) _ u v w3 hids hp3 (asc_mem.2 hu) h64')
    clear hb3 hp3 h64' hfromh
    unfold openv
    go_wp2_with fail
    refine (unhide htopo).mono ?_
    rintro e w4 ⟨rfl, hb4⟩
    have hb5 : Hid (Below w.heap.size w w4) := hb3'.out.trans (hb4.mono hb3'.out.size)
    clear hb4
    go_wp2_with fail
    go_ret2
    exact ⟨rfl, hb5.out⟩
end Go.Proofs.Ytaolfdmmadfncaa
