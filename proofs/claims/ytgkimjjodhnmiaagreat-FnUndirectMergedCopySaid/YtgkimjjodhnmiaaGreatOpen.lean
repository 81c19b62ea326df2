/- impl.open and impl.from (with one node). -/
import Derived.Test.YtgkimjjodhnmiaaGreatRead
namespace Go.Proofs.YtgkimjjodhnmiaaGreat
open Go.RowKit

/-- The value of an opened graph. -/
def openv (dir : Bool) (pb : Nat) : Value := if dir then .iface 52 (.agg #[.pointer (some ⟨pb, 0, none⟩)]) else .iface 73 (.agg #[.pointer (some ⟨pb, 0, none⟩)])

/-- What open leaves. -/
def OpenPost (w : World) (g : Gr) (ok : Bool) (e : Ending) (w' : World) : Prop :=
  ∃ pb b, e = .returned (.tuple #[openv g.dir pb, .pointer (some ⟨pb, 0, none⟩), .bool b]) ∧ b = ok ∧ Below w.heap.size w w' ∧ w.heap.size ≤ pb ∧ pb < w'.heap.size ∧
    (okGraph g = true → PlainAt w' pb (asc g.nodes) (tabs bitsOf (asc g.nodes) g.dir g.edges).1 (tabs bitsOf (asc g.nodes) g.dir g.edges).2) ∧
    (okGraph g = true → FarAt w.heap.size w' pb (asc g.nodes) (tabs bitsOf (asc g.nodes) g.dir g.edges).1 (tabs bitsOf (asc g.nodes) g.dir g.edges).2)

theorem open_post {g : Gr} {w w1 : World} {o : Obj} {d : Bool} {q : Nat} (hd : g.dir = d) (hb : Below (w.alloc o).heap.size (w.alloc o) w1) (hq : (w.alloc o).heap.size + 1 = q)
    (hlt : (w.alloc o).heap.size + 1 < w1.heap.size)
    (hp : okGraph g = true → FarAt (w.alloc o).heap.size w1 ((w.alloc o).heap.size + 1) (asc g.nodes) (tabs bitsOf (asc g.nodes) g.dir g.edges).1 (tabs bitsOf (asc g.nodes) g.dir g.edges).2) :
    OpenPost w g (okGraph g) (.returned (.tuple #[openv d q, .pointer (some ⟨q, 0, none⟩), .bool (okGraph g)])) w1 := by
  subst hd
  subst hq
  exact ⟨_, _, rfl, rfl, (alloc_below w o).trans (hb.mono (by simp)), by simp; omega, hlt, fun h => (hp h).plain, fun h => (hp h).low (by simp)⟩

set_option maxHeartbeats 1000000 in
theorem open_any (g : Gr) (an : Option Addr) (cn : Nat) (ae : Option Addr) (ce : Nat) (w : World) (hn : g.nodes.length ≤ 1048575) (he : g.edges.length ≤ 1048576) (hg : GrAt w g an cn ae) :
    Calls Tryz.prog 12 #[.agg #[.bool g.dir, .slice an g.nodes.length cn, .slice ae g.edges.length ce]] w (OpenPost w g (okGraph g)) := by
  have hr := Lib.hid (read_any g an cn ae ce (w.alloc (.cells #[.bool g.dir, .slice an g.nodes.length cn, .slice ae g.edges.length ce] 25)) hn he (hg.below (alloc_below w _)))
  clear hg
  rcases hdir : g.dir with _ | _
  · rw [hdir] at hr
    go_enter Tryz.func12, Tryz.ntmps12
    go_wp2_with fail
    refine (unhide hr).mono ?_
    rintro e w1 ⟨_, rfl, rfl, hb, hlt, hp⟩
    have k0 : w1.cell? ⟨w.heap.size, 0, none⟩ = some (.bool false) := by rw [hb.cell (by simp)]; simp
    have hfin := Lib.hid (open_post (d := false) (q := w.heap.size + 1 + 1) hdir hb (by simp) hlt hp)
    clear hp hr hb hlt
    go_wp2_with fail
    go_ret3
    exact hfin.out
  · rw [hdir] at hr
    go_enter Tryz.func12, Tryz.ntmps12
    go_wp2_with fail
    refine (unhide hr).mono ?_
    rintro e w1 ⟨_, rfl, rfl, hb, hlt, hp⟩
    have k0 : w1.cell? ⟨w.heap.size, 0, none⟩ = some (.bool true) := by rw [hb.cell (by simp)]; simp
    have hfin := Lib.hid (open_post (d := true) (q := w.heap.size + 1 + 1) hdir hb (by simp) hlt hp)
    clear hp hr hb hlt
    go_wp2_with fail
    go_ret3
    exact hfin.out
end Go.Proofs.YtgkimjjodhnmiaaGreat
