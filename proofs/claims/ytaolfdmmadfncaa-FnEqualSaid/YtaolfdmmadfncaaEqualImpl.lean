/- impl.Equal. -/
import Derived.Test.YtaolfdmmadfncaaTopoEqDirDir
import Derived.Test.YtaolfdmmadfncaaTopoEqDirUnd
import Derived.Test.YtaolfdmmadfncaaTopoEqUndDir
import Derived.Test.YtaolfdmmadfncaaTopoEqUndUnd
namespace Go.Proofs.Ytaolfdmmadfncaa
open Go.RowKit

/-- topo.Equal over whatever kinds. -/
theorem topoEq_any (dA dB : Bool) (pa pb : Nat) (idsA : List Int) (outsA insA : List (List Arc)) (idsB : List Int) (outsB insB : List (List Arc)) (w : World) (hA : idsA.length ≤ 1000) (hB : idsB.length ≤ 1000) (hpA : PlainAt w pa idsA outsA insA) (hpB : PlainAt w pb idsB outsB insB) :
    Calls Try.prog 16 #[openv dA pa, openv dB pb] w
      fun e w' => e = .returned (.bool (decide (eqP idsA outsA idsB outsB))) ∧ Below w.heap.size w w' := by
  cases dA <;> cases dB
  · exact topoEqUndUnd_any pa pb idsA outsA insA idsB outsB insB w hA hB hpA hpB
  · exact topoEqUndDir_any pa pb idsA outsA insA idsB outsB insB w hA hB hpA hpB
  · exact topoEqDirUnd_any pa pb idsA outsA insA idsB outsB insB w hA hB hpA hpB
  · exact topoEqDirDir_any pa pb idsA outsA insA idsB outsB insB w hA hB hpA hpB

set_option maxHeartbeats 1000000 in
theorem equal_any (a b : Gr) (an : Option Addr) (cn : Nat) (ae : Option Addr) (ce : Nat) (bn : Option Addr) (dn : Nat) (be : Option Addr) (de : Nat) (w : World) (hn : a.nodes.length ≤ 1000) (he : a.edges.length ≤ 1048576) (hn' : b.nodes.length ≤ 1000) (he' : b.edges.length ≤ 1048576)
    (hga : GrAt w a an cn ae) (hgb : GrAt w b bn dn be) (hoa : okGraph a = true) (hob : okGraph b = true) :
    Calls Try.prog 7 #[.agg #[.bool a.dir, .slice an a.nodes.length cn, .slice ae a.edges.length ce], .agg #[.bool b.dir, .slice bn b.nodes.length dn, .slice be b.edges.length de]] w
      fun e w' => e = .returned (.tuple #[.bool (decide (eqP (asc a.nodes) (outsOf a) (asc b.nodes) (outsOf b))), .bool false]) ∧ Below w.heap.size w w' := by
  obtain ⟨w2, hw2⟩ : ∃ w2, w2 = (w.alloc (.cells #[.bool a.dir, .slice an a.nodes.length cn, .slice ae a.edges.length ce] 25)).alloc (.cells #[.bool b.dir, .slice bn b.nodes.length dn, .slice be b.edges.length de] 25) := ⟨_, rfl⟩
  have hb2 : Below w.heap.size w w2 := by rw [hw2]; exact (alloc_below w _).trans ((alloc_below _ _).mono (by simp))
  have k1 : w2.cell? ⟨w.heap.size + 1, 0, none⟩ = some (.bool b.dir) ∧ w2.cell? ⟨w.heap.size + 1, 1, none⟩ = some (.slice bn b.nodes.length dn) ∧ w2.cell? ⟨w.heap.size + 1, 2, none⟩ = some (.slice be b.edges.length de) := by
    have h : w2.heap[w.heap.size + 1]? = some (.cells #[.bool b.dir, .slice bn b.nodes.length dn, .slice be b.edges.length de] 25 (0, 0)) := by
      rw [hw2]
      have := heap_alloc_new (w.alloc (.cells #[.bool a.dir, .slice an a.nodes.length cn, .slice ae a.edges.length ce] 25)) (.cells #[.bool b.dir, .slice bn b.nodes.length dn, .slice be b.edges.length de] 25)
      rwa [show (w.alloc (.cells #[.bool a.dir, .slice an a.nodes.length cn, .slice ae a.edges.length ce] 25)).heap.size = w.heap.size + 1 by simp] at this
    simp [World.cell?, h]
  have hopA := open_any a an cn ae ce w2 (by omega) he (hga.below hb2)
  have hopB := Lib.hid (fun w3 (h : Below w2.heap.size w2 w3) => open_any b bn dn be de w3 (by omega) he' ((hgb.below hb2).below h))
  have hlA := asc_length a.nodes
  have hlB := asc_length b.nodes
  have lA : (asc a.nodes).length ≤ 1000 := by omega
  have lB : (asc b.nodes).length ≤ 1000 := by omega
  have hw2h := Lib.hid hw2
  have hb2h := Lib.hid hb2
  have k1h := Lib.hid k1
  rw [hw2] at hopA
  have hopAh := Lib.hid hopA
  have hoah := Lib.hid hoa
  have hobh := Lib.hid hob
  clear hw2 hb2 k1 hopA hga hgb hoa hob hlA hlB
  go_enter Try.func7, Try.ntmps7
  go_wp2_with fail
  refine (unhide hopAh).mono ?_
  rintro e w3 ⟨pa, ba, rfl, hba, hb3, _, _, hpa⟩
  rw [← hw2h.out] at hb3
  rw [hoah.out] at hba
  subst hba
  have hpA := hpa hoah.out
  have hopB3 := Lib.hid (unhide hopB w3 hb3)
  have c0 := cell_below hb3 k1h.out.1
  have c1 := cell_below hb3 k1h.out.2.1
  have c2 := cell_below hb3 k1h.out.2.2
  have hb3h := Lib.hid hb3
  have hpAh := Lib.hid hpA
  obtain ⟨va, hva⟩ : ∃ va, va = openv a.dir pa := ⟨_, rfl⟩
  rw [← hva]
  have hvah := Lib.hid hva
  clear hpa hb3 hpA hva hopAh hopB
  go_wp2_with fail
  refine (unhide hopB3).mono ?_
  rintro e w4 ⟨pb, bb, rfl, hbb, hb4, _, _, hpb⟩
  rw [hobh.out] at hbb
  subst hbb
  have hpB := hpb hobh.out
  have htop := topoEq_any a.dir b.dir pa pb _ _ _ _ _ _ w4 lA lB (hpAh.out.below hb4) hpB
  have hbw4 : Hid (Below w.heap.size w w4) := hb2h.out.trans ((hb3h.out.mono hb2h.out.size).trans (hb4.mono (Nat.le_trans hb2h.out.size hb3h.out.size)))
  obtain ⟨vb, hvb⟩ : ∃ vb, vb = openv b.dir pb := ⟨_, rfl⟩
  rw [← hvb] at htop ⊢
  rw [← hvah.out] at htop
  have htoph := Lib.hid htop
  clear hpb hpB htop hb4 hvb hopB3 c0 c1 c2
  go_wp2_with fail
  refine (unhide htoph).mono ?_
  rintro e w5 ⟨rfl, hb5⟩
  have hb5' : Hid (Below w.heap.size w w5) := hbw4.out.trans (hb5.mono hbw4.out.size)
  clear hb5 htoph
  go_wp2_with fail
  go_ret2
  exact ⟨rfl, hb5'.out⟩
end Go.Proofs.Ytaolfdmmadfncaa
