/- Nodes of a plain graph: all, OrderedNodes.Len and NodeSlice at a new iterator, graph.NodesOf. -/
import Derived.Test.YtfihclhceakmdaaGreatFrom
import Derived.Handy
import Derived.Stop.Asserts
namespace Go.Proofs.YtfihclhceakmdaaGreat
open Go.RowKit

set_option maxHeartbeats 1000000 in
theorem all_any (pb : Nat) (ids : List Int) (ai : Option Addr) (ci : Nat) (w : World) (hids : ids.length ≤ 1048576)
    (h0 : w.cell? ⟨pb, 0, none⟩ = some (.slice ai ids.length ci)) (hc0 : Cells w ai (ints ids)) :
    Calls Tryz.prog 164 #[.pointer (some ⟨pb, 0, none⟩)] w
      fun e w' => ∃ ib, e = .returned (.iface 230 (.pointer (some ⟨ib, 0, none⟩))) ∧ IterAt w' w.heap.size w'.heap.size ib 0 ids ∧ Below w.heap.size w w' := by
  have hmk := fun W => run_make_cap (P := Tryz.prog) 116 97 .nilIface 16 Tryz.underlying116 info_node rfl ids.length (by omega) (by omega) W
  have h01 : ∀ o, (w.alloc o).cell? ⟨pb, 0, none⟩ = some (.slice ai ids.length ci) := fun o => cell_alloc h0 o
  go_enter Tryz.func164, Tryz.ntmps164
  go_wp2
  have hb1 : Below w.heap.size w (w.alloc (.cells (madeCells #[.nilIface] ids.length) 97)) := alloc_below w _
  have own1 : (w.alloc (.cells (madeCells #[.nilIface] ids.length) 97)).ownsRow w.heap.size 97 1 (.slice (some ⟨w.heap.size, 0, none⟩) 0 ids.length) 0 [] :=
    World.ownsRow_made w _ _ (Nat.le_refl _) (by unfold maxLen; omega) (by rw [size_madeCells, Nat.mul_one])
  obtain ⟨w1, hw1⟩ : ∃ w1, w1 = w.alloc (.cells (madeCells #[.nilIface] ids.length) 97) := ⟨_, rfl⟩
  rw [← hw1] at hb1 own1 ⊢
  clear hw1 hmk h01
  have hc0' := Lib.hid hc0
  clear h0 hc0
  go_loopw [3, 17] (fun s i wr => ∃ (k : Nat) (g c : Nat), k ≤ ids.length ∧ i = .int .i64 k ∧ s = .slice (some ⟨g, 0, none⟩) k c ∧ wr.ownsRow w.heap.size 97 1 (.slice (some ⟨g, 0, none⟩) k c) k (nodes (ids.take k)) ∧
    Below w.heap.size w wr) (fun _ i _ => ids.length - (intOf i).toNat)
  case atStart => exact ⟨0, w.heap.size, ids.length, Nat.zero_le _, rfl, rfl, own1, hb1⟩
  case round =>
    clear own1 hb1
    obtain ⟨k, g, c, hk, rfl, rfl, hown, hb⟩ := hrel
    by_cases hlt : k < ids.length
    · obtain ⟨b3, off3, rfl, hbl3, hr3⟩ := ((unhide hc0').below hb).at (by rw [ints_length]; omega)
      have e3 := hr3 _ _ (ints_get ids k hlt)
      have ho := Lib.hid (fun o => hown.alloc o)
      have hfin := Lib.hid (fun o g2 c2 w2 (h2 : w2.ownsRow w.heap.size 97 1 (.slice (some ⟨g2, 0, none⟩) (k + 1) c2) (k + 1) (nodes (ids.take k) ++ [.iface 227 (.int .i64 ids[k])])) (hg : (wr.alloc o).grownBy w2 (some g)) =>
        show w2.ownsRow w.heap.size 97 1 (.slice (some ⟨g2, 0, none⟩) (k + 1) c2) (k + 1) (nodes (ids.take (k + 1))) ∧ Below w.heap.size w w2 from by
          have hsz := hb.size
          have hgB := (hown.lt g rfl).1
          refine ⟨?_, (hb.alloc (by omega) o).grown hg (by simp; omega) (fun j e => by injection e with e; omega)⟩
          have e : nodes (ids.take (k + 1)) = nodes (ids.take k) ++ [.iface 227 (.int .i64 ids[k])] := by
            rw [List.take_succ_eq_append_getElem hlt]
            unfold nodes
            rw [List.map_append]; rfl
          rw [e]; exact h2)
      have hBs := hb.size
      clear hown hb hr3
      go_wp2_with (at_builtin; refine append_law 116 97 .nilIface 1 16 Tryz.underlying116 info_node rfl (by omega) (by omega) rfl _ _ rfl w.heap.size (some ⟨g, 0, none⟩) k c (nodes (ids.take k)) rfl (unhide ho _) ⟨wr.heap.size, 0, none⟩ 1 1 [.iface 227 (.int .i64 ids[k])] rfl rfl (new_one wr _ _) (one_node _) (by omega) (by simp; omega) ?_; intro b2 c2 w2 hown2 hg2 hat2; obtain ⟨g2, rfl, _⟩ := owns_at hown2 (by omega); have hf := Lib.hid (unhide hfin _ _ _ _ hown2 hg2); clear hown2 hg2 hat2)
      go_roundw
      case rel => exact ⟨k + 1, g2, c2, by omega, by go_num, rfl, hf.out.1, hf.out.2⟩
      case measure => simp [intOf]; omega
    · rw [take_all hk hlt] at hown
      have hkl : k = ids.length := by omega
      subst hkl
      have hBs := hb.size
      have hfin : Hid (IterAt (wr.alloc (.cells #[.int .i64 (-1), .slice (some ⟨g, 0, none⟩) ids.length c] 233)) w.heap.size (wr.alloc (.cells #[.int .i64 (-1), .slice (some ⟨g, 0, none⟩) ids.length c] 233)).heap.size wr.heap.size 0 ids ∧ Below w.heap.size w (wr.alloc (.cells #[.int .i64 (-1), .slice (some ⟨g, 0, none⟩) ids.length c] 233))) := by
        have hgl := (hown.lt g rfl).2
        refine ⟨⟨by omega, by simp, some ⟨g, 0, none⟩, c, fun j hj => ?_, ?_, ?_, ?_⟩, hb.alloc (by omega) _⟩
        · simp only [Value.ownBlock] at hj; injection hj with hj; simp; omega
        · exact heap_alloc_new wr _
        · exact hown.alloc _
        · simp only [Value.ownBlock]; intro e; injection e with e; omega
      clear hown hb
      go_wp2_with (go_at_call 167; refine (newOrdered_any _ _ _ _).mono ?_; rintro e w' ⟨rfl, rfl⟩)
      go_ret
      exact ⟨_, rfl, hfin.out.1, hfin.out.2⟩

theorem itLen_any (B E ib : Nat) (ns : List Int) (w : World) (hn : ns.length ≤ 1048576) (hi : IterAt w B E ib 0 ns) :
    Calls Tryz.prog 209 #[.pointer (some ⟨ib, 0, none⟩)] w
      fun e w' => e = .returned (.int .i64 (ns.length : Nat)) ∧ ∃ q, w' = w.drewN q := by
  obtain ⟨hB, hE, a, c, hrE, hb, hown, hne⟩ := hi
  have c0 : w.cell? ⟨ib, 0, none⟩ = some (.int .i64 (-1)) := by simp [World.cell?, hb]
  have c1 : w.cell? ⟨ib, 1, none⟩ = some (.slice a ns.length c) := by simp [World.cell?, hb]
  have d1 : decide ((ns.length : Int) ≤ -1) = false := decide_eq_false (by omega)
  have d2 : IntKind.i64.wrap ((-1 : Int) + 1) = 0 := by decide
  obtain ⟨hcap, ha⟩ : ns.length ≤ c ∧ (a = none → c = 0) := by
    obtain ⟨_, h | ⟨g, cap, cur, hv, _, _, hc, _⟩⟩ := hown
    · injection h.1 with h1 h2 h3; subst h3; exact ⟨by omega, fun _ => rfl⟩
    · injection hv with h1 _ h3; subst h3; exact ⟨hc, fun e => by rw [e] at h1; cases h1⟩
  clear hb hown hne hrE
  go_enter Tryz.func209, Tryz.ntmps209
  go_wp2
  go_quiet (fail)
  go_wp2
  go_quiet (fail)
  go_wp2
  go_ret
  exact ⟨rfl, _, World.drewN_drewN _ _ _⟩

theorem nodeSlice_any (B E ib : Nat) (ns : List Int) (w : World) (hn : ns.length ≤ 1048576) (hi : IterAt w B E ib 0 ns) :
    Calls Tryz.prog 212 #[.pointer (some ⟨ib, 0, none⟩)] w
      fun e w' => ∃ a c, e = .returned (.slice a ns.length c) ∧ w'.ownsRow B 97 1 (.slice a ns.length c) ns.length (nodes ns) ∧ (∀ j, (Value.slice a ns.length c).ownBlock = some j → j < E) ∧ w.grownBy w' (some ib) := by
  obtain ⟨hB, hE, a, c, hrE, hb, hown, hne⟩ := hi
  have c0 : w.cell? ⟨ib, 0, none⟩ = some (.int .i64 (-1)) := by simp [World.cell?, hb]
  have c1 : w.cell? ⟨ib, 1, none⟩ = some (.slice a ns.length c) := by simp [World.cell?, hb]
  have f0 : w.frozen? ⟨ib, 0, none⟩ = false := by simp [World.frozen?, hb]
  have d1 : decide ((ns.length : Int) ≤ -1) = false := decide_eq_false (by omega)
  have hg : ∀ q v, w.grownBy ((w.drewN q).setCell ⟨ib, 0, none⟩ v) (some ib) := fun q v =>
    ⟨rfl, rfl, rfl, by rw [size_setCell]; exact Nat.le_refl _, fun j _ hj => Below.heap_setCell (w.drewN q) _ _ _ (by intro e; exact hj (by rw [e]))⟩
  have hc1 : ∀ q v, ((w.drewN q).setCell ⟨ib, 0, none⟩ v).cell? ⟨ib, 1, none⟩ = some (.slice a ns.length c) := fun q v => (World.cell?_setCell_other _ _ _ _ (by simp)).trans c1
  have hfin := Lib.hid (fun q v => And.intro (hown.kept (hg q v) (.inr hne)) (And.intro hrE (hg q v)))
  have hcap : ns.length ≤ c := by
    obtain ⟨_, h | ⟨g, cap, cur, hv, _, _, hc, _⟩⟩ := hown
    · injection h.1 with h1 h2 h3; omega
    · injection hv with h1 _ h3; subst h3; exact hc
  have ha : (∃ g, a = some ⟨g, 0, none⟩) ∨ (a = none ∧ c = 0 ∧ ns.length = 0) := by
    obtain ⟨_, h | ⟨g, cap, cur, hv, _⟩⟩ := hown
    · injection h.1 with h1 h2 h3; exact .inr ⟨h1, h3, h2⟩
    · injection hv with h1 _ h3; exact .inl ⟨g, h1⟩
  clear hb hown hne hrE hg
  go_enter Tryz.func212, Tryz.ntmps212
  go_wp2
  go_quiet (fail)
  go_wp2
  go_ret
  exact ⟨a, c, rfl, hfin.out _ _⟩

theorem slicer_yes (v : Value) (w : World) : (Instr.typeAssert (.iface 230 v) 93 137 true).run Tryz.prog w = .ok (.tuple #[.iface 230 v, .bool true]) w :=
  run_typeAssert_hasB Tryz.underlying137 (by kernel_rfl) v _ w

theorem row_drewN {w w' : World} {q : Nat} {row : Option Nat} (h : (w.drewN q).grownBy w' row) : w.grownBy w' row := ⟨h.os, h.tape, h.output, h.size, h.block⟩

set_option maxRecDepth 100000 in
theorem nodesOf_any (B E ib : Nat) (ns : List Int) (w : World) (hn : ns.length ≤ 1048576) (hi : IterAt w B E ib 0 ns) :
    Calls Tryz.prog 40 #[.iface 230 (.pointer (some ⟨ib, 0, none⟩))] w
      fun e w' => ∃ a c, e = .returned (.slice a ns.length c) ∧ w'.ownsRow B 97 1 (.slice a ns.length c) ns.length (nodes ns) ∧ (∀ j, (Value.slice a ns.length c).ownBlock = some j → j < E) ∧ w.grownBy w' (some ib) := by
  have hlen := Lib.hid (itLen_any B E ib ns w hn hi)
  have hsl := Lib.hid (fun q => nodeSlice_any B E ib ns (w.drewN q) hn hi)
  have hnil := Lib.hid (fun q => show w.grownBy (w.drewN q) (some ib) from ⟨rfl, rfl, rfl, Nat.le_refl _, fun _ _ _ => rfl⟩)
  clear hi
  rcases ns with _ | ⟨z, ns⟩
  · go_enter Tryz.func40, Tryz.ntmps40
    go_wp2_with fail
    refine (unhide hlen).mono ?_
    rintro e w1 ⟨rfl, q, rfl⟩
    go_wp2_with fail
    go_ret
    exact ⟨none, 0, rfl, World.ownsRow_nil _ _ _ _, (fun j hj => by cases hj), hnil.out q⟩
  · have hz : ¬ (((z :: ns).length : Int) = 0) := by simp; omega
    have hz2 : ¬ (((z :: ns).length : Int) < 0) := by omega
    obtain ⟨n, hne⟩ : ∃ n, n = (z :: ns).length := ⟨_, rfl⟩
    obtain ⟨l, hl⟩ : ∃ l, l = z :: ns := ⟨_, rfl⟩
    rw [← hl] at hsl hlen hz hz2 hne ⊢
    have hta := slicer_yes
    clear hnil hl hne
    go_enter Tryz.func40, Tryz.ntmps40
    go_wp2_with fail
    refine (unhide hlen).mono ?_
    rintro e w1 ⟨rfl, q, rfl⟩
    go_wp2_with fail
    refine (unhide hsl q).mono ?_
    rintro e w2 ⟨a, c, rfl, h1, h2, h3⟩
    have hh := Lib.hid (And.intro h1 (And.intro h2 (row_drewN h3)))
    clear h1 h2 h3 hsl hlen
    go_wp2_with fail
    go_ret
    exact ⟨a, c, rfl, hh.out⟩

set_option maxRecDepth 100000 in
theorem nodesDir_any (pb : Nat) (ids : List Int) (outs ins : List (List Arc)) (w : World) (hids : ids.length ≤ 1000) (hp : PlainAt w pb ids outs ins) :
    Calls Tryz.prog 156 #[.agg #[.pointer (some ⟨pb, 0, none⟩)]] w
      fun e w' => ∃ ib, e = .returned (.iface 230 (.pointer (some ⟨ib, 0, none⟩))) ∧ IterAt w' w.heap.size w'.heap.size ib 0 ids ∧ Below w.heap.size w w' := by
  have hp1 := hp.below (alloc_below w (.cells #[.pointer (some ⟨pb, 0, none⟩)] 59))
  obtain ⟨ai, ci, h0, hc0⟩ := hp1.row
  have hall := Lib.hid (all_any pb ids ai ci _ (by omega) h0 hc0)
  clear hp hp1 h0 hc0
  go_enter Tryz.func156, Tryz.ntmps156
  go_wp2_with fail
  refine (unhide hall).mono ?_
  rintro e w2 ⟨ib, rfl, hit, hb⟩
  have hfin : Hid (IterAt w2 w.heap.size w2.heap.size ib 0 ids ∧ Below w.heap.size w w2) := ⟨hit.mono (by simp), (alloc_below w _).trans (hb.mono (by simp))⟩
  clear hit hb hall
  go_wp2_with fail
  go_ret
  exact ⟨ib, rfl, hfin.out⟩

set_option maxRecDepth 100000 in
theorem nodesUnd_any (pb : Nat) (ids : List Int) (outs ins : List (List Arc)) (w : World) (hids : ids.length ≤ 1000) (hp : PlainAt w pb ids outs ins) :
    Calls Tryz.prog 181 #[.agg #[.pointer (some ⟨pb, 0, none⟩)]] w
      fun e w' => ∃ ib, e = .returned (.iface 230 (.pointer (some ⟨ib, 0, none⟩))) ∧ IterAt w' w.heap.size w'.heap.size ib 0 ids ∧ Below w.heap.size w w' := by
  have hp1 := hp.below (alloc_below w (.cells #[.pointer (some ⟨pb, 0, none⟩)] 80))
  obtain ⟨ai, ci, h0, hc0⟩ := hp1.row
  have hall := Lib.hid (all_any pb ids ai ci _ (by omega) h0 hc0)
  clear hp hp1 h0 hc0
  go_enter Tryz.func181, Tryz.ntmps181
  go_wp2_with fail
  refine (unhide hall).mono ?_
  rintro e w2 ⟨ib, rfl, hit, hb⟩
  have hfin : Hid (IterAt w2 w.heap.size w2.heap.size ib 0 ids ∧ Below w.heap.size w w2) := ⟨hit.mono (by simp), (alloc_below w _).trans (hb.mono (by simp))⟩
  clear hit hb hall
  go_wp2_with fail
  go_ret
  exact ⟨ib, rfl, hfin.out⟩

end Go.Proofs.YtfihclhceakmdaaGreat
