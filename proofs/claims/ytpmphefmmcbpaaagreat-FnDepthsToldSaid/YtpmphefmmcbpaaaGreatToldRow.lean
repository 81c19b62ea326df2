/- For every input, laws.FnDepthsTold returns true, and its arguments read as they did: the walk breadth first through all that can be come to (not over barred edges) visits the nodes that the definition says, each at its depth (graphs of at most 20 nodes).
   No condition is laid on the input: what the law itself lets by (graphs that are none or too large, a beginning that is no node) is answered by the law. -/
import Derived.Test.YtpmphefmmcbpaaaGreatToldFn
import Derived.Test.YtpmphefmmcbpaaaGreatRowBase
namespace Go.Proofs.YtpmphefmmcbpaaaGreat
open Go.ChangeShapes Go.WideShapes Go.ChangeAt Go.RowKit Go.Deep

section
variable {H : Type} {enc : TypeId × Value → H} {W : World} {base : Nat} {spare : Nat → Bool} {held : Bool}

set_option maxRecDepth 100000 in
theorem open_nodes_cap {fuel : Nat} {a : Option Addr} {c n : Nat} {x : DataW H × List MemPlace} (h : DataW.trod enc Tryz.prog W base spare held fuel 22 [.slice a n c] = some x) : n ≤ c := by
  rcases open_ints Tryz.underlying22 Tryz.underlying3 (by kernel_rfl) h with ⟨h1, _⟩ | ⟨a', len, cap, zs, h1, _, hl, _⟩
  · injection h1 with h1 _
    injection h1 with _ h2 h3
    omega
  · injection h1 with h1 _
    injection h1 with _ h2 h3
    omega

set_option maxRecDepth 100000 in
theorem open_graph_cap {r : _root_.Go.Reach} {b0 : Nat} {v : Value} {d : DataW H} {p : List MemPlace} (hv : Value.okWide Tryz.prog W r b0 25 v) (h : DataW.Trod enc Tryz.prog W base spare held 25 v d p) :
    ∃ (g : Gr) (an : Option Addr) (cn : Nat) (ae : Option Addr) (ce : Nat), v = .agg #[.bool g.dir, .slice an g.nodes.length cn, .slice ae g.edges.length ce] ∧ GrAt W g an cn ae ∧ (∀ x ∈ g.nodes, In64 x) ∧
      g.nodes.length ≤ maxLen ∧ g.edges.length ≤ maxLen ∧ g.nodes.length ≤ cn := by
  obtain ⟨v0, v1, v2, y0, y1, y2, n, rfl, _, _, t0, t1, t2⟩ := Go.Joins.open_agg3 Tryz.underlying25 (by kernel_rfl) (by kernel_rfl) hv h
  obtain ⟨b, e0, _⟩ := DataW.trod_bool Tryz.underlying4 t0
  obtain ⟨an, cn, zs, e1, l1, hc1, hn, h64⟩ := open_nodes t1
  obtain ⟨ae, ce, es, e2, l2, hc2⟩ := open_edges t2
  rw [e1] at t1
  have hcap := open_nodes_cap t1
  injection e0 with e0; injection e1 with e1; injection e2 with e2
  subst e0; subst e1; subst e2
  exact ⟨⟨b, zs, es⟩, an, cn, ae, ce, rfl, ⟨hc1, hc2, hn⟩, h64, l1, l2, hcap⟩
end

set_option maxRecDepth 100000 in
theorem depthsTold_lifted (os : Os) (started : os.Started) (H : Type) (enc : TypeId × Value → H) :
    ReturnsInHanded {} Tryz.checked os 3 .any (Rows.fnDepthsToldSpec.pre6 enc Tryz.prog Tryz.f3 Rows.fnDepthsToldRow.domain false) (Rows.fnDepthsToldSpec.post enc Tryz.prog Tryz.f3 false true false false) := by
  refine returnsInHanded_of_change (C := Tryz.checked) own_knob started (by kernel_rfl) Tryz.func3
    (ChangeSpec.witness6 (enc := enc) (C := Tryz.checked) false ⟨#[], #[.agg #[.bool false, .slice none 0 0, .slice none 0 0], .int .i64 0, .slice none 0 0], []⟩ 8 (by kernel_rfl) (by kernel_rfl) (by kernel_rfl) (by kernel_rfl)) ?_
  intro W base args ds gs before hval0 hW hcnd _
  have hval : ∀ (j : Nat) t v, Tryz.f3.params[j]? = some t → args[j]? = some v → Value.okWide Tryz.prog W .any base t v := hval0
  have hW' := hW
  obtain ⟨p, q, hA0, hV, rfl, hfz, hnd⟩ := hW
  have hA : DataW.TrodAll enc Tryz.prog W 0 (fun _ => true) true Tryz.f3.params.toList args.toList ds p := hA0
  rw [Tryz.params3] at hA hval
  obtain ⟨v0, v1, v3, d0, d1, d3, p0, p1, p3, rfl, rfl, rfl, h0, h1, h3⟩ := trodAll_three hA
  obtain ⟨rfl, rfl⟩ := trodVars_none hV
  obtain ⟨g, an, cn, ae, ce, rfl, hg, h64, l1, l2, hcap⟩ := open_graph_cap (hval 0 25 v0 rfl rfl) h0
  obtain ⟨u, rfl, rfl, rfl, wu⟩ := open_int Tryz.underlying3 (hval 1 3 v1 rfl rfl) h1
  obtain ⟨ap0, len0, cap0, rfl⟩ := okWide_slice Tryz.underlying23 (hval 2 23 v3 rfl rfl)
  have h3' := h3
  obtain ⟨fuel, hf⟩ := h3'
  obtain ⟨ab, cb, es, hcs, l3, hcb⟩ := open_edges hf
  simp only [Value.cells, List.cons.injEq, and_true] at hcs
  injection hcs with hcs1 hcs2 hcs3
  subst hcs1; subst hcs2; subst hcs3
  clear hA0 hval0
  unfold maxLen at l1 l2 l3
  refine (told_any g an cn ae ce u es ap0 cap0 W (by omega) (by omega) hcap hg h64 wu (by omega) hcb).mono fun e W' ⟨he, hb⟩ => ?_
  subst he
  have hlt0 : ∀ x ∈ p0, x.block < W.heap.size := fun x hx => hW'.lt x (by simp [hx])
  have hlt3 : ∀ x ∈ p3, x.block < W.heap.size := fun x hx => hW'.lt x (by simp [hx])
  refine ⟨_, rfl, post_below (pa := p0 ++ ([] ++ p3)) (pv := []) hW' (fun _ _ _ => trodAll_mk1 (shut_bool Tryz.underlying4 true)) (fun sp hsp => ?_) (fun _ _ => rfl) (by simp) hb (ok_one (by kernel_rfl) rfl (okWide_bool_mk Tryz.underlying4 true))⟩
  exact trodAll_mk3 (WideElems.Trod_stays laid_out (by kernel_rfl) (of_decide_eq_true (by kernel_rfl)) h0 (fun x hx => hb.same (hlt0 x hx)) (fun x hx => hsp x (by simp [hx]))) (shut_int Tryz.underlying3 wu)
    (WideElems.Trod_stays laid_out (by kernel_rfl) (of_decide_eq_true (by kernel_rfl)) h3 (fun x hx => hb.same (hlt3 x hx)) (fun x hx => hsp x (by simp [hx])))

theorem depthsTold_holds : Rows.FnDepthsToldSaid :=
  OpenClaim.holds_of_wide 3 Tryz.f3 rfl rfl rfl rfl rfl rfl rfl ⟨rfl, rfl, rfl, rfl, rfl⟩ rfl rfl rfl rfl rfl (by kernel_rfl) Tryz.func3 (by kernel_rfl)
    (of_decide_eq_true (by kernel_rfl)) (by unfold Func.isWrapper; rw [if_neg (by decide +kernel)]; exact ⟨rfl, rfl⟩)
    (fun os started H enc _ => depthsTold_lifted os started H enc)

#print axioms depthsTold_holds

end Go.Proofs.YtpmphefmmcbpaaaGreat
