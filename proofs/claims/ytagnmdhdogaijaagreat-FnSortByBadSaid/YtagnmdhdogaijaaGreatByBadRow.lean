/- For every input, laws.FnSortByBad returns true, and its arguments read as they did: impl.SortBy refuses what is no graph, an undirected graph, and an order that has not each node once, and nothing else (at most 40 nodes, 60 places and 200 edges).
   No condition is laid on the input: what the law itself lets by (graphs and lists that are too large, weights that are too great) is answered true by the law. -/
import Derived.Test.YtagnmdhdogaijaaGreatByBadFn
import Derived.Test.YtagnmdhdogaijaaGreatRowBase
namespace Go.Proofs.YtagnmdhdogaijaaGreat
open Go.ChangeShapes Go.WideShapes Go.ChangeAt Go.RowKit

set_option maxRecDepth 100000 in
set_option maxHeartbeats 4000000 in
theorem byBad_lifted (os : Os) (started : os.Started) (H : Type) (enc : TypeId × Value → H) :
    ReturnsInHanded {} Tryz.checked os 5 .any (Rows.fnSortByBadSpec.pre6 enc Tryz.prog Tryz.f5 Rows.fnSortByBadRow.domain false) (Rows.fnSortByBadSpec.post enc Tryz.prog Tryz.f5 false true false false) := by
  refine returnsInHanded_of_change (C := Tryz.checked) own_knob started (by kernel_rfl) Tryz.func5
    (ChangeSpec.witness6 (enc := enc) (C := Tryz.checked) false ⟨#[], #[.agg #[.bool false, .slice none 0 0, .slice none 0 0], .slice none 0 0], []⟩ 8 (by kernel_rfl) (by kernel_rfl) (by kernel_rfl) (by kernel_rfl)) ?_
  intro W base args ds gs before hval0 hW hcnd _
  have hval : ∀ (j : Nat) t v, Tryz.f5.params[j]? = some t → args[j]? = some v → Value.okWide Tryz.prog W .any base t v := hval0
  have hW' := hW
  obtain ⟨p, q, hA0, hV, rfl, hfz, hnd⟩ := hW
  have hA : DataW.TrodAll enc Tryz.prog W 0 (fun _ => true) true Tryz.f5.params.toList args.toList ds p := hA0
  rw [Tryz.params5] at hA hval
  obtain ⟨v0, v1, d0, d1, p0, p1, rfl, rfl, rfl, h0, h1⟩ := trodAll_two hA
  obtain ⟨rfl, rfl⟩ := trodVars_none hV
  obtain ⟨a, an, cn, ae, ce, rfl, hga, h64, l1, l2⟩ := open_graph (hval 0 25 v0 rfl rfl) h0
  obtain ⟨ap0, len0, cap0, rfl⟩ := okWide_slice Tryz.underlying22 (hval 1 22 v1 rfl rfl)
  have h1' := h1
  obtain ⟨fuel, hf⟩ := h1'
  obtain ⟨ap, cp, pl, hcs, l3, hcp, hn0, _⟩ := open_nodes hf
  simp only [Value.cells, List.cons.injEq, and_true] at hcs
  injection hcs with hcs1 hcs2 hcs3
  subst hcs1; subst hcs2; subst hcs3
  clear hA0 hval0
  unfold maxLen at l1 l2 l3
  refine (byBad_any a an cn ae ce ap0 cap0 pl W (by omega) (by omega) (by omega) hga h64 hcp hn0).mono fun e W' ⟨he, hb⟩ => ?_
  subst he
  have hlt0 : ∀ x ∈ p0, x.block < W.heap.size := fun x hx => hW'.lt x (by simp [hx])
  have hlt1 : ∀ x ∈ p1, x.block < W.heap.size := fun x hx => hW'.lt x (by simp [hx])
  refine ⟨_, rfl, post_below (pa := p0 ++ p1) (pv := []) hW' (fun _ _ _ => trodAll_mk1 (shut_bool Tryz.underlying4 true)) (fun sp hsp => ?_) (fun _ _ => rfl) (by simp) hb (ok_one (by kernel_rfl) rfl (okWide_bool_mk Tryz.underlying4 true))⟩
  exact trodAll_mk2 (WideElems.Trod_stays laid_out (by kernel_rfl) (of_decide_eq_true (by kernel_rfl)) h0 (fun x hx => hb.same (hlt0 x hx)) (fun x hx => hsp x (by simp [hx])))
    (WideElems.Trod_stays laid_out (by kernel_rfl) (of_decide_eq_true (by kernel_rfl)) h1 (fun x hx => hb.same (hlt1 x hx)) (fun x hx => hsp x (by simp [hx])))

theorem byBad_holds : Rows.FnSortByBadSaid :=
  OpenClaim.holds_of_wide 5 Tryz.f5 rfl rfl rfl rfl rfl rfl rfl ⟨rfl, rfl, rfl, rfl, rfl⟩ rfl rfl rfl rfl rfl (by kernel_rfl) Tryz.func5 (by kernel_rfl)
    (of_decide_eq_true (by kernel_rfl)) (by unfold Func.isWrapper; rw [if_neg (by decide +kernel)]; exact ⟨rfl, rfl⟩)
    (fun os started H enc _ => byBad_lifted os started H enc)

#print axioms byBad_holds

end Go.Proofs.YtagnmdhdogaijaaGreat
