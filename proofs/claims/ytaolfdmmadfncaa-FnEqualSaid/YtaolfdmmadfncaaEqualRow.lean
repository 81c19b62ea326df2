/- For every input, laws.FnEqual returns true, and its arguments read as they did: two graphs of at most 25 nodes are equal just if they have the same nodes and from each node edges lead to the same ones.
   No condition is laid on the input: what the law itself lets by (graphs that are none, or too large) is answered true by the law. -/
import Derived.Test.YtaolfdmmadfncaaEqualFn
import Derived.Test.YtaolfdmmadfncaaRowBase
namespace Go.Proofs.Ytaolfdmmadfncaa
open Go.ChangeShapes Go.WideShapes Go.ChangeAt Go.RowKit

set_option maxRecDepth 100000 in
theorem fnEqual_lifted (os : Os) (started : os.Started) (H : Type) (enc : TypeId × Value → H) :
    ReturnsInHanded {} Try.checked os 3 .any (Rows.fnEqualSpec.pre6 enc Try.prog Try.f3 Rows.fnEqualRow.domain false) (Rows.fnEqualSpec.post enc Try.prog Try.f3 false true false false) := by
  refine returnsInHanded_of_change (C := Try.checked) own_knob started (by kernel_rfl) Try.func3
    (ChangeSpec.witness6 (enc := enc) (C := Try.checked) false ⟨#[], #[.agg #[.bool false, .slice none 0 0, .slice none 0 0], .agg #[.bool false, .slice none 0 0, .slice none 0 0]], []⟩ 8 (by kernel_rfl) (by kernel_rfl) (by kernel_rfl) (by kernel_rfl)) ?_
  intro W base args ds gs before hval0 hW hcnd _
  have hval : ∀ (j : Nat) t v, Try.f3.params[j]? = some t → args[j]? = some v → Value.okWide Try.prog W .any base t v := hval0
  have hW' := hW
  obtain ⟨p, q, hA0, hV, rfl, hfz, hnd⟩ := hW
  have hA : DataW.TrodAll enc Try.prog W 0 (fun _ => true) true Try.f3.params.toList args.toList ds p := hA0
  rw [Try.params3] at hA hval
  obtain ⟨v0, v1, d0, d1, p0, p1, rfl, rfl, rfl, h0, h1⟩ := trodAll_two hA
  obtain ⟨rfl, rfl⟩ := trodVars_none hV
  obtain ⟨a, an, cn, ae, ce, rfl, hga, _, l1, l2⟩ := open_graph (hval 0 25 v0 rfl rfl) h0
  obtain ⟨b, bn, dn, be, de, rfl, hgb, _, l3, l4⟩ := open_graph (hval 1 25 v1 rfl rfl) h1
  clear hA0 hval0
  unfold maxLen at l1 l2 l3 l4
  refine (fnEqual_any a b an cn ae ce bn dn be de W (by omega) (by omega) (by omega) (by omega) hga hgb).mono fun e W' ⟨he, hb⟩ => ?_
  subst he
  have hlt0 : ∀ x ∈ p0, x.block < W.heap.size := fun x hx => hW'.lt x (by simp [hx])
  have hlt1 : ∀ x ∈ p1, x.block < W.heap.size := fun x hx => hW'.lt x (by simp [hx])
  refine ⟨_, rfl, post_below (pa := p0 ++ p1) (pv := []) hW' (fun _ _ _ => trodAll_mk1 (shut_bool Try.underlying4 true)) (fun sp hsp => ?_) (fun _ _ => rfl) (by simp) hb (ok_one (by kernel_rfl) rfl (okWide_bool_mk Try.underlying4 true))⟩
  exact trodAll_mk2 (WideElems.Trod_stays laid_out (by kernel_rfl) (of_decide_eq_true (by kernel_rfl)) h0 (fun x hx => hb.same (hlt0 x hx)) (fun x hx => hsp x (by simp [hx])))
    (WideElems.Trod_stays laid_out (by kernel_rfl) (of_decide_eq_true (by kernel_rfl)) h1 (fun x hx => hb.same (hlt1 x hx)) (fun x hx => hsp x (by simp [hx])))

theorem fnEqual_holds : Rows.FnEqualSaid :=
  OpenClaim.holds_of_wide 3 Try.f3 rfl rfl rfl rfl rfl rfl rfl ⟨rfl, rfl, rfl, rfl, rfl⟩ rfl rfl rfl rfl rfl (by kernel_rfl) Try.func3 (by kernel_rfl)
    (of_decide_eq_true (by kernel_rfl)) (by unfold Func.isWrapper; rw [if_neg (by decide +kernel)]; exact ⟨rfl, rfl⟩)
    (fun os started H enc _ => fnEqual_lifted os started H enc)

#print axioms fnEqual_holds

end Go.Proofs.Ytaolfdmmadfncaa
