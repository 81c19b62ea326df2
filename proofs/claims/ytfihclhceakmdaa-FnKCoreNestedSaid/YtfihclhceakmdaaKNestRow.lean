/- For every input, laws.FnKCoreNested returns true, and its arguments read as they did: the nodes of a set of nodes each of which has k edges at least to others of it are all in the k-core, and in the k-core each node has k edges at least to others of it (undirected graphs of at most 16 nodes).
   No condition is laid on the input: what the law itself lets by (graphs that are none, directed or too large, k below 0 or beyond 20, or beyond the greatest core) is answered true by the law. -/
import Derived.Test.YtfihclhceakmdaaKNestFn
import Derived.Test.YtfihclhceakmdaaRowBase
namespace Go.Proofs.Ytfihclhceakmdaa
open Go.ChangeShapes Go.WideShapes Go.ChangeAt Go.RowKit

set_option maxRecDepth 100000 in
theorem kNest_lifted (os : Os) (started : os.Started) (H : Type) (enc : TypeId × Value → H) :
    ReturnsInHanded {} Try.checked os 3 .any (Rows.fnKCoreNestedSpec.pre6 enc Try.prog Try.f3 Rows.fnKCoreNestedRow.domain false) (Rows.fnKCoreNestedSpec.post enc Try.prog Try.f3 false true false false) := by
  refine returnsInHanded_of_change (C := Try.checked) own_knob started (by kernel_rfl) Try.func3
    (ChangeSpec.witness6 (enc := enc) (C := Try.checked) false ⟨#[], #[.int .i64 0, .agg #[.bool false, .slice none 0 0, .slice none 0 0], .int .u16 0], []⟩ 8 (by kernel_rfl) (by kernel_rfl) (by kernel_rfl) (by kernel_rfl)) ?_
  intro W base args ds gs before hval0 hW hcnd _
  have hval : ∀ (j : Nat) t v, Try.f3.params[j]? = some t → args[j]? = some v → Value.okWide Try.prog W .any base t v := hval0
  have hW' := hW
  obtain ⟨p, q, hA0, hV, rfl, hfz, hnd⟩ := hW
  have hA : DataW.TrodAll enc Try.prog W 0 (fun _ => true) true Try.f3.params.toList args.toList ds p := hA0
  rw [Try.params3] at hA hval
  obtain ⟨v0, v1, v2, d0, d1, d2, p0, p1, p2, rfl, rfl, rfl, h0, h1, h2⟩ := trodAll_three hA
  obtain ⟨rfl, rfl⟩ := trodVars_none hV
  obtain ⟨k, rfl, rfl, rfl, wk⟩ := open_int Try.underlying3 (hval 0 3 v0 rfl rfl) h0
  obtain ⟨g, an, cn, ae, ce, rfl, hg, h64, l1, l2⟩ := open_graph (hval 1 25 v1 rfl rfl) h1
  obtain ⟨u, rfl, rfl, rfl, wu⟩ := open_int Try.underlying26 (hval 2 26 v2 rfl rfl) h2
  clear hA0 hval0
  unfold maxLen at l1 l2
  refine (kNest_any k g an cn ae ce u W (by omega) (by omega) hg h64).mono fun e W' ⟨he, hb⟩ => ?_
  subst he
  have hlt : ∀ x ∈ p1, x.block < W.heap.size := fun x hx => hW'.lt x (by simp [hx])
  refine ⟨_, rfl, post_below (pa := [] ++ (p1 ++ [])) (pv := []) hW' (fun _ _ _ => trodAll_mk1 (shut_bool Try.underlying4 true)) (fun sp hsp => ?_) (fun _ _ => rfl) (by simp) hb (ok_one (by kernel_rfl) rfl (okWide_bool_mk Try.underlying4 true))⟩
  exact trodAll_mk3 (shut_int Try.underlying3 wk) (WideElems.Trod_stays laid_out (by kernel_rfl) (of_decide_eq_true (by kernel_rfl)) h1 (fun x hx => hb.same (hlt x hx)) (fun x hx => hsp x (by simp [hx]))) (shut_int Try.underlying26 wu)

theorem kCoreNested_holds : Rows.FnKCoreNestedSaid :=
  OpenClaim.holds_of_wide 3 Try.f3 rfl rfl rfl rfl rfl rfl rfl ⟨rfl, rfl, rfl, rfl, rfl⟩ rfl rfl rfl rfl rfl (by kernel_rfl) Try.func3 (by kernel_rfl)
    (of_decide_eq_true (by kernel_rfl)) (by unfold Func.isWrapper; rw [if_neg (by decide +kernel)]; exact ⟨rfl, rfl⟩)
    (fun os started H enc _ => kNest_lifted os started H enc)

#print axioms kCoreNested_holds

end Go.Proofs.Ytfihclhceakmdaa
