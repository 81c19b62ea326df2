/- For every input, laws.FnSortByNamed returns true, and its arguments read as they did: a directed graph (of at most 25 nodes) sorted by an order of its nodes is the stable order of the graph whose nodes are called by their places in that order, called back.
   No condition is laid on the input: what the law itself lets by (graphs and lists that are too large, undirected graphs, what is no graph) is answered true by the law. -/
import Derived.Test.YtagnmdhdogaijaaGreatNamedFn
import Derived.Test.YtagnmdhdogaijaaGreatRowBase
namespace Go.Proofs.YtagnmdhdogaijaaGreat
open Go.ChangeShapes Go.WideShapes Go.ChangeAt Go.RowKit

theorem u8_nat {z : Int} (h : (Lit.int .u8 z).wf = true) : ∃ b : Nat, z = (b : Int) ∧ b < 256 := by
  have h1 : (decide (IntKind.u8.min ≤ z) && decide (z ≤ IntKind.u8.max)) = true := h
  have h2 : IntKind.u8.min = 0 := by decide
  have h3 : IntKind.u8.max = 255 := by decide
  rw [h2, h3, Bool.and_eq_true] at h1
  have h4 := of_decide_eq_true h1.1
  have h5 := of_decide_eq_true h1.2
  exact ⟨z.toNat, by omega, by omega⟩

section
variable {H : Type} {enc : TypeId × Value → H} {W : World} {base : Nat} {spare : Nat → Bool} {held : Bool}
theorem open_bytes8 {fuel : Nat} {cs : List Value} {x : DataW H × List MemPlace} (h : DataW.trod enc Tryz.prog W base spare held fuel 44 cs = some x) :
    ∃ (a : Option Addr) (c : Nat) (bs : List Nat), cs = [.slice a bs.length c] ∧ bs.length ≤ maxLen ∧ Cells W a (bytes8 bs) ∧ ∀ b ∈ bs, b < 256 := by
  rcases open_ints Tryz.underlying44 Tryz.underlying5 (by kernel_rfl) h with ⟨rfl, _⟩ | ⟨a, len, cap, zs, rfl, _, hl, hm, hz, _, hcell, hwf⟩
  · exact ⟨none, 0, [], rfl, by simp, .inl rfl, by simp⟩
  · have hle : len ≤ zs.length := by rw [hz]; split <;> omega
    have hlen : ((zs.take len).map Int.toNat).length = len := by rw [List.length_map, List.length_take]; omega
    refine ⟨some a, cap, (zs.take len).map Int.toNat, by rw [hlen], by rw [hlen]; omega, cells_of fun j u hj => ?_, fun b hb => ?_⟩
    · have hjl : j < len := by
        have := List.getElem?_eq_some_iff.1 hj
        obtain ⟨h1, _⟩ := this
        rw [bytes8_length, hlen] at h1
        exact h1
      have hjz : j < zs.length := by omega
      obtain ⟨b, hb, _⟩ := u8_nat (hwf _ (List.getElem_mem hjz))
      rw [bytes8_get _ j (by rw [hlen]; exact hjl)] at hj
      injection hj with hj
      rw [hcell j hjz, ← hj, List.getElem_map, List.getElem_take, hb]
      simp [hjz, hb]
    · obtain ⟨z, hz1, rfl⟩ := List.mem_map.1 hb
      obtain ⟨b, hb1, hb2⟩ := u8_nat (hwf z (List.mem_of_mem_take hz1))
      rw [hb1]; simpa using hb2
end

set_option maxRecDepth 100000 in
set_option maxHeartbeats 4000000 in
theorem named_lifted (os : Os) (started : os.Started) (H : Type) (enc : TypeId × Value → H) :
    ReturnsInHanded {} Tryz.checked os 6 .any (Rows.fnSortByNamedSpec.pre6 enc Tryz.prog Tryz.f6 Rows.fnSortByNamedRow.domain false) (Rows.fnSortByNamedSpec.post enc Tryz.prog Tryz.f6 false true false false) := by
  refine returnsInHanded_of_change (C := Tryz.checked) own_knob started (by kernel_rfl) Tryz.func6
    (ChangeSpec.witness6 (enc := enc) (C := Tryz.checked) false ⟨#[], #[.agg #[.bool false, .slice none 0 0, .slice none 0 0], .int .u8 0, .slice none 0 0], []⟩ 8 (by kernel_rfl) (by kernel_rfl) (by kernel_rfl) (by kernel_rfl)) ?_
  intro W base args ds gs before hval0 hW hcnd _
  have hval : ∀ (j : Nat) t v, Tryz.f6.params[j]? = some t → args[j]? = some v → Value.okWide Tryz.prog W .any base t v := hval0
  have hW' := hW
  obtain ⟨p, q, hA0, hV, rfl, hfz, hnd⟩ := hW
  have hA : DataW.TrodAll enc Tryz.prog W 0 (fun _ => true) true Tryz.f6.params.toList args.toList ds p := hA0
  rw [Tryz.params6] at hA hval
  obtain ⟨v0, v1, v2, d0, d1, d2, p0, p1, p2, rfl, rfl, rfl, h0, h1, h2⟩ := trodAll_three hA
  obtain ⟨rfl, rfl⟩ := trodVars_none hV
  obtain ⟨a, an, cn, ae, ce, rfl, hga, h64, l1, l2⟩ := open_graph (hval 0 25 v0 rfl rfl) h0
  obtain ⟨u, rfl, rfl, rfl, wu⟩ := open_int Tryz.underlying5 (hval 1 5 v1 rfl rfl) h1
  obtain ⟨ap0, len0, cap0, rfl⟩ := okWide_slice Tryz.underlying44 (hval 2 44 v2 rfl rfl)
  have h2' := h2
  obtain ⟨fuel, hf⟩ := h2'
  obtain ⟨ap, cp, bs, hcs, l3, hcp, h256⟩ := open_bytes8 hf
  simp only [Value.cells, List.cons.injEq, and_true] at hcs
  injection hcs with hcs1 hcs2 hcs3
  subst hcs1; subst hcs2; subst hcs3
  obtain ⟨b8, rfl, hb8⟩ := u8_nat wu
  clear hA0 hval0
  unfold maxLen at l1 l2 l3
  refine (named_any a an cn ae ce b8 ap0 cap0 bs W (by omega) (by omega) (by omega) hga h64 hb8 h256 hcp).mono fun e W' ⟨he, hb⟩ => ?_
  subst he
  have hlt0 : ∀ x ∈ p0, x.block < W.heap.size := fun x hx => hW'.lt x (by simp [hx])
  have hlt2 : ∀ x ∈ p2, x.block < W.heap.size := fun x hx => hW'.lt x (by simp [hx])
  refine ⟨_, rfl, post_below (pa := p0 ++ ([] ++ p2)) (pv := []) hW' (fun _ _ _ => trodAll_mk1 (shut_bool Tryz.underlying4 true)) (fun sp hsp => ?_) (fun _ _ => rfl) (by simp) hb (ok_one (by kernel_rfl) rfl (okWide_bool_mk Tryz.underlying4 true))⟩
  exact trodAll_mk3 (WideElems.Trod_stays laid_out (by kernel_rfl) (of_decide_eq_true (by kernel_rfl)) h0 (fun x hx => hb.same (hlt0 x hx)) (fun x hx => hsp x (by simp [hx]))) (shut_int Tryz.underlying5 wu)
    (WideElems.Trod_stays laid_out (by kernel_rfl) (of_decide_eq_true (by kernel_rfl)) h2 (fun x hx => hb.same (hlt2 x hx)) (fun x hx => hsp x (by simp [hx])))

theorem named_holds : Rows.FnSortByNamedSaid :=
  OpenClaim.holds_of_wide 6 Tryz.f6 rfl rfl rfl rfl rfl rfl rfl ⟨rfl, rfl, rfl, rfl, rfl⟩ rfl rfl rfl rfl rfl (by kernel_rfl) Tryz.func6 (by kernel_rfl)
    (of_decide_eq_true (by kernel_rfl)) (by unfold Func.isWrapper; rw [if_neg (by decide +kernel)]; exact ⟨rfl, rfl⟩)
    (fun os started H enc _ => named_lifted os started H enc)

#print axioms named_holds

end Go.Proofs.YtagnmdhdogaijaaGreat
