/- A graph that came in, opened: its nodes and edges as lists.
   What every row of these laws needs at its end. -/
import Derived.Test.YthpjmjohdliohaaGreatBase
import Derived.Test.YthpjmjohdliohaaGreatOpenA
import Derived.ProofKit
import Derived.Lib.SmallJoins
import Derived.Test.YthpjmjohdliohaaGreatRows
import Derived.Carry
namespace Go.Proofs.YthpjmjohdliohaaGreat
open Go.RowKit Go.ChangeShapes Go.WideShapes Go.Deep

theorem cells_of {w : World} {a : Addr} {cs : List Value} (h : ∀ (j : Nat) u, cs[j]? = some u → w.cell? (a.add j) = some u) : Cells w (some a) cs := by
  cases cs with
  | nil => exact .inl rfl
  | cons c r =>
    have h0 := h 0 c rfl
    obtain ⟨b, off, spot⟩ := a
    have hadd : (⟨b, off, spot⟩ : Addr).add 0 = ⟨b, off, spot⟩ := rfl
    rw [hadd] at h0
    have hs : spot = none := by
      cases spot with
      | none => rfl
      | some k =>
        unfold World.cell? at h0
        split at h0
        · simp at h0
        · cases h0
    subst hs
    refine .inr ⟨b, off, rfl, cell_lt h0, fun j u hj => ?_⟩
    have := h j u hj
    rwa [Addr.add_mid] at this

theorem list3 {α : Type} {l : List α} (h : l.length = 3) : ∃ a b c, l = [a, b, c] := by
  match l, h with
  | [a, b, c], _ => exact ⟨a, b, c, rfl⟩

section
variable {H : Type} {enc : TypeId × Value → H} {W : World} {base : Nat} {spare : Nat → Bool} {held : Bool}

theorem open_nodes {fuel : Nat} {cs : List Value} {x : DataW H × List MemPlace} (h : DataW.trod enc Tryz.prog W base spare held fuel 22 cs = some x) :
    ∃ (a : Option Addr) (c : Nat) (zs : List Int), cs = [.slice a zs.length c] ∧ zs.length ≤ maxLen ∧ Cells W a (ints zs) ∧ (a = none → c = 0) ∧ ∀ z ∈ zs, In64 z := by
  rcases open_ints Tryz.underlying22 Tryz.underlying3 (by kernel_rfl) h with ⟨rfl, _⟩ | ⟨a, len, cap, zs, rfl, _, hl, hm, hz, _, hcell, hwf⟩
  · exact ⟨none, 0, [], rfl, by simp, .inl rfl, fun _ => rfl, by simp⟩
  · have hle : len ≤ zs.length := by rw [hz]; split <;> omega
    have hlen : (zs.take len).length = len := by rw [List.length_take]; omega
    refine ⟨some a, cap, zs.take len, by rw [hlen], by rw [hlen]; omega, cells_of fun j u hj => ?_, (fun e => by cases e), fun z hz' => hwf z (List.mem_of_mem_take hz')⟩
    unfold ints at hj
    rw [List.getElem?_map, List.getElem?_take] at hj
    split at hj
    · rename_i hjl
      have hjz : j < zs.length := by omega
      rw [List.getElem?_eq_getElem hjz] at hj
      injection hj with hj
      rw [hcell j hjz, ← hj]
      simp [hjz]
    · cases hj

theorem open_edges {fuel : Nat} {cs : List Value} {x : DataW H × List MemPlace} (h : DataW.trod enc Tryz.prog W base spare held fuel 23 cs = some x) :
    ∃ (a : Option Addr) (c : Nat) (es : List (Int × Int × Int)), cs = [.slice a es.length c] ∧ es.length ≤ maxLen ∧ Cells W a (edgeCells es) := by
  have hC : Tryz.prog.cellsOf 41 = 3 := by kernel_rfl
  have h1 : Tryz.prog.cellsOf 3 = 1 := by kernel_rfl
  rcases open_slice Tryz.underlying23 h with ⟨rfl, _⟩ | ⟨a, len, cap, m, n, D, Pl, rfl, _, hl, hm, hmm, _, hi⟩
  · exact ⟨none, 0, [], rfl, by simp, .inl rfl⟩
  · have hlm : len ≤ m := by rw [hmm]; split <;> omega
    rw [hC] at hi
    have key : ∀ i, i < len → ∃ e : Int × Int × Int, W.cell? (a.add (i * 3)) = some (.int .i64 e.1) ∧ W.cell? (a.add (i * 3 + 1)) = some (.int .i64 e.2.1) ∧ W.cell? (a.add (i * 3 + 2)) = some (.int .i64 e.2.2) := by
      intro i hil
      obtain ⟨cs', hc, ht'⟩ := hi i (by omega)
      obtain ⟨y0, y1, y2, n', _, hcl, t0, t1, t2⟩ := trod_struct3 Tryz.underlying41 ht'
      obtain ⟨_, hlen, hat⟩ := World.cells?_some hc
      obtain ⟨v0, v1, v2, rfl⟩ : ∃ v0 v1 v2, cs' = [v0, v1, v2] := list3 hlen
      clear hlen
      simp only [h1, List.drop_zero, List.drop_succ_cons, List.take_succ_cons, List.take_zero] at t0 t1 t2
      obtain ⟨z0, e0, _, _⟩ := DataW.trod_int Tryz.underlying3 t0
      obtain ⟨z1, e1, _, _⟩ := DataW.trod_int Tryz.underlying3 t1
      obtain ⟨z2, e2, _, _⟩ := DataW.trod_int Tryz.underlying3 t2
      injection e0 with e0; injection e1 with e1; injection e2 with e2
      subst e0; subst e1; subst e2
      refine ⟨(z0, z1, z2), ?_, ?_, ?_⟩
      · exact hat 0 (by omega)
      · have := hat 1 (by omega)
        rw [Go.Deep.add_add] at this; simpa using this
      · have := hat 2 (by omega)
        rw [Go.Deep.add_add] at this; simpa using this
    obtain ⟨f, hf⟩ := choose_lt key
    have hlen : ((List.range len).map f).length = len := by simp
    refine ⟨some a, cap, (List.range len).map f, by rw [hlen], by rw [hlen]; omega, cells_of fun j u hj => ?_⟩
    have hjl : j < len * 3 := by
      have := (List.getElem?_eq_some_iff.1 hj).1
      rw [edgeCells_length, hlen] at this; exact this
    have hd : j = j / 3 * 3 + j % 3 := by omega
    have hq : j / 3 < len := by omega
    obtain ⟨g0, g1, g2⟩ := edgeCells_get ((List.range len).map f) (j / 3) (by rw [hlen]; exact hq)
    have he : ((List.range len).map f)[j / 3]'(by rw [hlen]; exact hq) = f (j / 3) := by simp
    rw [he] at g0 g1 g2
    obtain ⟨c0, c1, c2⟩ := hf (j / 3) hq
    have h3 : j % 3 = 0 ∨ j % 3 = 1 ∨ j % 3 = 2 := by omega
    rcases h3 with h3 | h3 | h3
    · rw [hd, h3, Nat.add_zero] at hj ⊢
      rw [g0] at hj; have hj' := Option.some.inj hj; rw [← hj']; exact c0
    · rw [hd, h3] at hj ⊢
      rw [g1] at hj; have hj' := Option.some.inj hj; rw [← hj']; exact c1
    · rw [hd, h3] at hj ⊢
      rw [g2] at hj; have hj' := Option.some.inj hj; rw [← hj']; exact c2

set_option maxRecDepth 100000 in
theorem open_graph {r : _root_.Go.Reach} {b0 : Nat} {v : Value} {d : DataW H} {p : List MemPlace} (hv : Value.okWide Tryz.prog W r b0 25 v) (h : DataW.Trod enc Tryz.prog W base spare held 25 v d p) :
    ∃ (g : Gr) (an : Option Addr) (cn : Nat) (ae : Option Addr) (ce : Nat), v = .agg #[.bool g.dir, .slice an g.nodes.length cn, .slice ae g.edges.length ce] ∧ GrAt W g an cn ae ∧ (∀ x ∈ g.nodes, In64 x) ∧
      g.nodes.length ≤ maxLen ∧ g.edges.length ≤ maxLen := by
  obtain ⟨v0, v1, v2, y0, y1, y2, n, rfl, _, _, t0, t1, t2⟩ := Go.Joins.open_agg3 Tryz.underlying25 (by kernel_rfl) (by kernel_rfl) hv h
  obtain ⟨b, e0, _⟩ := DataW.trod_bool Tryz.underlying4 t0
  obtain ⟨an, cn, zs, e1, l1, hc1, hn, h64⟩ := open_nodes t1
  obtain ⟨ae, ce, es, e2, l2, hc2⟩ := open_edges t2
  injection e0 with e0; injection e1 with e1; injection e2 with e2
  subst e0; subst e1; subst e2
  exact ⟨⟨b, zs, es⟩, an, cn, ae, ce, rfl, ⟨hc1, hc2, hn⟩, h64, l1, l2⟩
end
end Go.Proofs.YthpjmjohdliohaaGreat

namespace Go.Proofs.YthpjmjohdliohaaGreat
open Go.ChangeShapes Go.WideShapes Go.ChangeAt Go.RowKit

theorem own_knob : ownKnob Tryz.prog.godebug = none := by kernel_rfl
theorem laid_out : laidOutB Tryz.prog = true := by kernel_rfl

/-- The row's last step where of the world behind the call 'Below' alone is known. -/
theorem post_below {H : Type} {enc : TypeId × Value → H} {P : Program} {f : Func} {s : ChangeSpec} {apart fresh handsOn again : Bool} {W W' : World} {args : Array Value} {v : Value} {ds gs : List (DataW H)} {before pa pv : List MemPlace}
    (hW : DataW.Whole enc P f.params.toList s.vars apart W args.toList ds gs before)
    (hres : ∀ (b : Nat) (sp : Nat → Bool) (hd : Bool), DataW.TrodAll enc P W' b sp hd f.resultTypes.toList (v.resultList f.resultTypes.size) (s.fn H (ds ++ gs)).results [])
    (hargs : ∀ sp : Nat → Bool, (∀ p ∈ before, sp p.block = true) → DataW.TrodAll enc P W' 0 sp true f.params.toList args.toList (s.fn H (ds ++ gs)).args pa)
    (hvars : ∀ sp : Nat → Bool, (∀ p ∈ before, sp p.block = true) → DataW.TrodVars enc P W' sp s.vars (s.fn H (ds ++ gs)).vars pv)
    (hps : before = pa ++ pv) (hb : Below W.heap.size W W')
    (hok : ∀ (j : Nat) (t : TypeId) (r : Value), f.resultTypes[j]? = some t → (v.resultList f.resultTypes.size)[j]? = some r → Value.okWide P W' .any 0 t r) :
    s.post enc P f apart fresh handsOn again W args v W' := by
  have hlt : ∀ p ∈ before, p.block < W.heap.size := fun p hp => hW.lt p hp
  have hold : ∀ p ∈ before, (fun b => decide (b < W.heap.size)) p.block = true := fun p hp => by simpa using hlt p hp
  refine ⟨ds, gs, before, [], pa, pv, hW, hres _ _ _, hargs _ hold, hvars _ hold, World.keptBut_mono (fun p hp => ⟨hp, ?_⟩) (hb.frame (· ∈ before)), fun _ => ?_⟩
  · rw [hps, List.mem_append] at hp
    exact Or.inr hp
  · obtain ⟨_, _, _, _, _, hz, hn⟩ := hW
    refine ⟨hok, _, _, ([] ++ pa) ++ pv, ⟨[] ++ pa, pv, trodAll_append (hargs _ (fun _ _ => rfl)) (hres _ _ _), hvars _ (fun _ _ => rfl), rfl, ?_, ?_⟩, ?_⟩
    · intro b off hp
      have hin : MemPlace.cell b off ∈ before := by rw [hps]; simpa using hp
      rw [hb.frozen (hlt _ hin)]
      exact hz b off hin
    · intro ha
      have := hn ha
      rw [hps] at this
      simpa using this
    · intro p hp _
      rw [hps]
      simpa using hp

end Go.Proofs.YthpjmjohdliohaaGreat
