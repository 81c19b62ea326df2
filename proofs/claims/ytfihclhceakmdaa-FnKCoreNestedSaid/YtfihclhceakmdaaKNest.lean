/- impl.KCore at a good graph without directions; the plain law of FnKCoreNested. -/
import Derived.Test.YtfihclhceakmdaaCoresFn
import Derived.Test.YtfihclhceakmdaaBothWays
import Derived.Test.YtfihclhceakmdaaNumbers
namespace Go.Proofs.Ytfihclhceakmdaa
open Go.RowKit

/-- What impl.KCore gives. -/
def KRes (w : World) (g : Gr) (K : Nat) (e : Ending) (w' : World) : Prop :=
  ∃ (S : List Int) (a : Option Addr) (c : Nat), e = .returned (.tuple #[.slice a S.length c, .bool false]) ∧ Cells w' a (ints S) ∧ Below w.heap.size w w' ∧ S.Nodup ∧ S.length ≤ 1000 ∧ (∀ x ∈ S, x ∈ g.nodes ∧ K ≤ dgIn g S x) ∧
    (∀ T : List Int, T.Nodup → (∀ x ∈ T, x ∈ g.nodes ∧ K ≤ dgIn g T x) → ∀ x ∈ T, x ∈ S)

theorem arcB_sym {g : Gr} (hd : g.dir = false) (x y : Int) : arcB g x y = arcB g y x := by
  unfold arcB
  congr 1
  funext e
  unfold hits
  rw [hd]
  refine decide_eq_decide.2 ?_
  simp only [true_and]
  exact or_comm

theorem ok_nodup {g : Gr} (hok : okGraph g = true) : g.nodes.Nodup := by
  unfold okGraph at hok
  rw [Bool.and_eq_true] at hok
  exact of_decide_eq_true hok.1

theorem ends_nodup {ids : List Int} {outs : List (List Arc)} (hup : ids.Pairwise (· < ·)) (hok : ∀ l ∈ outs, RowOk ids.length l) (x : Int) : (succOf ids outs x).Nodup := by
  unfold succOf endsOf
  have hrow : RowOk ids.length (outs.getD (posOf ids x) []) := by
    rcases Nat.lt_or_ge (posOf ids x) outs.length with hl | hl
    · have hm : outs.getD (posOf ids x) [] ∈ outs := by simp [hl]
      exact hok _ hm
    · rw [List.getD_eq_getElem?_getD, List.getElem?_eq_none hl]; exact RowOk.nil _
  generalize outs.getD (posOf ids x) [] = l at hrow
  show (l.map fun a => ids.getD a.1 0).Pairwise (· ≠ ·)
  rw [List.pairwise_map]
  refine hrow.1.imp_of_mem fun {a b} ha hb hab => ?_
  have h1 := hrow.2 a ha
  have h2 := hrow.2 b hb
  have := List.pairwise_iff_getElem.1 hup a.1 b.1 h1 h2 hab
  simp only [List.getD_eq_getElem?_getD, List.getElem?_eq_getElem h1, List.getElem?_eq_getElem h2, Option.getD_some]
  omega

theorem topOk_of {g : Gr} {K : Nat} (hok : okGraph g = true) (hnd : ∀ x ∈ asc g.nodes, (gSucc g x).Nodup) (h : K ≤ 1 ∨ ∃ S : List Int, S ≠ [] ∧ S.Nodup ∧ ∀ x ∈ S, x ∈ g.nodes ∧ K - 1 ≤ dgIn g S x) : TopOk (gSucc g) (asc g.nodes) K := by
  rcases h with h | ⟨S, h1, h2, h3⟩
  · exact .inl h
  · refine .inr ⟨S, h1, fun x hx => ⟨asc_mem.2 (h3 x hx).1, ?_⟩⟩
    rw [← dg_degIn hok h2 (fun y hy => (h3 y hy).1) (h3 x hx).1 (hnd x (asc_mem.2 (h3 x hx).1))]
    exact (h3 x hx).2

set_option maxRecDepth 100000 in
set_option maxHeartbeats 4000000 in
theorem kcoreI_any (K : Nat) (g : Gr) (an : Option Addr) (cn : Nat) (ae : Option Addr) (ce : Nat) (w : World) (hn : g.nodes.length ≤ 1000) (he : g.edges.length ≤ 1048576) (hg : GrAt w g an cn ae) (hok : okGraph g = true) (hd : g.dir = false) (h64 : ∀ x ∈ g.nodes, In64 x)
    (hT : K ≤ 1 ∨ ∃ S : List Int, S ≠ [] ∧ S.Nodup ∧ ∀ x ∈ S, x ∈ g.nodes ∧ K - 1 ≤ dgIn g S x) :
    Calls Try.prog 7 #[.int .i64 (K : Nat), .agg #[.bool g.dir, .slice an g.nodes.length cn, .slice ae g.edges.length ce]] w (KRes w g K) := by
  obtain ⟨w1, hw1⟩ : ∃ w1, w1 = w.alloc (.cells #[.bool g.dir, .slice an g.nodes.length cn, .slice ae g.edges.length ce] 25) := ⟨_, rfl⟩
  have hb1 : Below w.heap.size w w1 := by rw [hw1]; exact alloc_below w _
  have hbw := bothWays_any g an cn ae ce w1 (by omega) he (hg.below hb1)
  rw [hw1] at hbw
  have hbwh := Lib.hid hbw
  have hw1h := Lib.hid hw1
  have hb1h := Lib.hid hb1
  have hokh := Lib.hid hok
  have hdh := Lib.hid hd
  have h64h : Hid (∀ x ∈ asc g.nodes, In64 x) := fun x hx => h64 x (asc_mem.1 hx)
  have hids : Hid ((asc g.nodes).length ≤ 1000) := by unfold Hid; rw [asc_length]; exact hn
  have hsymh : Hid (∀ x ∈ asc g.nodes, ∀ y ∈ gSucc g x, x ∈ gSucc g y) := fun x hx y hy => by
    obtain ⟨h1, h2⟩ := (gSucc_mem hok (asc_mem.1 hx)).1 hy
    exact (gSucc_mem hok h1).2 ⟨asc_mem.1 hx, by rw [arcB_sym hd]; exact h2⟩
  have hndh : Hid (∀ x ∈ asc g.nodes, (gSucc g x).Nodup) := fun x _ => by
    have ht := graph_tabs hok
    exact ends_nodup (asc_incr (ok_nodup hok)) ht.r1 x
  have hTh := Lib.hid (topOk_of hok hndh.out hT)
  clear hw1 hb1 hbw hg h64 hok hd hT
  go_enter Try.func7, Try.ntmps7
  go_wp2_with fail
  refine (unhide hbwh).mono ?_
  rintro e w2 ⟨gb, rfl, hb2, hp2⟩
  rw [← hw1h.out] at hb2 hp2
  have hFA := hp2 hokh.out
  have hres : (okGraph g && !g.dir) = true := by rw [hokh.out, hdh.out]; rfl
  rw [hres]
  have hbw2 := Lib.hid (hb1h.out.trans (hb2.mono hb1h.out.size))
  have hPl : Hid (∀ W, Below w2.heap.size w2 W → PlainAt W gb (asc g.nodes) (outsOf g) (tabs bitsOf (asc g.nodes) g.dir g.edges).2) := fun W hW => hFA.plain.below hW
  obtain ⟨w3, hw3⟩ : ∃ w3, w3 = w2.alloc (.cells #[.pointer (some ⟨gb, 0, none⟩)] 44) := ⟨_, rfl⟩
  have hb3 : Below w2.heap.size w2 w3 := by rw [hw3]; exact alloc_below _ _
  have c0 : w3.cell? ⟨w2.heap.size, 0, none⟩ = some (.pointer (some ⟨gb, 0, none⟩)) := by rw [hw3]; simp
  have hco := cores_any gb (asc g.nodes) (outsOf g) _ w3 hids.out h64h.out (hPl.out w3 hb3) hsymh.out hndh.out
  rw [hw3] at hco
  have hcoh := Lib.hid hco
  have hw3h := Lib.hid hw3
  have hb3h := Lib.hid hb3
  have c0h := Lib.hid c0
  clear hp2 hFA hres hb2 hbwh hw3 hb3 c0 hco
  go_wp2_with fail
  refine (unhide hcoh).mono ?_
  rintro e w4 ⟨a1, n1, c1, b1, kk, cb, rfl, hkk, htop, hb4⟩
  rw [← hw3h.out] at hb4
  have hKk : K ≤ kk := htop K hTh.out
  have hb24 : Below w2.heap.size w2 w4 := hb3h.out.trans (hb4.mono hb3h.out.size)
  have c4 := cell_below hb4 c0h.out
  have hkc := Lib.hid (kcore_any K gb (asc g.nodes) (outsOf g) _ w4 hids.out h64h.out (hPl.out w4 hb24) hsymh.out hndh.out hTh.out)
  have hb4h : Hid (Below w.heap.size w w4) := hbw2.out.trans (hb24.mono hbw2.out.size)
  have hlt : ¬ (kk : Int) < (K : Int) := by omega
  clear hb4 hb24 htop hcoh hPl
  go_wp2_with fail
  refine (unhide hkc).mono ?_
  rintro e w5 ⟨S, a5, c5, rfl, hcS, hb5, hSn, hSl, hSk, hSm⟩
  have hnu := Lib.hid (numbers_any a5 S.length c5 S w5 rfl (by omega) hcS)
  have hSg : ∀ y ∈ S, y ∈ g.nodes := fun y hy => asc_mem.1 (hSk y hy).1
  have hfin : Hid (∀ w' a c, Cells w' a (ints S) → Below w5.heap.size w5 w' → KRes w g K (.returned (.tuple #[.slice a S.length c, .bool false])) w') := fun w' a c hc hb =>
    ⟨S, a, c, rfl, hc, (hb4h.out.trans (hb5.mono hb4h.out.size)).trans (hb.mono (Nat.le_trans hb4h.out.size hb5.size)), hSn, hSl, fun x hx => ⟨hSg x hx, by
      rw [dg_degIn hokh.out hSn hSg (hSg x hx) (hndh.out x (hSk x hx).1)]
      exact (hSk x hx).2⟩, fun T hTn hT => hSm T fun x hx => ⟨asc_mem.2 (hT x hx).1, by
      have := (hT x hx).2
      rwa [dg_degIn hokh.out hTn (fun y hy => (hT y hy).1) (hT x hx).1 (hndh.out x (asc_mem.2 (hT x hx).1))] at this⟩⟩
  obtain ⟨n, hn2⟩ : ∃ n, n = S.length := ⟨_, rfl⟩
  rw [← hn2] at hnu hfin ⊢
  clear hcS hb5 hSn hSl hSk hSm hkc hSg hn2
  go_wp2_with fail
  refine (unhide hnu).mono ?_
  rintro e w6 ⟨a6, c6, rfl, hrow, hb6⟩
  have hcS : Cells w6 a6 (ints S) := by
    obtain ⟨x, y, e, _, h, _⟩ := owns_cells hrow
    injection e with e _ _
    subst e; exact h
  have hf := Lib.hid (hfin.out w6 a6 c6 hcS hb6)
  clear hrow hb6 hcS hfin
  go_wp2_with fail
  go_ret2
  exact hf.out
end Go.Proofs.Ytfihclhceakmdaa
