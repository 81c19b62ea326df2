/- The definitions (spec): Components. -/
import Derived.Test.YtpmphefmmcbpaaaGreatCompLaw
import Derived.Test.YtpmphefmmcbpaaaGreatIStep
import Derived.Deep.LoopGhost
namespace Go.Proofs.YtpmphefmmcbpaaaGreat
open Go.RowKit

/-- What the loop of Components holds: the list of lists, and all their numbers in a row. -/
structure SC (w0 wr : World) (D : Nat) (out dn : Value) (m md : Nat) (vs : List Value) (C : List (List Int)) : Prop where
  len : m = C.length
  mdl : md = C.flatten.length
  row : wr.ownsRow D 22 1 out m vs
  rows : IRows wr D vs C
  dis : ∀ j ∈ blks vs, out.ownBlock ≠ some j
  don : wr.ownsRow D 3 1 dn md (ints C.flatten)
  ap : ∀ j, dn.ownBlock = some j → out.ownBlock ≠ some j ∧ j ∉ blks vs
  bel : Below D w0 wr

theorem SC.new (w0 : World) (D : Nat) : SC w0 w0 D (.slice none 0 0) (.slice none 0 0) 0 0 [] [] :=
  ⟨rfl, rfl, World.ownsRow_nil _ _ _ _, ⟨rfl, fun k v c hv => by simp at hv⟩, by simp [blks], World.ownsRow_nil _ _ _ _, fun j h => (by cases h), Below.refl _ _⟩

/-- Behind the list of a class: both appends. -/
theorem SC.step {w0 wr w5 w6 : World} {D m md n : Nat} {ao ad bd al : Option Addr} {co cd cd2 cl : Nat} {vs : List Value} {C : List (List Int)} {c : List Int} (h : SC w0 wr D (.slice ao m co) (.slice ad md cd) m md vs C)
    (hD : D ≤ wr.heap.size) (hb5 : Below wr.heap.size wr w5) (hn : n = c.length) (own5 : w5.ownsRow wr.heap.size 3 1 (.slice al n cl) n (ints c))
    (hg6 : w5.grownBy w6 (Value.slice ad md cd).ownBlock) (own6 : w6.ownsRow D 3 1 (.slice bd (md + n) cd2) (md + n) (ints C.flatten ++ ints c)) (hat6 : bd = ad ∨ bd = some ⟨w5.heap.size, 0, none⟩) :
    D ≤ w6.heap.size ∧ w6.ownsRow D 22 1 (.slice ao m co) m vs ∧ Hid (∀ o w7 b2 c2, (w6.alloc o).grownBy w7 (Value.slice ao m co).ownBlock → w7.ownsRow D 22 1 (.slice b2 (m + 1) c2) (m + 1) (vs ++ [.slice al n cl]) → (b2 = ao ∨ b2 = some ⟨(w6.alloc o).heap.size, 0, none⟩) →
      SC w0 w7 D (.slice b2 (m + 1) c2) (.slice bd (md + n) cd2) (m + 1) (md + n) (vs ++ [.slice al n cl]) (C ++ [c])) := by
  subst hn
  have hz5 := hb5.size
  have hz6 := hg6.size
  have hdl : ∀ j, (Value.slice ad md cd).ownBlock = some j → j < wr.heap.size := fun j hj => (h.don.lt j hj).2
  have h5 : ∀ j, j < w5.heap.size → (Value.slice ad md cd).ownBlock ≠ some j → w6.heap[j]? = w5.heap[j]? := fun j hj hne => hg6.block j hj (fun e => hne e.symm)
  have hold : ∀ j, j < wr.heap.size → (Value.slice ad md cd).ownBlock ≠ some j → w6.heap[j]? = wr.heap[j]? := fun j hj hne => by
    rw [h5 j (by omega) hne, hb5.block j hj]
  have hout6 : w6.ownsRow D 22 1 (.slice ao m co) m vs := owns_same h.row fun j hj => hold j (h.row.lt j hj).2 (fun e => (h.ap j e).1 hj)
  have hrow6 : IRows w6 D vs C := h.rows.same fun j hj => hold j (h.rows.lt j hj).2 (fun e => (h.ap j e).2 hj)
  have hl6 : w6.ownsRow wr.heap.size 3 1 (.slice al c.length cl) c.length (ints c) := owns_same own5 fun j hj => h5 j (own5.lt j hj).2 (fun e => by have := hdl j e; have := (own5.lt j hj).1; omega)
  have hbd : ∀ j, (Value.slice bd (md + c.length) cd2).ownBlock = some j → (Value.slice ad md cd).ownBlock = some j ∨ j = w5.heap.size := fun j hj => by
    rcases hat6 with rfl | rfl
    · left; cases bd <;> exact hj
    · right
      simp only [Value.ownBlock] at hj
      injection hj with hj
      exact hj.symm
  refine ⟨by omega, hout6, fun o w7 b2 c2 hg7 ho7 hat => ?_⟩
  have hsz : (w6.alloc o).heap.size = w6.heap.size + 1 := by simp
  have h7 : ∀ j, j < w6.heap.size → (Value.slice ao m co).ownBlock ≠ some j → w7.heap[j]? = w6.heap[j]? := fun j hj hne => by
    rw [hg7.block j (by omega) (fun e => hne e.symm), Below.heap_alloc _ _ _ hj]
  have hbl : blks (vs ++ [.slice al c.length cl]) = blks vs ++ (Value.slice al c.length cl).ownBlock.toList := by
    unfold blks; rw [List.filterMap_append]; congr 1
  have hol : ∀ j, (Value.slice ao m co).ownBlock = some j → j < wr.heap.size := fun j hj => (h.row.lt j hj).2
  have hnew : ∀ j, (Value.slice b2 (m + 1) c2).ownBlock = some j → (Value.slice ao m co).ownBlock = some j ∨ w6.heap.size ≤ j := by
    intro j hj
    rcases hat with rfl | rfl
    · left; cases b2 <;> exact hj
    · right
      simp only [Value.ownBlock] at hj
      injection hj with hj
      omega
  have hfl : (C ++ [c]).flatten = C.flatten ++ c := by simp
  refine ⟨by rw [List.length_append, h.len]; rfl, by rw [hfl, List.length_append, h.mdl], ho7, ?_, ?_, ?_, ?_, ?_⟩
  · refine (hrow6.same fun j hj => h7 j (hrow6.lt j hj).2 (h.dis j hj)).more (owns_base (owns_same hl6 fun j hj => h7 j (hl6.lt j hj).2 (fun e => ?_)) hD)
    have := hol j e; have := (own5.lt j hj).1; omega
  · intro j hj e
    rw [hbl] at hj
    rcases List.mem_append.1 hj with hj | hj
    · have h1 := hrow6.lt j hj
      rcases hnew j e with e' | e'
      · exact h.dis j hj e'
      · omega
    · rw [Option.mem_toList] at hj
      have h1 := hl6.lt j hj
      rcases hnew j e with e' | e'
      · have := hol j e'; omega
      · omega
  · have e1 : ints (C ++ [c]).flatten = ints C.flatten ++ ints c := by rw [hfl]; unfold ints; rw [List.map_append]
    rw [e1]
    refine owns_same own6 fun j hj => h7 j (own6.lt j hj).2 (fun e => ?_)
    rcases hbd j hj with e' | e'
    · exact (h.ap j e').1 e
    · have := hol j e; omega
  · intro j hj
    have hlt := (own6.lt j hj).2
    refine ⟨fun e => ?_, fun hm => ?_⟩
    · rcases hnew j e with e' | e'
      · rcases hbd j hj with e'' | e''
        · exact (h.ap j e'').1 e'
        · have := hol j e'; omega
      · omega
    · rw [hbl] at hm
      rcases List.mem_append.1 hm with hm | hm
      · have h1 := h.rows.lt j hm
        rcases hbd j hj with e'' | e''
        · exact (h.ap j e'').2 hm
        · omega
      · rw [Option.mem_toList] at hm
        have h1 := own5.lt j hm
        rcases hbd j hj with e'' | e''
        · have := hdl j e''; omega
        · omega
  · refine ⟨(hg7.os.trans rfl).trans ((hg6.os).trans (hb5.os.trans h.bel.os)), (hg7.tape.trans rfl).trans (hg6.tape.trans (hb5.tape.trans h.bel.tape)), (hg7.output.trans rfl).trans (hg6.output.trans (hb5.output.trans h.bel.output)), by have := hg7.size; have := h.bel.size; omega, fun j hj => ?_⟩
    rw [h7 j (by omega) (fun e => by have := (h.row.lt j e).1; omega), hold j (by omega) (fun e => by have := (h.don.lt j e).1; omega), h.bel.block j hj]

/-- What Components gives. -/
def SComps (w : World) (g : Gr) (e : Ending) (w' : World) : Prop :=
  ∃ (C : List (List Int)) (a : Option Addr) (c B : Nat) (vs : List Value), Comps (sFrom g) (asc g.nodes) (asc g.nodes).length C ∧ e = .returned (.slice a C.length c) ∧ w'.ownsRow B 22 1 (.slice a C.length c) C.length vs ∧ IRows w' B vs C ∧ w.heap.size ≤ B ∧ Below w.heap.size w w'

set_option linter.unusedSimpArgs false in
set_option maxRecDepth 100000 in
set_option maxHeartbeats 4000000 in
theorem specComps_any (g : Gr) (an : Option Addr) (cn : Nat) (ae : Option Addr) (ce : Nat) (w : World) (hn : g.nodes.length ≤ 1000) (he : g.edges.length ≤ 1048576) (hg : GrAt w g an cn ae) (hd : g.dir = false) :
    Calls Tryz.prog 30 #[.agg #[.bool g.dir, .slice an g.nodes.length cn, .slice ae g.edges.length ce]] w (SComps w g) := by
  obtain ⟨w1, hw1⟩ : ∃ w1, w1 = w.alloc (.cells #[.bool g.dir, .slice an g.nodes.length cn, .slice ae g.edges.length ce] 25) := ⟨_, rfl⟩
  have hb1 : Below w.heap.size w w1 := by rw [hw1]; exact alloc_below w _
  have hz1 : w1.heap.size = w.heap.size + 1 := by rw [hw1]; simp
  have k0 : w1.cell? ⟨w.heap.size, 0, none⟩ = some (.bool g.dir) := by rw [hw1]; simp
  have k1 : w1.cell? ⟨w.heap.size, 1, none⟩ = some (.slice an g.nodes.length cn) := by rw [hw1]; simp
  have k2 : w1.cell? ⟨w.heap.size, 2, none⟩ = some (.slice ae g.edges.length ce) := by rw [hw1]; simp
  have hK : Hid (∀ wr, Below w1.heap.size w1 wr → Below w.heap.size w wr ∧ GrAt wr g an cn ae ∧ wr.cell? ⟨w.heap.size, 0, none⟩ = some (.bool g.dir) ∧ wr.cell? ⟨w.heap.size, 1, none⟩ = some (.slice an g.nodes.length cn) ∧ wr.cell? ⟨w.heap.size, 2, none⟩ = some (.slice ae g.edges.length ce)) :=
    fun wr h => ⟨hb1.trans (h.mono (by omega)), (hg.below hb1).below h, cell_below h k0, cell_below h k1, cell_below h k2⟩
  have hnod := Lib.hid (specNodes_any g an cn ae g.edges.length ce w1 (by omega) (hg.below hb1).nodes)
  have hal := asc_length g.nodes
  have hsym := Lib.hid (from_sym hd)
  have hw1h := Lib.hid hw1
  obtain ⟨ids, hids⟩ : ∃ ids, ids = asc g.nodes := ⟨_, rfl⟩
  have hidsh := Lib.hid hids
  rw [← hids] at hal hsym
  have hlh := Lib.hid hal
  clear hb1 hw1 k0 k1 k2 hd hg hids hal
  go_enter Tryz.func30, Tryz.ntmps30
  go_wp2_with fail
  rw [← hw1h.out]
  refine (unhide hnod).mono ?_
  rintro e w2 ⟨a1, c1, rfl, own2, hb2⟩
  obtain ⟨_, d0, d1, d2⟩ := show Below w.heap.size w w2 ∧ w2.cell? ⟨w.heap.size, 0, none⟩ = some (.bool g.dir) ∧ w2.cell? ⟨w.heap.size, 1, none⟩ = some (.slice an g.nodes.length cn) ∧ w2.cell? ⟨w.heap.size, 2, none⟩ = some (.slice ae g.edges.length ce) from ⟨(hK.out w2 hb2).1, (hK.out w2 hb2).2.2⟩
  rw [← hidsh.out] at own2
  have own2h := Lib.hid own2
  obtain ⟨D, hD⟩ : ∃ D, D = w2.heap.size := ⟨_, rfl⟩
  have hDh := Lib.hid hD
  have hb2h := Lib.hid hb2
  have hsucl := Lib.hid (fun (C : List (List Int)) (k : Nat) (h : Comps (sFrom g) ids k C) => (nodup_len h.nd (h.sub hsym.out) : C.flatten.length ≤ ids.length))
  clear own2 hb2 hnod hD d0 d1 d2
  go_wp2_with fail
  go_loopw [3, 4, 6, 7, 11] (fun s3 s4 _ _ i wr => ∃ (k m md : Nat) (ao ad : Option Addr) (co cd : Nat) (vs : List Value) (C : List (List Int)), k ≤ g.nodes.length ∧ s3 = .slice ao m co ∧ s4 = .slice ad md cd ∧ i = .int .i64 k ∧
    Comps (sFrom g) ids k C ∧ SC w2 wr D (.slice ao m co) (.slice ad md cd) m md vs C) (fun _ _ _ _ i _ => g.nodes.length - (intOf i).toNat)
  case atStart => exact ⟨0, 0, 0, none, none, 0, 0, [], [], Nat.zero_le _, rfl, rfl, rfl, Comps.start _ _, SC.new _ _⟩
  case round =>
    obtain ⟨k, m, md, ao, ad, co, cd, vs, C, hk, rfl, rfl, rfl, hcs0, hS0⟩ := hrel
    have hS := Lib.hid hS0
    have hcs := Lib.hid hcs0
    have hbw2 : Below w2.heap.size w2 wr := by rw [← hDh.out]; exact hS0.bel
    have hbw1 : Below w1.heap.size w1 wr := hb2h.out.trans (hbw2.mono hb2h.out.size)
    obtain ⟨hbw, hgr, d0, d1, d2⟩ := hK.out wr hbw1
    have hbwh := Lib.hid hbw
    have hmd : md ≤ g.nodes.length := by
      have h1 := hsucl.out C k hcs0
      have h2 := hS0.mdl
      have h3 := hlh.out
      omega
    have hm : m ≤ g.nodes.length := by
      have h1 := hsucl.out C k hcs0
      have h2 := hS0.len
      have h3 := hlh.out
      have h4 : C.length ≤ C.flatten.length := by
        have := hcs0.ne
        clear hcs0 hS0 hcs hS h1 h2
        induction C with
        | nil => simp
        | cons c C ih =>
          have h5 := ih (fun c hc => this c (List.mem_cons_of_mem _ hc))
          have h6 := this c List.mem_cons_self
          have h7 : 0 < c.length := List.length_pos_iff.2 h6
          rw [List.flatten_cons, List.length_append, List.length_cons]
          omega
      omega
    by_cases hlt : k < g.nodes.length
    · have hki : k < ids.length := by rw [hlh.out]; exact hlt
      obtain ⟨u, hu⟩ : ∃ u, u = ids[k] := ⟨_, rfl⟩
      have huh := Lib.hid hu
      obtain ⟨nb, rfl, _, hnb2, _⟩ := owns_at own2h.out (by omega)
      have x0 : wr.cell? ⟨nb, k, none⟩ = some (.int .i64 u) := cell_below hbw2 (owns_cell own2h.out (by rw [hu]; exact ints_get ids k hki))
      obtain ⟨ax, cx, ex, _, hcx, _⟩ := owns_cells hS0.don
      injection ex with ex1 _ ex2
      subst ex1; subst ex2
      have hhas := Lib.hid (hasI_any ad md cd C.flatten u wr hS0.mdl (by have := hS0.mdl; omega) hcx)
      obtain ⟨q, hq⟩ : ∃ q, q = decide (u ∈ C.flatten) := ⟨_, rfl⟩
      rw [← hq] at hhas
      have hqh := Lib.hid hq
      have hun : u ∈ g.nodes := by rw [hu]; exact asc_mem.1 (by rw [← hidsh.out]; exact List.getElem_mem hki)
      have hrea := Lib.hid (reached_any g an cn ae ce u wr (by omega) he hgr hun)
      clear hu hcx hq hun hS0 hcs0 hgr hbw2 hbw1 hbw
      go_wp2_with fail
      refine (unhide hhas).mono ?_
      rintro e w5 ⟨rfl, rfl⟩
      cases q
      · have hin : ids[k] ∉ C.flatten := by rw [← huh.out]; exact of_decide_eq_false hqh.out.symm
        clear hqh hhas x0
        go_wp2_with fail
        refine (unhide hrea).mono ?_
        rintro e w6 ⟨R, al, cl, hR1, hR2, hR3, rfl, own6, hb6⟩
        have hn2 : Hid (Comps (sFrom g) ids (k + 1) (C ++ [asc R])) := hcs.out.more hsym.out hki hin hR1 (by rw [← huh.out]; exact hR2)
        have hRl : 0 < R.length := List.length_pos_of_mem ((hR2 u).2 .refl)
        obtain ⟨lb, rfl, hlb1, hlb2, _⟩ := owns_at own6 hRl
        obtain ⟨nl, hnl⟩ : ∃ nl, nl = R.length := ⟨_, rfl⟩
        rw [← hnl] at own6 ⊢
        have hnla : nl = (asc R).length := by rw [hnl, asc_length]
        have hDw : D ≤ wr.heap.size := by have := hS.out.bel.size; rw [hDh.out]; exact this
        have hD6 : D ≤ w6.heap.size := Nat.le_trans hDw hb6.size
        have hdn6 := Lib.hid (owns_same hS.out.don fun j hj => hb6.block j (hS.out.don.lt j hj).2)
        have hnews : Hid (∀ j v, (ints (asc R))[j]? = some v → w6.cell? ((⟨lb, 0, none⟩ : Addr).add j) = some v) := own6.cells (g := lb) rfl
        have hnlen : (ints (asc R)).length = nl * 1 := by rw [ints_length, Nat.mul_one]; exact hnla.symm
        have hnl2 : nl ≤ 1000 := by omega
        have honei : Hid (∀ v ∈ ints (asc R), v.oneCell' = true) := fun v hv => by
          obtain ⟨x, _, rfl⟩ := List.mem_map.1 hv
          rfl
        have hstep := Lib.hid (fun b2 c2 w7 (ho : w7.ownsRow D 3 1 (.slice b2 (md + nl) c2) (md + nl) (ints C.flatten ++ ints (asc R))) (hg : w6.grownBy w7 (Value.slice ad md cd).ownBlock) (hat : b2 = ad ∨ b2 = some ⟨w6.heap.size, 0, none⟩) => hS.out.step (cl := cl) hDw hb6 hnla own6 hg ho hat)
        have hn2h := hn2
        clear hR1 hR2 hR3 hRl hnl hb6 hnla hrea own6 hn2 hin hDw
        go_wp2_with (at_builtin; first
          | (refine append_law 22 3 (.int .i64 0) 1 8 Tryz.underlying22 info_int rfl (by omega) (by omega) rfl _ _ rfl D ad md cd (ints C.flatten) rfl hdn6.out ⟨lb, 0, none⟩ nl cl (ints (asc R)) rfl hnlen (unhide hnews) (unhide honei) (by omega) hD6 ?_; intro b2 c2 w7 hown7 hg7 hat7; obtain ⟨q1, q2, q3⟩ := unhide hstep b2 c2 w7 hown7 hg7 hat7; have ho7 := Lib.hid (fun o => q2.alloc o); clear hown7 hg7 hat7 hstep q2 hdn6 hnews honei hnlen)
          | (refine append_law 46 22 (.slice none 0 0) 1 24 Tryz.underlying46 info_irow rfl (by omega) (by omega) rfl _ _ rfl D ao m co vs rfl (unhide ho7 _) ⟨w7.heap.size, 0, none⟩ 1 1 [.slice (some ⟨lb, 0, none⟩) nl cl] rfl rfl (new_one w7 _ _) (one_irow _ _ _) (by omega) (by simp; omega) ?_; intro b3 c3 w8 hown8 hg8 hat8; have hf := Lib.hid (unhide q3 _ _ _ _ hg8 hown8 hat8); clear hown8 hg8 hat8 q3 ho7))
        go_roundw
        case rel => exact ⟨k + 1, m + 1, md + nl, b3, b2, c3, c2, _, _, by omega, rfl, rfl, by go_num, hn2h.out, hf.out⟩
        case measure => simp [intOf]; omega
      · have hin : ids[k] ∈ C.flatten := by rw [← huh.out]; exact of_decide_eq_true hqh.out.symm
        have hn2h := Lib.hid (hcs.out.skip hki hin)
        clear hqh hhas x0 hrea hin
        go_wp2_with fail
        go_roundw
        case rel => exact ⟨k + 1, m, md, ao, ad, co, cd, vs, C, by omega, rfl, rfl, by go_num, hn2h.out, hS.out⟩
        case measure => simp [intOf]; omega
    · have hkn : k = ids.length := by rw [hlh.out]; omega
      have hm' := hS.out.len
      have hfin : Hid (SComps w g (.returned (.slice ao m co)) wr) := by
        rw [hkn] at hcs0
        subst hm'
        rw [hidsh.out] at hcs0
        exact ⟨C, ao, co, D, vs, hcs0, rfl, hS0.row, hS0.rows, by rw [hDh.out]; exact Nat.le_trans (by omega) hb2h.out.size, hbw⟩
      clear hcs0 hS0 hgr hbw hbw1 hbw2 hm' hkn
      go_wp2_with fail
      go_ret
      exact hfin.out
end Go.Proofs.YtpmphefmmcbpaaaGreat
