/- Nodes of a plain graph: all, OrderedNodes.Len and NodeSlice at a new iterator, graph.NodesOf.
   Tarjan's state in memory: what each step leaves of it. -/
import Derived.Test.YthpjmjohdliohaaGreatOpenA
import Derived.Handy
import Derived.Stop.Asserts
import Derived.Test.YthpjmjohdliohaaGreatIntsA
namespace Go.Proofs.YthpjmjohdliohaaGreat
open Go.RowKit

set_option maxHeartbeats 1000000 in
theorem all_any (pb : Nat) (ids : List Int) (ai : Option Addr) (ci : Nat) (w : World) (hids : ids.length ≤ 1048576)
    (h0 : w.cell? ⟨pb, 0, none⟩ = some (.slice ai ids.length ci)) (hc0 : Cells w ai (ints ids)) :
    Calls Tryz.prog 175 #[.pointer (some ⟨pb, 0, none⟩)] w
      fun e w' => ∃ ib, e = .returned (.iface 248 (.pointer (some ⟨ib, 0, none⟩))) ∧ IterAt w' w.heap.size w'.heap.size ib 0 ids ∧ Below w.heap.size w w' := by
  have hmk := fun W => run_make_cap (P := Tryz.prog) 50 85 .nilIface 16 Tryz.underlying50 info_node rfl ids.length (by omega) (by omega) W
  have h01 : ∀ o, (w.alloc o).cell? ⟨pb, 0, none⟩ = some (.slice ai ids.length ci) := fun o => cell_alloc h0 o
  go_enter Tryz.func175, Tryz.ntmps175
  go_wp2
  have hb1 : Below w.heap.size w (w.alloc (.cells (madeCells #[.nilIface] ids.length) 85)) := alloc_below w _
  have own1 : (w.alloc (.cells (madeCells #[.nilIface] ids.length) 85)).ownsRow w.heap.size 85 1 (.slice (some ⟨w.heap.size, 0, none⟩) 0 ids.length) 0 [] :=
    World.ownsRow_made w _ _ (Nat.le_refl _) (by unfold maxLen; omega) (by rw [size_madeCells, Nat.mul_one])
  obtain ⟨w1, hw1⟩ : ∃ w1, w1 = w.alloc (.cells (madeCells #[.nilIface] ids.length) 85) := ⟨_, rfl⟩
  rw [← hw1] at hb1 own1 ⊢
  clear hw1 hmk h01
  have hc0' := Lib.hid hc0
  clear h0 hc0
  go_loopw [3, 17] (fun s i wr => ∃ (k : Nat) (g c : Nat), k ≤ ids.length ∧ i = .int .i64 k ∧ s = .slice (some ⟨g, 0, none⟩) k c ∧ wr.ownsRow w.heap.size 85 1 (.slice (some ⟨g, 0, none⟩) k c) k (nodes (ids.take k)) ∧
    Below w.heap.size w wr) (fun _ i _ => ids.length - (intOf i).toNat)
  case atStart => exact ⟨0, w.heap.size, ids.length, Nat.zero_le _, rfl, rfl, own1, hb1⟩
  case round =>
    clear own1 hb1
    obtain ⟨k, g, c, hk, rfl, rfl, hown, hb⟩ := hrel
    by_cases hlt : k < ids.length
    · obtain ⟨b3, off3, rfl, hbl3, hr3⟩ := ((unhide hc0').below hb).at (by rw [ints_length]; omega)
      have e3 := hr3 _ _ (ints_get ids k hlt)
      have ho := Lib.hid (fun o => hown.alloc o)
      have hfin := Lib.hid (fun o g2 c2 w2 (h2 : w2.ownsRow w.heap.size 85 1 (.slice (some ⟨g2, 0, none⟩) (k + 1) c2) (k + 1) (nodes (ids.take k) ++ [.iface 127 (.int .i64 ids[k])])) (hg : (wr.alloc o).grownBy w2 (some g)) =>
        show w2.ownsRow w.heap.size 85 1 (.slice (some ⟨g2, 0, none⟩) (k + 1) c2) (k + 1) (nodes (ids.take (k + 1))) ∧ Below w.heap.size w w2 from by
          have hsz := hb.size
          have hgB := (hown.lt g rfl).1
          refine ⟨?_, (hb.alloc (by omega) o).grown hg (by simp; omega) (fun j e => by injection e with e; omega)⟩
          have e : nodes (ids.take (k + 1)) = nodes (ids.take k) ++ [.iface 127 (.int .i64 ids[k])] := by
            rw [List.take_succ_eq_append_getElem hlt]
            unfold nodes
            rw [List.map_append]; rfl
          rw [e]; exact h2)
      have hBs := hb.size
      clear hown hb hr3
      go_wp2_with (at_builtin; refine append_law 50 85 .nilIface 1 16 Tryz.underlying50 info_node rfl (by omega) (by omega) rfl _ _ rfl w.heap.size (some ⟨g, 0, none⟩) k c (nodes (ids.take k)) rfl (unhide ho _) ⟨wr.heap.size, 0, none⟩ 1 1 [.iface 127 (.int .i64 ids[k])] rfl rfl (new_one wr _ _) (one_node _) (by omega) (by simp; omega) ?_; intro b2 c2 w2 hown2 hg2 hat2; obtain ⟨g2, rfl, _⟩ := owns_at hown2 (by omega); have hf := Lib.hid (unhide hfin _ _ _ _ hown2 hg2); clear hown2 hg2 hat2)
      go_roundw
      case rel => exact ⟨k + 1, g2, c2, by omega, by go_num, rfl, hf.out.1, hf.out.2⟩
      case measure => simp [intOf]; omega
    · rw [take_all hk hlt] at hown
      have hkl : k = ids.length := by omega
      subst hkl
      have hBs := hb.size
      have hfin : Hid (IterAt (wr.alloc (.cells #[.int .i64 (-1), .slice (some ⟨g, 0, none⟩) ids.length c] 251)) w.heap.size (wr.alloc (.cells #[.int .i64 (-1), .slice (some ⟨g, 0, none⟩) ids.length c] 251)).heap.size wr.heap.size 0 ids ∧ Below w.heap.size w (wr.alloc (.cells #[.int .i64 (-1), .slice (some ⟨g, 0, none⟩) ids.length c] 251))) := by
        have hgl := (hown.lt g rfl).2
        refine ⟨⟨by omega, by simp, some ⟨g, 0, none⟩, c, fun j hj => ?_, ?_, ?_, ?_⟩, hb.alloc (by omega) _⟩
        · simp only [Value.ownBlock] at hj; injection hj with hj; simp; omega
        · exact heap_alloc_new wr _
        · exact hown.alloc _
        · simp only [Value.ownBlock]; intro e; injection e with e; omega
      clear hown hb
      go_wp2_with (go_at_call 176; refine (newOrdered_any _ _ _ _).mono ?_; rintro e w' ⟨rfl, rfl⟩)
      go_ret
      exact ⟨_, rfl, hfin.out.1, hfin.out.2⟩

theorem itLen_any (B E ib : Nat) (ns : List Int) (w : World) (hn : ns.length ≤ 1048576) (hi : IterAt w B E ib 0 ns) :
    Calls Tryz.prog 197 #[.pointer (some ⟨ib, 0, none⟩)] w
      fun e w' => e = .returned (.int .i64 (ns.length : Nat)) ∧ ∃ q, w' = w.drewN q := by
  obtain ⟨hB, hE, a, c, hrE, hb, hown, hne⟩ := hi
  have c0 : w.cell? ⟨ib, 0, none⟩ = some (.int .i64 (-1)) := by simp [World.cell?, hb]
  have c1 : w.cell? ⟨ib, 1, none⟩ = some (.slice a ns.length c) := by simp [World.cell?, hb]
  have d1 : decide ((ns.length : Int) ≤ -1) = false := decide_eq_false (by omega)
  have d2 : IntKind.i64.wrap ((-1 : Int) + 1) = 0 := by decide
  obtain ⟨hcap, ha⟩ : ns.length ≤ c ∧ (a = none → c = 0) := by
    obtain ⟨_, h | ⟨g, cap, cur, hv, _, _, hc, _⟩⟩ := hown
    · injection h.1 with h1 h2 h3; subst h3; exact ⟨by omega, fun _ => rfl⟩
    · injection hv with h1 _ h3; subst h3; exact ⟨hc, fun e => by rw [e] at h1; cases h1⟩
  clear hb hown hne hrE
  go_enter Tryz.func197, Tryz.ntmps197
  go_wp2
  go_quiet (fail)
  go_wp2
  go_quiet (fail)
  go_wp2
  go_ret
  exact ⟨rfl, _, World.drewN_drewN _ _ _⟩

theorem nodeSlice_any (B E ib : Nat) (ns : List Int) (w : World) (hn : ns.length ≤ 1048576) (hi : IterAt w B E ib 0 ns) :
    Calls Tryz.prog 200 #[.pointer (some ⟨ib, 0, none⟩)] w
      fun e w' => ∃ a c, e = .returned (.slice a ns.length c) ∧ w'.ownsRow B 85 1 (.slice a ns.length c) ns.length (nodes ns) ∧ (∀ j, (Value.slice a ns.length c).ownBlock = some j → j < E) ∧ w.grownBy w' (some ib) := by
  obtain ⟨hB, hE, a, c, hrE, hb, hown, hne⟩ := hi
  have c0 : w.cell? ⟨ib, 0, none⟩ = some (.int .i64 (-1)) := by simp [World.cell?, hb]
  have c1 : w.cell? ⟨ib, 1, none⟩ = some (.slice a ns.length c) := by simp [World.cell?, hb]
  have f0 : w.frozen? ⟨ib, 0, none⟩ = false := by simp [World.frozen?, hb]
  have d1 : decide ((ns.length : Int) ≤ -1) = false := decide_eq_false (by omega)
  have hg : ∀ q v, w.grownBy ((w.drewN q).setCell ⟨ib, 0, none⟩ v) (some ib) := fun q v =>
    ⟨rfl, rfl, rfl, by rw [size_setCell]; exact Nat.le_refl _, fun j _ hj => Below.heap_setCell (w.drewN q) _ _ _ (by intro e; exact hj (by rw [e]))⟩
  have hc1 : ∀ q v, ((w.drewN q).setCell ⟨ib, 0, none⟩ v).cell? ⟨ib, 1, none⟩ = some (.slice a ns.length c) := fun q v => (World.cell?_setCell_other _ _ _ _ (by simp)).trans c1
  have hfin := Lib.hid (fun q v => And.intro (hown.kept (hg q v) (.inr hne)) (And.intro hrE (hg q v)))
  have hcap : ns.length ≤ c := by
    obtain ⟨_, h | ⟨g, cap, cur, hv, _, _, hc, _⟩⟩ := hown
    · injection h.1 with h1 h2 h3; omega
    · injection hv with h1 _ h3; subst h3; exact hc
  have ha : (∃ g, a = some ⟨g, 0, none⟩) ∨ (a = none ∧ c = 0 ∧ ns.length = 0) := by
    obtain ⟨_, h | ⟨g, cap, cur, hv, _⟩⟩ := hown
    · injection h.1 with h1 h2 h3; exact .inr ⟨h1, h3, h2⟩
    · injection hv with h1 _ h3; exact .inl ⟨g, h1⟩
  clear hb hown hne hrE hg
  go_enter Tryz.func200, Tryz.ntmps200
  go_wp2
  go_quiet (fail)
  go_wp2
  go_ret
  exact ⟨a, c, rfl, hfin.out _ _⟩

theorem slicer_yes (v : Value) (w : World) : (Instr.typeAssert (.iface 248 v) 110 167 true).run Tryz.prog w = .ok (.tuple #[.iface 248 v, .bool true]) w :=
  run_typeAssert_hasB Tryz.underlying167 (by kernel_rfl) v _ w

theorem row_drewN {w w' : World} {q : Nat} {row : Option Nat} (h : (w.drewN q).grownBy w' row) : w.grownBy w' row := ⟨h.os, h.tape, h.output, h.size, h.block⟩

set_option maxRecDepth 100000 in
theorem nodesOf_any (B E ib : Nat) (ns : List Int) (w : World) (hn : ns.length ≤ 1048576) (hi : IterAt w B E ib 0 ns) :
    Calls Tryz.prog 59 #[.iface 248 (.pointer (some ⟨ib, 0, none⟩))] w
      fun e w' => ∃ a c, e = .returned (.slice a ns.length c) ∧ w'.ownsRow B 85 1 (.slice a ns.length c) ns.length (nodes ns) ∧ (∀ j, (Value.slice a ns.length c).ownBlock = some j → j < E) ∧ w.grownBy w' (some ib) := by
  have hlen := Lib.hid (itLen_any B E ib ns w hn hi)
  have hsl := Lib.hid (fun q => nodeSlice_any B E ib ns (w.drewN q) hn hi)
  have hnil := Lib.hid (fun q => show w.grownBy (w.drewN q) (some ib) from ⟨rfl, rfl, rfl, Nat.le_refl _, fun _ _ _ => rfl⟩)
  clear hi
  rcases ns with _ | ⟨z, ns⟩
  · go_enter Tryz.func59, Tryz.ntmps59
    go_wp2_with fail
    refine (unhide hlen).mono ?_
    rintro e w1 ⟨rfl, q, rfl⟩
    go_wp2_with fail
    go_ret
    exact ⟨none, 0, rfl, World.ownsRow_nil _ _ _ _, (fun j hj => by cases hj), hnil.out q⟩
  · have hz : ¬ (((z :: ns).length : Int) = 0) := by simp; omega
    have hz2 : ¬ (((z :: ns).length : Int) < 0) := by omega
    obtain ⟨n, hne⟩ : ∃ n, n = (z :: ns).length := ⟨_, rfl⟩
    obtain ⟨l, hl⟩ : ∃ l, l = z :: ns := ⟨_, rfl⟩
    rw [← hl] at hsl hlen hz hz2 hne ⊢
    have hta := slicer_yes
    clear hnil hl hne
    go_enter Tryz.func59, Tryz.ntmps59
    go_wp2_with fail
    refine (unhide hlen).mono ?_
    rintro e w1 ⟨rfl, q, rfl⟩
    go_wp2_with fail
    refine (unhide hsl q).mono ?_
    rintro e w2 ⟨a, c, rfl, h1, h2, h3⟩
    have hh := Lib.hid (And.intro h1 (And.intro h2 (row_drewN h3)))
    clear h1 h2 h3 hsl hlen
    go_wp2_with fail
    go_ret
    exact ⟨a, c, rfl, hh.out⟩

set_option maxRecDepth 100000 in
theorem nodesDir_any (pb : Nat) (ids : List Int) (outs ins : List (List Arc)) (w : World) (hids : ids.length ≤ 1000) (hp : PlainAt w pb ids outs ins) :
    Calls Tryz.prog 170 #[.agg #[.pointer (some ⟨pb, 0, none⟩)]] w
      fun e w' => ∃ ib, e = .returned (.iface 248 (.pointer (some ⟨ib, 0, none⟩))) ∧ IterAt w' w.heap.size w'.heap.size ib 0 ids ∧ Below w.heap.size w w' := by
  have hp1 := hp.below (alloc_below w (.cells #[.pointer (some ⟨pb, 0, none⟩)] 47))
  obtain ⟨ai, ci, h0, hc0⟩ := hp1.row
  have hall := Lib.hid (all_any pb ids ai ci _ (by omega) h0 hc0)
  clear hp hp1 h0 hc0
  go_enter Tryz.func170, Tryz.ntmps170
  go_wp2_with fail
  refine (unhide hall).mono ?_
  rintro e w2 ⟨ib, rfl, hit, hb⟩
  have hfin : Hid (IterAt w2 w.heap.size w2.heap.size ib 0 ids ∧ Below w.heap.size w w2) := ⟨hit.mono (by simp), (alloc_below w _).trans (hb.mono (by simp))⟩
  clear hit hb hall
  go_wp2_with fail
  go_ret
  exact ⟨ib, rfl, hfin.out⟩

set_option maxRecDepth 100000 in
theorem nodesUnd_any (pb : Nat) (ids : List Int) (outs ins : List (List Arc)) (w : World) (hids : ids.length ≤ 1000) (hp : PlainAt w pb ids outs ins) :
    Calls Tryz.prog 182 #[.agg #[.pointer (some ⟨pb, 0, none⟩)]] w
      fun e w' => ∃ ib, e = .returned (.iface 248 (.pointer (some ⟨ib, 0, none⟩))) ∧ IterAt w' w.heap.size w'.heap.size ib 0 ids ∧ Below w.heap.size w w' := by
  have hp1 := hp.below (alloc_below w (.cells #[.pointer (some ⟨pb, 0, none⟩)] 62))
  obtain ⟨ai, ci, h0, hc0⟩ := hp1.row
  have hall := Lib.hid (all_any pb ids ai ci _ (by omega) h0 hc0)
  clear hp hp1 h0 hc0
  go_enter Tryz.func182, Tryz.ntmps182
  go_wp2_with fail
  refine (unhide hall).mono ?_
  rintro e w2 ⟨ib, rfl, hit, hb⟩
  have hfin : Hid (IterAt w2 w.heap.size w2.heap.size ib 0 ids ∧ Below w.heap.size w w2) := ⟨hit.mono (by simp), (alloc_below w _).trans (hb.mono (by simp))⟩
  clear hit hb hall
  go_wp2_with fail
  go_ret
  exact ⟨ib, rfl, hfin.out⟩

end Go.Proofs.YthpjmjohdliohaaGreat

namespace Go.Proofs.YthpjmjohdliohaaGreat
open Go.RowKit

/-- The state as memory holds it: the set beside the stack. -/
structure TM where
  n : Nat
  idx : Int → Nat
  low : Int → Nat
  stk : List Int
  on : List Int
  sccs : List (List Int)

def TS.tm (st : TS) : TM := ⟨st.n, st.idx, st.low, st.stack, st.stack, st.sccs⟩

/-- The block of the struct. -/
def TarBlk (w : World) (tb : Nat) (fn : Value) (n : Nat) (m1 m2 m3 : Nat) (sa sv : Value) : Prop :=
  w.heap[tb]? = some (.cells #[fn, .int .i64 n, .map (some m1), .map (some m2), .map (some m3), sa, sv] 143 (0, 0))

section
variable {w : World} {tb n m1 m2 m3 : Nat} {fn sa sv : Value} (h : TarBlk w tb fn n m1 m2 m3 sa sv)
include h
theorem TarBlk.c0 : w.cell? ⟨tb, 0, none⟩ = some fn := by unfold TarBlk at h; simp [World.cell?, h]
theorem TarBlk.c1 : w.cell? ⟨tb, 1, none⟩ = some (.int .i64 n) := by unfold TarBlk at h; simp [World.cell?, h]
theorem TarBlk.c2 : w.cell? ⟨tb, 2, none⟩ = some (.map (some m1)) := by unfold TarBlk at h; simp [World.cell?, h]
theorem TarBlk.c3 : w.cell? ⟨tb, 3, none⟩ = some (.map (some m2)) := by unfold TarBlk at h; simp [World.cell?, h]
theorem TarBlk.c4 : w.cell? ⟨tb, 4, none⟩ = some (.map (some m3)) := by unfold TarBlk at h; simp [World.cell?, h]
theorem TarBlk.c5 : w.cell? ⟨tb, 5, none⟩ = some sa := by unfold TarBlk at h; simp [World.cell?, h]
theorem TarBlk.c6 : w.cell? ⟨tb, 6, none⟩ = some sv := by unfold TarBlk at h; simp [World.cell?, h]
theorem TarBlk.free (j : Nat) : w.frozen? ⟨tb, j, none⟩ = false := by unfold TarBlk at h; simp [World.frozen?, h]
theorem TarBlk.lt : tb < w.heap.size := lt_of_block h
theorem TarBlk.set1 (k : Nat) : TarBlk (w.setCell ⟨tb, 1, none⟩ (.int .i64 k)) tb fn k m1 m2 m3 sa sv := (heap_set_self h 1 _).trans rfl
theorem TarBlk.set5 (u : Value) : TarBlk (w.setCell ⟨tb, 5, none⟩ u) tb fn n m1 m2 m3 u sv := (heap_set_self h 5 _).trans rfl
theorem TarBlk.set6 (u : Value) : TarBlk (w.setCell ⟨tb, 6, none⟩ u) tb fn n m1 m2 m3 sa u := (heap_set_self h 6 _).trans rfl
end

theorem info_nrow : (Tryz.prog.info? 50).map (fun i => (i.zero, i.size, i.bytes)) = some (some (.slice none 0 0), 1, 24) := by kernel_rfl
theorem one_row (a : Option Addr) (n c : Nat) : ∀ u ∈ [Value.slice a n c], u.oneCell' = true := by
  intro u hu
  rw [List.mem_singleton] at hu
  subst hu; rfl

/-- Lists of nodes, each in a row of its own. -/
def NRows (w : World) (B : Nat) (vs : List Value) (l : List (List Int)) : Prop :=
  vs.length = l.length ∧ ∀ (k : Nat) (v : Value) (c : List Int), vs[k]? = some v → l[k]? = some c → w.ownsRow B 85 1 v c.length (nodes c)

theorem NRows.lt {w : World} {B : Nat} {vs : List Value} {l : List (List Int)} (h : NRows w B vs l) : ∀ j ∈ blks vs, B ≤ j ∧ j < w.heap.size := by
  intro j hj
  obtain ⟨v, hv, hvj⟩ := List.mem_filterMap.1 hj
  obtain ⟨k, hk, rfl⟩ := List.mem_iff_getElem.1 hv
  have hl : k < l.length := by rw [← h.1]; exact hk
  exact (h.2 k _ _ (List.getElem?_eq_getElem hk) (List.getElem?_eq_getElem hl)).lt j hvj

theorem NRows.same {w w' : World} {B : Nat} {vs : List Value} {l : List (List Int)} (h : NRows w B vs l) (hs : ∀ j ∈ blks vs, w'.heap[j]? = w.heap[j]?) : NRows w' B vs l :=
  ⟨h.1, fun k v c hv hc => owns_same (h.2 k v c hv hc) fun j hj => hs j (blks_mem hv hj)⟩

theorem NRows.more {w : World} {B : Nat} {vs : List Value} {l : List (List Int)} {v : Value} {c : List Int} (h : NRows w B vs l) (hv : w.ownsRow B 85 1 v c.length (nodes c)) : NRows w B (vs ++ [v]) (l ++ [c]) := by
  refine ⟨by simp [h.1], fun k v' c' hv' hc' => ?_⟩
  rcases Nat.lt_or_ge k vs.length with hk | hk
  · rw [List.getElem?_append_left hk] at hv'
    rw [List.getElem?_append_left (by rw [← h.1]; exact hk)] at hc'
    exact h.2 k v' c' hv' hc'
  · rw [List.getElem?_append_right hk] at hv'
    rw [List.getElem?_append_right (by rw [← h.1]; exact hk), ← h.1] at hc'
    rcases hj : k - vs.length with _ | m
    · rw [hj] at hv' hc'
      simp at hv' hc'
      subst hv'; subst hc'
      exact hv
    · rw [hj] at hv'; simp at hv'

/-- The blocks that a call turns. -/
def foot (tb m1 m2 m3 : Nat) (sa sv : Value) : List Nat := [tb, m1, m2, m3] ++ sa.ownBlock.toList ++ sv.ownBlock.toList

structure TarAt (w : World) (ids : List Int) (A B tb m1 m2 m3 : Nat) (fn : Value) (t : TM) (sa sv : Value) (vs : List Value) : Prop where
  blk : TarBlk w tb fn t.n m1 m2 m3 sa sv
  i1 : IMapAt w ids m1 t.idx
  i2 : IMapAt w ids m2 t.low
  i3 : ISetAt w ids m3 t.on
  os : w.ownsRow B 85 1 sa t.stk.length (nodes t.stk.reverse)
  ov : w.ownsRow B 50 1 sv t.sccs.length vs
  rows : NRows w B vs t.sccs
  lts : tb < B ∧ m1 < B ∧ m2 < B ∧ m3 < B ∧ B ≤ w.heap.size
  low : A ≤ tb ∧ A ≤ m1 ∧ A ≤ m2 ∧ A ≤ m3 ∧ A ≤ B
  ne : tb ≠ m1 ∧ tb ≠ m2 ∧ tb ≠ m3 ∧ m1 ≠ m2 ∧ m1 ≠ m3 ∧ m2 ≠ m3
  av : ∀ j, sa.ownBlock = some j → sv.ownBlock ≠ some j
  rs : ∀ j ∈ blks vs, sa.ownBlock ≠ some j ∧ sv.ownBlock ≠ some j
  nd : (blks vs).Nodup

section
variable {w w' : World} {ids : List Int} {A B tb m1 m2 m3 : Nat} {fn : Value} {t : TM} {sa sv : Value} {vs : List Value}

theorem mem_foot {j : Nat} : j ∈ foot tb m1 m2 m3 sa sv ↔ j = tb ∨ j = m1 ∨ j = m2 ∨ j = m3 ∨ sa.ownBlock = some j ∨ sv.ownBlock = some j := by
  unfold foot
  simp only [List.mem_append, List.mem_cons, List.not_mem_nil, or_false, Option.mem_toList]
  constructor
  · rintro ((((h | h | h | h)) | h) | h) <;> simp [h]
  · rintro (h | h | h | h | h | h) <;> simp [h]

theorem TarAt.footlow (h : TarAt w ids A B tb m1 m2 m3 fn t sa sv vs) : ∀ k ∈ foot tb m1 m2 m3 sa sv, A ≤ k := by
  intro k hk
  have l := h.low
  rcases mem_foot.1 hk with e | e | e | e | e | e
  · omega
  · omega
  · omega
  · omega
  · have := (h.os.lt k e).1; omega
  · have := (h.ov.lt k e).1; omega

theorem TarAt.footlt (h : TarAt w ids A B tb m1 m2 m3 fn t sa sv vs) : ∀ k ∈ foot tb m1 m2 m3 sa sv, k < w.heap.size := by
  intro k hk
  have l := h.lts
  rcases mem_foot.1 hk with e | e | e | e | e | e
  · omega
  · omega
  · omega
  · omega
  · exact (h.os.lt k e).2
  · exact (h.ov.lt k e).2

/-- Where its blocks stay it stays. -/
theorem TarAt.same (h : TarAt w ids A B tb m1 m2 m3 fn t sa sv vs) (hf : ∀ j ∈ foot tb m1 m2 m3 sa sv ++ blks vs, w'.heap[j]? = w.heap[j]?) (hs : w.heap.size ≤ w'.heap.size) : TarAt w' ids A B tb m1 m2 m3 fn t sa sv vs := by
  have hh : ∀ j, j ∈ foot tb m1 m2 m3 sa sv → w'.heap[j]? = w.heap[j]? := fun j hj => hf j (List.mem_append.2 (.inl hj))
  have l := h.lts
  exact ⟨(hh tb (mem_foot.2 (.inl rfl))).trans h.blk, h.i1.same (hh m1 (mem_foot.2 (by simp))), h.i2.same (hh m2 (mem_foot.2 (by simp))), h.i3.same (hh m3 (mem_foot.2 (by simp))),
    owns_same h.os (fun j hj => hh j (mem_foot.2 (by simp [hj]))), owns_same h.ov (fun j hj => hh j (mem_foot.2 (by simp [hj]))), h.rows.same (fun j hj => hf j (List.mem_append.2 (.inr hj))),
    ⟨l.1, l.2.1, l.2.2.1, l.2.2.2.1, Nat.le_trans l.2.2.2.2 hs⟩, h.low, h.ne, h.av, h.rs, h.nd⟩

theorem TarAt.below (h : TarAt w ids A B tb m1 m2 m3 fn t sa sv vs) (hb : Below w.heap.size w w') : TarAt w' ids A B tb m1 m2 m3 fn t sa sv vs :=
  h.same (fun j hj => hb.block j (by
    rcases List.mem_append.1 hj with e | e
    · exact h.footlt j e
    · exact (h.rows.lt j e).2)) hb.size

/-- A block outside of it is turned. -/
theorem TarAt.grown (h : TarAt w ids A B tb m1 m2 m3 fn t sa sv vs) {r : Option Nat} (hg : w.grownBy w' r) (hr : ∀ j, r = some j → j ∉ foot tb m1 m2 m3 sa sv ++ blks vs) : TarAt w' ids A B tb m1 m2 m3 fn t sa sv vs :=
  h.same (fun j hj => hg.block j (by
    rcases List.mem_append.1 hj with e | e
    · exact h.footlt j e
    · exact (h.rows.lt j e).2) (fun e => hr j e.symm hj)) hg.size

/-- The numbers' map written. -/
theorem TarAt.put1 (h : TarAt w ids A B tb m1 m2 m3 fn t sa sv vs) {f : Int → Nat} (hg : w.grownBy w' (some m1)) (hi : IMapAt w' ids m1 f) : TarAt w' ids A B tb m1 m2 m3 fn { t with idx := f } sa sv vs := by
  have l := h.lts
  have n := h.ne
  have hh : ∀ j, j < w.heap.size → j ≠ m1 → w'.heap[j]? = w.heap[j]? := fun j hj hn => hg.block j hj (fun e => by injection e with e; exact hn e)
  exact ⟨(hh tb (by omega) (by omega)).trans h.blk, hi, h.i2.same (hh m2 (by omega) (by omega)), h.i3.same (hh m3 (by omega) (by omega)),
    owns_same h.os (fun j hj => by have := h.os.lt j hj; exact hh j (by omega) (by omega)), owns_same h.ov (fun j hj => by have := h.ov.lt j hj; exact hh j (by omega) (by omega)), h.rows.same (fun j hj => by have := h.rows.lt j hj; exact hh j (by omega) (by omega)),
    ⟨l.1, l.2.1, l.2.2.1, l.2.2.2.1, Nat.le_trans l.2.2.2.2 hg.size⟩, h.low, h.ne, h.av, h.rs, h.nd⟩

/-- The low links' map written. -/
theorem TarAt.put2 (h : TarAt w ids A B tb m1 m2 m3 fn t sa sv vs) {f : Int → Nat} (hg : w.grownBy w' (some m2)) (hi : IMapAt w' ids m2 f) : TarAt w' ids A B tb m1 m2 m3 fn { t with low := f } sa sv vs := by
  have l := h.lts
  have n := h.ne
  have hh : ∀ j, j < w.heap.size → j ≠ m2 → w'.heap[j]? = w.heap[j]? := fun j hj hn => hg.block j hj (fun e => by injection e with e; exact hn e)
  exact ⟨(hh tb (by omega) (by omega)).trans h.blk, h.i1.same (hh m1 (by omega) (by omega)), hi, h.i3.same (hh m3 (by omega) (by omega)),
    owns_same h.os (fun j hj => by have := h.os.lt j hj; exact hh j (by omega) (by omega)), owns_same h.ov (fun j hj => by have := h.ov.lt j hj; exact hh j (by omega) (by omega)), h.rows.same (fun j hj => by have := h.rows.lt j hj; exact hh j (by omega) (by omega)),
    ⟨l.1, l.2.1, l.2.2.1, l.2.2.2.1, Nat.le_trans l.2.2.2.2 hg.size⟩, h.low, h.ne, h.av, h.rs, h.nd⟩

/-- The set written. -/
theorem TarAt.put3 (h : TarAt w ids A B tb m1 m2 m3 fn t sa sv vs) {s : List Int} (hg : w.grownBy w' (some m3)) (hi : ISetAt w' ids m3 s) : TarAt w' ids A B tb m1 m2 m3 fn { t with on := s } sa sv vs := by
  have l := h.lts
  have n := h.ne
  have hh : ∀ j, j < w.heap.size → j ≠ m3 → w'.heap[j]? = w.heap[j]? := fun j hj hn => hg.block j hj (fun e => by injection e with e; exact hn e)
  exact ⟨(hh tb (by omega) (by omega)).trans h.blk, h.i1.same (hh m1 (by omega) (by omega)), h.i2.same (hh m2 (by omega) (by omega)), hi,
    owns_same h.os (fun j hj => by have := h.os.lt j hj; exact hh j (by omega) (by omega)), owns_same h.ov (fun j hj => by have := h.ov.lt j hj; exact hh j (by omega) (by omega)), h.rows.same (fun j hj => by have := h.rows.lt j hj; exact hh j (by omega) (by omega)),
    ⟨l.1, l.2.1, l.2.2.1, l.2.2.2.1, Nat.le_trans l.2.2.2.2 hg.size⟩, h.low, h.ne, h.av, h.rs, h.nd⟩

/-- The counter written. -/
theorem TarAt.setN (h : TarAt w ids A B tb m1 m2 m3 fn t sa sv vs) (k : Nat) : TarAt (w.setCell ⟨tb, 1, none⟩ (.int .i64 k)) ids A B tb m1 m2 m3 fn { t with n := k } sa sv vs := by
  have l := h.lts
  have n := h.ne
  have hh : ∀ j, j ≠ tb → (w.setCell ⟨tb, 1, none⟩ (.int .i64 k)).heap[j]? = w.heap[j]? := fun j hj => Below.heap_setCell _ _ _ _ hj
  exact ⟨h.blk.set1 k, h.i1.same (hh m1 (by omega)), h.i2.same (hh m2 (by omega)), h.i3.same (hh m3 (by omega)),
    owns_same h.os (fun j hj => by have := h.os.lt j hj; exact hh j (by omega)), owns_same h.ov (fun j hj => by have := h.ov.lt j hj; exact hh j (by omega)), h.rows.same (fun j hj => by have := h.rows.lt j hj; exact hh j (by omega)),
    ⟨l.1, l.2.1, l.2.2.1, l.2.2.2.1, by simp [World.setCell]; exact l.2.2.2.2⟩, h.low, h.ne, h.av, h.rs, h.nd⟩

/-- Another stack, in the row where it lay or in a new one. -/
theorem TarAt.setS (h : TarAt w ids A B tb m1 m2 m3 fn t sa sv vs) {sa' : Value} {stk : List Int} (ho : w.ownsRow B 85 1 sa' stk.length (nodes stk.reverse))
    (hv : ∀ j, sa'.ownBlock = some j → sv.ownBlock ≠ some j ∧ j ∉ blks vs) : TarAt (w.setCell ⟨tb, 5, none⟩ sa') ids A B tb m1 m2 m3 fn { t with stk := stk } sa' sv vs := by
  have l := h.lts
  have n := h.ne
  have hh : ∀ j, j ≠ tb → (w.setCell ⟨tb, 5, none⟩ sa').heap[j]? = w.heap[j]? := fun j hj => Below.heap_setCell _ _ _ _ hj
  exact ⟨h.blk.set5 _, h.i1.same (hh m1 (by omega)), h.i2.same (hh m2 (by omega)), h.i3.same (hh m3 (by omega)),
    owns_same ho (fun j hj => by have := ho.lt j hj; exact hh j (by omega)), owns_same h.ov (fun j hj => by have := h.ov.lt j hj; exact hh j (by omega)), h.rows.same (fun j hj => by have := h.rows.lt j hj; exact hh j (by omega)),
    ⟨l.1, l.2.1, l.2.2.1, l.2.2.2.1, by simp [World.setCell]; exact l.2.2.2.2⟩, h.low, h.ne, fun j hj => (hv j hj).1, fun j hj => ⟨fun e => (hv j e).2 hj, (h.rs j hj).2⟩, h.nd⟩

/-- Another list of lists, with one row more. -/
theorem TarAt.setV (h : TarAt w ids A B tb m1 m2 m3 fn t sa sv vs) {sv' v : Value} {c : List Int} (ho : w.ownsRow B 50 1 sv' (t.sccs ++ [c]).length (vs ++ [v])) (hv : w.ownsRow B 85 1 v c.length (nodes c))
    (h1 : ∀ j, sv'.ownBlock = some j → sa.ownBlock ≠ some j ∧ j ∉ blks vs ∧ v.ownBlock ≠ some j) (h2 : ∀ j, v.ownBlock = some j → sa.ownBlock ≠ some j ∧ j ∉ blks vs) :
    TarAt (w.setCell ⟨tb, 6, none⟩ sv') ids A B tb m1 m2 m3 fn { t with sccs := t.sccs ++ [c] } sa sv' (vs ++ [v]) := by
  have l := h.lts
  have n := h.ne
  have hh : ∀ j, j ≠ tb → (w.setCell ⟨tb, 6, none⟩ sv').heap[j]? = w.heap[j]? := fun j hj => Below.heap_setCell _ _ _ _ hj
  have hbl : blks (vs ++ [v]) = blks vs ++ v.ownBlock.toList := by
    unfold blks
    rw [List.filterMap_append]
    congr 1
  have hr := h.rows.more hv
  refine ⟨h.blk.set6 _, h.i1.same (hh m1 (by omega)), h.i2.same (hh m2 (by omega)), h.i3.same (hh m3 (by omega)),
    owns_same h.os (fun j hj => by have := h.os.lt j hj; exact hh j (by omega)), owns_same ho (fun j hj => by have := ho.lt j hj; exact hh j (by omega)), hr.same (fun j hj => by have := hr.lt j hj; exact hh j (by omega)),
    ⟨l.1, l.2.1, l.2.2.1, l.2.2.2.1, by simp [World.setCell]; exact l.2.2.2.2⟩, h.low, h.ne, fun j hj e => (h1 j e).1 hj, fun j hj => ?_, ?_⟩
  · rw [hbl] at hj
    rcases List.mem_append.1 hj with e | e
    · exact ⟨(h.rs j e).1, fun e' => (h1 j e').2.1 e⟩
    · rw [Option.mem_toList] at e
      exact ⟨fun e' => (h2 j e).1 e', fun e' => (h1 j e').2.2 e⟩
  · rw [hbl, List.nodup_append]
    refine ⟨h.nd, by cases v.ownBlock <;> simp, fun a ha b hb e => ?_⟩
    rw [Option.mem_toList] at hb
    subst e
    exact (h2 a hb).2 ha
/-- Another stack behind an append: its row may have been written, or be new. -/
theorem TarAt.setS' (h : TarAt w ids A B tb m1 m2 m3 fn t sa sv vs) {w1 : World} {sa' : Value} {stk : List Int} (hk : ∀ j, j < w.heap.size → sa.ownBlock ≠ some j → w1.heap[j]? = w.heap[j]?) (hz : w.heap.size ≤ w1.heap.size)
    (ho : w1.ownsRow B 85 1 sa' stk.length (nodes stk.reverse)) (hv : ∀ j, sa'.ownBlock = some j → sv.ownBlock ≠ some j ∧ j ∉ blks vs) : TarAt (w1.setCell ⟨tb, 5, none⟩ sa') ids A B tb m1 m2 m3 fn { t with stk := stk } sa' sv vs := by
  have l := h.lts
  have n := h.ne
  have hos := h.os.lt
  have hov := h.ov.lt
  have hlow : ∀ j, j < B → sa.ownBlock ≠ some j := fun j hj e => by have := (hos j e).1; omega
  have b1 : TarBlk w1 tb fn t.n m1 m2 m3 sa sv := (hk tb (by omega) (hlow tb (by omega))).trans h.blk
  have hh : ∀ j, j ≠ tb → (w1.setCell ⟨tb, 5, none⟩ sa').heap[j]? = w1.heap[j]? := fun j hj => Below.heap_setCell _ _ _ _ hj
  refine ⟨b1.set5 _, h.i1.same ((hh m1 (by omega)).trans (hk m1 (by omega) (hlow m1 (by omega)))), h.i2.same ((hh m2 (by omega)).trans (hk m2 (by omega) (hlow m2 (by omega)))), h.i3.same ((hh m3 (by omega)).trans (hk m3 (by omega) (hlow m3 (by omega)))),
    owns_same ho (fun j hj => by have := ho.lt j hj; exact hh j (by omega)), owns_same h.ov (fun j hj => by have := hov j hj; exact (hh j (by omega)).trans (hk j (by omega) (fun e => h.av j e hj))),
    h.rows.same (fun j hj => by have := h.rows.lt j hj; exact (hh j (by omega)).trans (hk j (by omega) (h.rs j hj).1)),
    ⟨l.1, l.2.1, l.2.2.1, l.2.2.2.1, by simp [World.setCell]; omega⟩, h.low, h.ne, fun j hj => (hv j hj).1, fun j hj => ⟨fun e => (hv j e).2 hj, (h.rs j hj).2⟩, h.nd⟩

/-- A node pushed: behind the append, and the store of its result. -/
theorem TarAt.push {a : Option Addr} {k c : Nat} (h : TarAt w ids A B tb m1 m2 m3 fn t (.slice a k c) sv vs) (x : Int) {o : Obj} {w1 : World} {b1 : Option Addr} {c1 : Nat} (hk : k = t.stk.length) (hg : (w.alloc o).grownBy w1 (Value.slice a k c).ownBlock)
    (ho : w1.ownsRow B 85 1 (.slice b1 (k + 1) c1) (k + 1) (nodes t.stk.reverse ++ [.iface 127 (.int .i64 x)])) (hat : b1 = a ∨ b1 = some ⟨(w.alloc o).heap.size, 0, none⟩) :
    TarBlk w1 tb fn t.n m1 m2 m3 (.slice a k c) sv ∧ Hid (TarAt (w1.setCell ⟨tb, 5, none⟩ (.slice b1 (k + 1) c1)) ids A B tb m1 m2 m3 fn { t with stk := x :: t.stk } (.slice b1 (k + 1) c1) sv vs ∧
      Moves (foot tb m1 m2 m3 (.slice a k c) sv) w (foot tb m1 m2 m3 (.slice b1 (k + 1) c1) sv) (w1.setCell ⟨tb, 5, none⟩ (.slice b1 (k + 1) c1))) := by
  subst hk
  have l := h.lts
  have hos := h.os.lt
  have hz : (w.alloc o).heap.size = w.heap.size + 1 := by simp
  have hkk : ∀ j, j < w.heap.size → (Value.slice a t.stk.length c).ownBlock ≠ some j → w1.heap[j]? = w.heap[j]? := fun j hj hn => by
    rw [hg.block j (by omega) (fun e => hn e.symm), Below.heap_alloc _ _ _ hj]
  have hsz : w.heap.size ≤ w1.heap.size := by have := hg.size; omega
  have hlow : ∀ j, j < B → (Value.slice a t.stk.length c).ownBlock ≠ some j := fun j hj e => by have := (hos j e).1; omega
  have b1' : TarBlk w1 tb fn t.n m1 m2 m3 (.slice a t.stk.length c) sv := (hkk tb (by omega) (hlow tb (by omega))).trans h.blk
  have hnew : ∀ j, (Value.slice b1 (t.stk.length + 1) c1).ownBlock = some j → (Value.slice a t.stk.length c).ownBlock = some j ∨ w.heap.size ≤ j := by
    intro j hj
    rcases hat with rfl | rfl
    · left; cases b1 <;> exact hj
    · right
      simp only [Value.ownBlock] at hj
      injection hj with hj
      omega
  refine ⟨b1', h.setS' hkk hsz (stk := x :: t.stk) (by
    rw [List.reverse_cons]
    unfold nodes at ho ⊢
    rw [List.map_append]
    exact ho) (fun j hj => ?_), ?_⟩
  · rcases hnew j hj with e | e
    · exact ⟨h.av j e, fun hm => (h.rs j hm).1 e⟩
    · exact ⟨fun e' => by have := (h.ov.lt j e').2; omega, fun hm => by have := (h.rows.lt j hm).2; omega⟩
  · refine ⟨hg.os, hg.tape, hg.output, by simp [World.setCell]; omega, fun j hj hn => ?_, fun j hj => ?_⟩
    · have hjt : j ≠ tb := fun e => hn (mem_foot.2 (.inl e))
      rw [Below.heap_setCell _ _ _ _ hjt]
      exact hkk j hj (fun e => hn (mem_foot.2 (by simp [e])))
    · rcases mem_foot.1 hj with e | e | e | e | e | e
      · exact .inl (mem_foot.2 (by simp [e]))
      · exact .inl (mem_foot.2 (by simp [e]))
      · exact .inl (mem_foot.2 (by simp [e]))
      · exact .inl (mem_foot.2 (by simp [e]))
      · rcases hnew j e with e' | e'
        · exact .inl (mem_foot.2 (by simp [e']))
        · exact .inr e'
      · exact .inl (mem_foot.2 (by simp [e]))
/-- The list of lists behind an append: its row may have been written, or be new. -/
theorem TarAt.setV' (h : TarAt w ids A B tb m1 m2 m3 fn t sa sv vs) {w1 : World} {sv' v : Value} {c : List Int} (hk : ∀ j, j < w.heap.size → sv.ownBlock ≠ some j → w1.heap[j]? = w.heap[j]?) (hz : w.heap.size ≤ w1.heap.size)
    (ho : w1.ownsRow B 50 1 sv' (t.sccs ++ [c]).length (vs ++ [v])) (hv : w1.ownsRow B 85 1 v c.length (nodes c))
    (h1 : ∀ j, sv'.ownBlock = some j → sa.ownBlock ≠ some j ∧ j ∉ blks vs ∧ v.ownBlock ≠ some j) (h2 : ∀ j, v.ownBlock = some j → sa.ownBlock ≠ some j ∧ j ∉ blks vs) :
    TarAt (w1.setCell ⟨tb, 6, none⟩ sv') ids A B tb m1 m2 m3 fn { t with sccs := t.sccs ++ [c] } sa sv' (vs ++ [v]) := by
  have l := h.lts
  have n := h.ne
  have hos := h.os.lt
  have hov := h.ov.lt
  have hlow : ∀ j, j < B → sv.ownBlock ≠ some j := fun j hj e => by have := (hov j e).1; omega
  have b1 : TarBlk w1 tb fn t.n m1 m2 m3 sa sv := (hk tb (by omega) (hlow tb (by omega))).trans h.blk
  have hh : ∀ j, j ≠ tb → (w1.setCell ⟨tb, 6, none⟩ sv').heap[j]? = w1.heap[j]? := fun j hj => Below.heap_setCell _ _ _ _ hj
  have hbl : blks (vs ++ [v]) = blks vs ++ v.ownBlock.toList := by
    unfold blks
    rw [List.filterMap_append]
    congr 1
  have hr0 : NRows w1 B vs t.sccs := h.rows.same (fun j hj => by have := h.rows.lt j hj; exact hk j (by omega) (h.rs j hj).2)
  have hr := hr0.more hv
  refine ⟨b1.set6 _, h.i1.same ((hh m1 (by omega)).trans (hk m1 (by omega) (hlow m1 (by omega)))), h.i2.same ((hh m2 (by omega)).trans (hk m2 (by omega) (hlow m2 (by omega)))), h.i3.same ((hh m3 (by omega)).trans (hk m3 (by omega) (hlow m3 (by omega)))),
    owns_same h.os (fun j hj => by have := hos j hj; exact (hh j (by omega)).trans (hk j (by omega) (h.av j hj))), owns_same ho (fun j hj => by have := ho.lt j hj; exact hh j (by omega)), hr.same (fun j hj => by have := hr.lt j hj; exact hh j (by omega)),
    ⟨l.1, l.2.1, l.2.2.1, l.2.2.2.1, by simp [World.setCell]; omega⟩, h.low, h.ne, fun j hj e => (h1 j e).1 hj, fun j hj => ?_, ?_⟩
  · rw [hbl] at hj
    rcases List.mem_append.1 hj with e | e
    · exact ⟨(h.rs j e).1, fun e' => (h1 j e').2.1 e⟩
    · rw [Option.mem_toList] at e
      exact ⟨fun e' => (h2 j e).1 e', fun e' => (h1 j e').2.2 e⟩
  · rw [hbl, List.nodup_append]
    refine ⟨h.nd, by cases v.ownBlock <;> simp, fun a ha b hb e => ?_⟩
    rw [Option.mem_toList] at hb
    subst e
    exact (h2 a hb).2 ha

/-- A list told: behind the append, and the store of its result. -/
theorem TarAt.emit {a : Option Addr} {k c : Nat} (h : TarAt w ids A B tb m1 m2 m3 fn t sa (.slice a k c) vs) {v : Value} {cl : List Int} {o : Obj} {w1 : World} {b1 : Option Addr} {c1 : Nat} (hk : k = t.sccs.length) (hv : w.ownsRow B 85 1 v cl.length (nodes cl))
    (hd : ∀ j, v.ownBlock = some j → j ∉ foot tb m1 m2 m3 sa (.slice a k c) ∧ j ∉ blks vs) (hg : (w.alloc o).grownBy w1 (Value.slice a k c).ownBlock)
    (ho : w1.ownsRow B 50 1 (.slice b1 (k + 1) c1) (k + 1) (vs ++ [v])) (hat : b1 = a ∨ b1 = some ⟨(w.alloc o).heap.size, 0, none⟩) :
    TarBlk w1 tb fn t.n m1 m2 m3 sa (.slice a k c) ∧ Hid (TarAt (w1.setCell ⟨tb, 6, none⟩ (.slice b1 (k + 1) c1)) ids A B tb m1 m2 m3 fn { t with sccs := t.sccs ++ [cl] } sa (.slice b1 (k + 1) c1) (vs ++ [v]) ∧
      Moves (foot tb m1 m2 m3 sa (.slice a k c)) w (foot tb m1 m2 m3 sa (.slice b1 (k + 1) c1)) (w1.setCell ⟨tb, 6, none⟩ (.slice b1 (k + 1) c1))) := by
  subst hk
  have l := h.lts
  have hov := h.ov.lt
  have hz : (w.alloc o).heap.size = w.heap.size + 1 := by simp
  have hkk : ∀ j, j < w.heap.size → (Value.slice a t.sccs.length c).ownBlock ≠ some j → w1.heap[j]? = w.heap[j]? := fun j hj hn => by
    rw [hg.block j (by omega) (fun e => hn e.symm), Below.heap_alloc _ _ _ hj]
  have hsz : w.heap.size ≤ w1.heap.size := by have := hg.size; omega
  have hlow : ∀ j, j < B → (Value.slice a t.sccs.length c).ownBlock ≠ some j := fun j hj e => by have := (hov j e).1; omega
  have b1' : TarBlk w1 tb fn t.n m1 m2 m3 sa (.slice a t.sccs.length c) := (hkk tb (by omega) (hlow tb (by omega))).trans h.blk
  have hnew : ∀ j, (Value.slice b1 (t.sccs.length + 1) c1).ownBlock = some j → (Value.slice a t.sccs.length c).ownBlock = some j ∨ w.heap.size ≤ j := by
    intro j hj
    rcases hat with rfl | rfl
    · left; cases b1 <;> exact hj
    · right
      simp only [Value.ownBlock] at hj
      injection hj with hj
      omega
  have hvf : ∀ j, v.ownBlock = some j → (Value.slice a t.sccs.length c).ownBlock ≠ some j ∧ sa.ownBlock ≠ some j := fun j hj => ⟨fun e => (hd j hj).1 (mem_foot.2 (by simp [e])), fun e => (hd j hj).1 (mem_foot.2 (by simp [e]))⟩
  refine ⟨b1', h.setV' hkk hsz (by simpa using ho) (owns_same hv fun j hj => hkk j (hv.lt j hj).2 (hvf j hj).1) (fun j hj => ?_) (fun j hj => ⟨(hvf j hj).2, (hd j hj).2⟩), ?_⟩
  · rcases hnew j hj with e | e
    · exact ⟨fun e' => h.av j e' e, fun hm => (h.rs j hm).2 e, fun e' => (hvf j e').1 e⟩
    · exact ⟨fun e' => by have := (h.os.lt j e').2; omega, fun hm => by have := (h.rows.lt j hm).2; omega, fun e' => by have := (hv.lt j e').2; omega⟩
  · refine ⟨hg.os, hg.tape, hg.output, by simp [World.setCell]; omega, fun j hj hn => ?_, fun j hj => ?_⟩
    · have hjt : j ≠ tb := fun e => hn (mem_foot.2 (.inl e))
      rw [Below.heap_setCell _ _ _ _ hjt]
      exact hkk j hj (fun e => hn (mem_foot.2 (by simp [e])))
    · rcases mem_foot.1 hj with e | e | e | e | e | e
      · exact .inl (mem_foot.2 (by simp [e]))
      · exact .inl (mem_foot.2 (by simp [e]))
      · exact .inl (mem_foot.2 (by simp [e]))
      · exact .inl (mem_foot.2 (by simp [e]))
      · exact .inl (mem_foot.2 (by simp [e]))
      · rcases hnew j e with e' | e'
        · exact .inl (mem_foot.2 (by simp [e']))
        · exact .inr e'

/-- The top of the stack taken off. -/
theorem TarAt.pop {g k c : Nat} {y : Int} {stk : List Int} (h : TarAt w ids A B tb m1 m2 m3 fn t (.slice (some ⟨g, 0, none⟩) k c) sv vs) (hs : t.stk = y :: stk) (hk : k = t.stk.length) :
    w.cell? ⟨g, k - 1, none⟩ = some (.iface 127 (.int .i64 y)) ∧ k ≤ c ∧ TarAt (w.setCell ⟨tb, 5, none⟩ (.slice (some ⟨g, 0, none⟩) (k - 1) c)) ids A B tb m1 m2 m3 fn { t with stk := stk } (.slice (some ⟨g, 0, none⟩) (k - 1) c) sv vs := by
  subst hk
  have hos := h.os
  have hl : t.stk.length = stk.length + 1 := by rw [hs]; simp
  have hrev : nodes t.stk.reverse = nodes stk.reverse ++ [.iface 127 (.int .i64 y)] := by
    rw [hs, List.reverse_cons]; unfold nodes; rw [List.map_append]; rfl
  have hcap : t.stk.length ≤ c := by
    obtain ⟨_, _, _, _, h4⟩ := owns_at hos (by omega)
    exact h4
  have hcut := owns_cut hos (i := t.stk.length - 1) (by omega)
  rw [hrev, Nat.mul_one, List.take_left' (by rw [nodes_length, List.length_reverse]; omega)] at hcut
  refine ⟨owns_cell hos ?_, hcap, h.setS (stk := stk) ?_ (fun j hj => ⟨h.av j hj, fun hm => (h.rs j hm).1 hj⟩)⟩
  · rw [hrev, List.getElem?_append_right (by rw [nodes_length, List.length_reverse]; omega), nodes_length, List.length_reverse]
    have : t.stk.length - 1 - stk.length = 0 := by omega
    rw [this]; rfl
  · rw [show stk.length = t.stk.length - 1 by omega]; exact hcut

theorem TarAt.on_ext (h : TarAt w ids A B tb m1 m2 m3 fn t sa sv vs) {s : List Int} (e : ∀ x, x ∈ t.on ↔ x ∈ s) : TarAt w ids A B tb m1 m2 m3 fn { t with on := s } sa sv vs :=
  ⟨h.blk, h.i1, h.i2, h.i3.ext e, h.os, h.ov, h.rows, h.lts, h.low, h.ne, h.av, h.rs, h.nd⟩
end
end Go.Proofs.YthpjmjohdliohaaGreat
