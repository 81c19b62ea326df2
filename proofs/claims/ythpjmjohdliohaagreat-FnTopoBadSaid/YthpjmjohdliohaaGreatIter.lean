/- Iterators of nodes: ends, NewOrderedNodes, Next, Node. -/
import Derived.Test.YthpjmjohdliohaaGreatIntsA
import Derived.Test.YthpjmjohdliohaaGreatSetPl
import Derived.Deep.AppendLies
namespace Go.Proofs.YthpjmjohdliohaaGreat
open Go.RowKit

/-- The value of a node. -/
def nodev (x : Int) : Value := .iface 127 (.int .i64 x)
def nodes (zs : List Int) : List Value := zs.map nodev
theorem nodes_length (zs : List Int) : (nodes zs).length = zs.length := by simp [nodes]
theorem nodes_get (zs : List Int) (j : Nat) (hj : j < zs.length) : (nodes zs)[j]? = some (nodev zs[j]) := by simp [nodes, hj]

/-- The ids at the ends of arcs. -/
def endsOf (ids : List Int) (l : List Arc) : List Int := l.map fun a => ids.getD a.1 0

theorem one_node (x : Int) : ∀ u ∈ [Value.iface 127 (.int .i64 x)], u.oneCell' = true := by
  intro u hu
  rw [List.mem_singleton] at hu
  subst hu; rfl

theorem run_make_cap {P : Program} (t e : TypeId) (z : Value) (bytes : Nat) (ht : P.underlying t = some (.slice e)) (hinfo : (P.info? e).map (fun i => (i.zero, i.size, i.bytes)) = some (some z, 1, bytes)) (hz1 : z.cells = #[z])
    (n : Nat) (hbytes : bytes * n ≤ 281474976710656) (h63 : n ≤ 9223372036854775807) (w : World) :
    (Instr.makeSlice t (.int .i64 0) (.int .i64 (n : Int))).run P w = .ok (.slice (some ⟨w.heap.size, 0, none⟩) 0 n) (w.alloc (.cells (madeCells #[z] n) e)) := by
  obtain ⟨i, hi, hz, hs, hb⟩ := info_parts hinfo
  have hb' : (i.bytes : Int) * (n : Int) ≤ 281474976710656 := by
    have h : ((i.bytes * n : Nat) : Int) ≤ 281474976710656 := by rw [hb]; omega
    rwa [Int.natCast_mul] at h
  have hr := run_make (P := P) w t e i z ht hi hz .i64 .i64 0 n (by omega) (by omega) hb' (by omega)
  simp only [Int.toNat_natCast, hs, Nat.mul_one, hz1] at hr
  exact hr

theorem heap_set_self {w : World} {b : Nat} {cur : Array Value} {e : TypeId} {fr : Nat × Nat} (h : w.heap[b]? = some (.cells cur e fr)) (o : Nat) (v : Value) : (w.setCell ⟨b, o, none⟩ v).heap[b]? = some (.cells (cur.setIfInBounds o v) e fr) := by
  simp [World.setCell, Array.getElem?_modify, h]

theorem newOrdered_any (a : Option Addr) (n c : Nat) (w : World) : Calls Tryz.prog 176 #[.slice a n c] w
    fun e w' => e = .returned (.pointer (some ⟨w.heap.size, 0, none⟩)) ∧ w' = w.alloc (.cells #[.int .i64 (-1), .slice a n c] 251) := by
  go_enter Tryz.func176, Tryz.ntmps176
  go_wp2
  go_ret
  exact ⟨rfl, rfl⟩

/-- An iterator of which k nodes have been handed out. -/
def IterAt (w : World) (B E ib k : Nat) (ns : List Int) : Prop :=
  B ≤ ib ∧ ib < E ∧ ∃ a c, (∀ j, (Value.slice a ns.length c).ownBlock = some j → j < E) ∧ w.heap[ib]? = some (.cells #[.int .i64 ((k : Int) - 1), .slice a ns.length c] 251 (0, 0)) ∧ w.ownsRow B 85 1 (.slice a ns.length c) ns.length (nodes ns) ∧ (Value.slice a ns.length c).ownBlock ≠ some ib

theorem nextTest (k n : Nat) (hk : k ≤ n) (hn : n ≤ 1048576) : IntKind.u64.wrap (IntKind.u64.wrap ((k : Int) - 1) + 1) = (k : Int) ∧ IntKind.u64.wrap (n : Int) = (n : Int) := by
  simp only [IntKind.wrap, IntKind.bits, IntKind.signed]
  constructor <;> simp <;> omega

set_option maxHeartbeats 1000000 in
theorem next_any (B E ib k : Nat) (ns : List Int) (w : World) (hk : k ≤ ns.length) (hn : ns.length ≤ 1048576) (hi : IterAt w B E ib k ns) :
    Calls Tryz.prog 198 #[.pointer (some ⟨ib, 0, none⟩)] w
      fun e w' => e = .returned (.bool (decide (k < ns.length))) ∧ w.grownBy w' (some ib) ∧ (k < ns.length → IterAt w' B E ib (k + 1) ns) := by
  obtain ⟨hB, hE, a, c, hrE, hb, hown, hne⟩ := hi
  have c0 : w.cell? ⟨ib, 0, none⟩ = some (.int .i64 ((k : Int) - 1)) := by simp [World.cell?, hb]
  have c1 : w.cell? ⟨ib, 1, none⟩ = some (.slice a ns.length c) := by simp [World.cell?, hb]
  have f0 : w.frozen? ⟨ib, 0, none⟩ = false := by simp [World.frozen?, hb]
  obtain ⟨t1, t2⟩ := nextTest k ns.length hk hn
  go_enter Tryz.func198, Tryz.ntmps198
  go_wp2
  go_quiet (fail)
  have hg : ∀ q v, w.grownBy ((w.drewN q).setCell ⟨ib, 0, none⟩ v) (some ib) := fun q v =>
    ⟨rfl, rfl, rfl, by rw [size_setCell]; exact Nat.le_refl _, fun j _ hj => Below.heap_setCell (w.drewN q) _ _ _ (by intro e; exact hj (by rw [e]))⟩
  have hit : k < ns.length → ∀ q, IterAt ((w.drewN q).setCell ⟨ib, 0, none⟩ (.int .i64 (k : Int))) B E ib (k + 1) ns := fun _ q => by
    refine ⟨hB, hE, a, c, hrE, ?_, hown.kept (hg q _) (.inr hne), hne⟩
    rw [show ((k + 1 : Nat) : Int) - 1 = (k : Int) by omega]
    have hb' : (w.drewN q).heap[ib]? = some (.cells #[.int .i64 ((k : Int) - 1), .slice a ns.length c] 251 (0, 0)) := hb
    exact (heap_set_self hb' 0 _).trans rfl
  have hgh := Lib.hid hg
  have hih := Lib.hid hit
  clear hg hit hb hown hB hrE
  by_cases hlt : k < ns.length
  · have e1 : IntKind.i64.wrap ((k : Int) - 1 + 1) = (k : Int) := by rw [IntKind.wrap_i64]; omega
    go_wp2
    go_ret
    exact ⟨ret_bool (by simp [hlt]), hgh.out _ _, fun h => hih.out h _⟩
  · go_wp2
    go_ret
    exact ⟨ret_bool (by simp [hlt]), hgh.out _ _, fun h => absurd h hlt⟩

theorem ends_any (pb : Nat) (ids : List Int) (ai : Option Addr) (ci : Nat) (a : Option Addr) (n cap : Nat) (l : List Arc) (w : World) (hl : n = l.length) (hsm : l.length ≤ 1048576) (hids : ids.length ≤ 1048576)
    (h0 : w.cell? ⟨pb, 0, none⟩ = some (.slice ai ids.length ci)) (hc0 : Cells w ai (ints ids)) (hc : Cells w a (arcCells l)) (hok : ∀ x ∈ l, x.1 < ids.length) :
    Calls Tryz.prog 172 #[.pointer (some ⟨pb, 0, none⟩), .slice a n cap] w
      fun e w' => ∃ ib, e = .returned (.iface 248 (.pointer (some ⟨ib, 0, none⟩))) ∧ IterAt w' w.heap.size w'.heap.size ib 0 (endsOf ids l) ∧ Below w.heap.size w w' := by
  subst hl
  have hmk := fun W => run_make_cap (P := Tryz.prog) 50 85 .nilIface 16 Tryz.underlying50 info_node rfl l.length (by omega) (by omega) W
  go_enter Tryz.func172, Tryz.ntmps172
  go_wp2
  have hb1 : Below w.heap.size w (w.alloc (.cells (madeCells #[.nilIface] l.length) 85)) := alloc_below w _
  have own1 : (w.alloc (.cells (madeCells #[.nilIface] l.length) 85)).ownsRow w.heap.size 85 1 (.slice (some ⟨w.heap.size, 0, none⟩) 0 l.length) 0 [] :=
    World.ownsRow_made w _ _ (Nat.le_refl _) (by unfold maxLen; omega) (by rw [size_madeCells, Nat.mul_one])
  obtain ⟨w1, hw1⟩ : ∃ w1, w1 = w.alloc (.cells (madeCells #[.nilIface] l.length) 85) := ⟨_, rfl⟩
  rw [← hw1] at hb1 own1 ⊢
  clear hw1 hmk
  have h0' := Lib.hid h0
  have hc' := Lib.hid hc
  have hc0' := Lib.hid hc0
  have hok' := Lib.hid hok
  clear h0 hc hc0 hok
  go_loopw [5, 13] (fun s i wr => ∃ (k : Nat) (g c : Nat), k ≤ l.length ∧ i = .int .i64 k ∧ s = .slice (some ⟨g, 0, none⟩) k c ∧ wr.ownsRow w.heap.size 85 1 (.slice (some ⟨g, 0, none⟩) k c) k (nodes (endsOf ids (l.take k))) ∧
    Below w.heap.size w wr) (fun _ i _ => l.length - (intOf i).toNat)
  case atStart => exact ⟨0, w.heap.size, l.length, Nat.zero_le _, rfl, rfl, own1, hb1⟩
  case round =>
    obtain ⟨k, g, c, hk, rfl, rfl, hown, hb⟩ := hrel
    by_cases hlt : k < l.length
    · obtain ⟨b, off, rfl, hbl, hr⟩ := ((unhide hc').below hb).at (by rw [arcCells_length]; omega)
      obtain ⟨e1, e2⟩ := arc_cells hr hlt
      have hx := (unhide hok') l[k] (List.getElem_mem hlt)
      obtain ⟨b3, off3, rfl, hbl3, hr3⟩ := ((unhide hc0').below hb).at (by rw [ints_length]; omega)
      have e3 := hr3 _ _ (ints_get ids _ hx)
      have e3' : ∀ o, (wr.alloc o).cell? ⟨b3, off3 + l[k].1, none⟩ = _ := fun o => cell_alloc e3 o
      have c0 := cell_below hb (unhide h0')
      have c0' : ∀ o, (wr.alloc o).cell? ⟨pb, 0, none⟩ = _ := fun o => cell_alloc c0 o
      have hst := store_float Tryz.prog
      clear hr hr3 own1 hb1
      have ho := Lib.hid (fun o o' => show (((wr.alloc o).alloc o').drew).ownsRow w.heap.size 85 1 (.slice (some ⟨g, 0, none⟩) k c) k (nodes (endsOf ids (l.take k))) from (hown.alloc o).alloc o')
      have hnew := Lib.hid (fun o x => show ∀ (j : Nat) u, [x][j]? = some u → (((wr.alloc o).alloc (.cells #[x] 85)).drew).cell? ((⟨wr.heap.size + 1, 0, none⟩ : Addr).add j) = some u from by
        have := new_one (wr.alloc o) x 85
        rwa [show (wr.alloc o).heap.size = wr.heap.size + 1 by simp] at this)
      have hfin := Lib.hid (fun o o' g2 c2 w2 (h2 : w2.ownsRow w.heap.size 85 1 (.slice (some ⟨g2, 0, none⟩) (k + 1) c2) (k + 1) (nodes (endsOf ids (l.take k)) ++ [.iface 127 (.int .i64 ids[l[k].1])])) (hg : (((wr.alloc o).alloc o').drew).grownBy w2 (some g)) =>
        show w2.ownsRow w.heap.size 85 1 (.slice (some ⟨g2, 0, none⟩) (k + 1) c2) (k + 1) (nodes (endsOf ids (l.take (k + 1)))) ∧ Below w.heap.size w w2 from by
          have hsz := hb.size
          have hgB := (hown.lt g rfl).1
          refine ⟨?_, (((hb.alloc (by omega) o).alloc (by simp; omega) o').drew).grown hg (by show _ ≤ ((wr.alloc _).alloc _).heap.size; simp; omega) (fun j e => by injection e with e; omega)⟩
          have e : nodes (endsOf ids (l.take (k + 1))) = nodes (endsOf ids (l.take k)) ++ [.iface 127 (.int .i64 ids[l[k].1])] := by
            rw [List.take_succ_eq_append_getElem hlt]
            unfold nodes endsOf
            rw [List.map_append, List.map_append]
            simp [nodev, hx]
          rw [e]; exact h2)
      obtain ⟨i0, hi0, hz0, hz1, hz2⟩ := info_parts info_node
      have hBs := hb.size
      clear hown hb
      go_wp2
      go_region_law (refine step_append_lies _ rfl (.tmp 17) (.tmp 27) 50 rfl w.heap.size 85 i0 .nilIface 1 16 Tryz.underlying50 hi0 hz0 hz1 hz2 rfl (by omega) (.slice (some ⟨g, 0, none⟩) k c) k (nodes (endsOf ids (l.take k))) rfl (unhide ho _ _) ⟨wr.heap.size + 1, 0, none⟩ 1 1 _ rfl rfl (unhide hnew _ _) (one_node _) (by omega) (by unfold maxLen; omega) (by omega) (by show _ ≤ ((wr.alloc _).alloc _).heap.size; simp; omega) _ rfl ?_; intro g2 c2 w2 hown2 hg2 hat2 hlt2)
      all_goals
        have hf := Lib.hid (unhide hfin _ _ _ _ _ hown2 hg2)
        clear hown2 hg2 hat2 hlt2
        go_wp2
        go_roundw
        case rel => exact ⟨k + 1, g2, c2, by omega, by go_num, rfl, hf.out.1, hf.out.2⟩
        case measure => simp [intOf]; omega
    · rw [take_all hk hlt] at hown
      have hkl : k = l.length := by omega
      subst hkl
      have hBs := hb.size
      have hfin : Hid (IterAt (wr.alloc (.cells #[.int .i64 (-1), .slice (some ⟨g, 0, none⟩) l.length c] 251)) w.heap.size (wr.alloc (.cells #[.int .i64 (-1), .slice (some ⟨g, 0, none⟩) l.length c] 251)).heap.size wr.heap.size 0 (endsOf ids l) ∧ Below w.heap.size w (wr.alloc (.cells #[.int .i64 (-1), .slice (some ⟨g, 0, none⟩) l.length c] 251))) := by
        have hel : (endsOf ids l).length = l.length := by simp [endsOf]
        have hgl := (hown.lt g rfl).2
        refine ⟨⟨by omega, by simp, some ⟨g, 0, none⟩, c, fun j hj => ?_, ?_, ?_, ?_⟩, hb.alloc (by omega) _⟩
        · simp only [Value.ownBlock] at hj; injection hj with hj; simp; omega
        · rw [hel]; exact heap_alloc_new wr _
        · rw [hel]; exact hown.alloc _
        · rw [hel]; simp only [Value.ownBlock]; intro e; injection e with e; omega
      clear hown hb own1 hb1
      go_wp2_with (go_at_call 176; refine (newOrdered_any _ _ _ _).mono ?_; rintro e w' ⟨rfl, rfl⟩)
      go_ret
      exact ⟨_, rfl, hfin.out.1, hfin.out.2⟩
end Go.Proofs.YthpjmjohdliohaaGreat
