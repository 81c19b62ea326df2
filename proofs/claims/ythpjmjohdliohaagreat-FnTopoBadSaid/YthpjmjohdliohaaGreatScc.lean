/- topo.TarjanSCC: the walk. -/
import Derived.Test.YthpjmjohdliohaaGreatTarjan
import Derived.Test.YthpjmjohdliohaaGreatTabsS
import Derived.WalkSpells
import Derived.Laws.EntriesVeiled
namespace Go.Proofs.YthpjmjohdliohaaGreat
open Go.RowKit

theorem order_nil (w : World) : (binOp .eql 83 .nilFunc .nilFunc).run Tryz.prog w = .ok (.bool true) w := by kernel_rfl

theorem run_makeMap_hint {P : Program} (t kt et : TypeId) (ht : P.underlying t = some (.map kt et)) (n : Int) (w : World) :
    (Instr.makeMap t (some (.int .i64 n))).run P w = .ok (.map (some w.heap.size)) (w.alloc (.map #[] 0)) := by
  have h := run_makeMap (P := P) t w
  unfold Instr.makeMap at h ⊢
  simp [run_underlying ht, asInt, asIntOf, Result.andThen] at h ⊢
  try exact h

/-- What the function of components gives. -/
def SccPost (w : World) (l : List (List Int)) (e : Ending) (w' : World) : Prop :=
  ∃ (a : Option Addr) (c B : Nat) (vs : List Value), e = .returned (.slice a l.length c) ∧ w.heap.size ≤ B ∧ w'.ownsRow B 50 1 (.slice a l.length c) l.length vs ∧ NRows w' B vs l ∧
    (∀ j ∈ blks vs, (Value.slice a l.length c).ownBlock ≠ some j) ∧ (blks vs).Nodup ∧ B ≤ w'.heap.size ∧ Below w.heap.size w w'

/-- The struct and its maps, new. -/
def TarNew (w3 : World) (gb : Nat) (s7 : Value) (wx : World) : Prop :=
  ∃ tb m1 m2 m3, s7 = .pointer (some ⟨tb, 0, none⟩) ∧ wx.heap[tb]? = some (.cells #[.func (.func 67) #[] #[.pointer (some ⟨gb, 0, none⟩)], .int .i64 0, .map (some m1), .map (some m2), .map (some m3), .slice none 0 0, .slice none 0 0] 143 (0, 0)) ∧
    wx.heap[m1]? = some (.map #[] 0) ∧ wx.heap[m2]? = some (.map #[] 0) ∧ wx.heap[m3]? = some (.map #[] 0) ∧ w3.heap.size ≤ tb ∧ w3.heap.size ≤ m1 ∧ w3.heap.size ≤ m2 ∧ w3.heap.size ≤ m3 ∧ m1 ≠ m2 ∧ m1 ≠ m3 ∧ m2 ≠ m3 ∧ Below w3.heap.size w3 wx

theorem tar_ex {w3 wx : World} {gb tb m1 m2 m3 : Nat} (h0 : wx.heap[tb]? = some (.cells #[.func (.func 67) #[] #[.pointer (some ⟨gb, 0, none⟩)], .int .i64 0, .map (some m1), .map (some m2), .map (some m3), .slice none 0 0, .slice none 0 0] 143 (0, 0)))
    (h1 : wx.heap[m1]? = some (.map #[] 0)) (h2 : wx.heap[m2]? = some (.map #[] 0)) (h3 : wx.heap[m3]? = some (.map #[] 0)) (l0 : w3.heap.size ≤ tb) (l1 : w3.heap.size ≤ m1) (l2 : w3.heap.size ≤ m2) (l3 : w3.heap.size ≤ m3) (n1 : m1 ≠ m2) (n2 : m1 ≠ m3) (n3 : m2 ≠ m3) (hb : Below w3.heap.size w3 wx) :
    TarNew w3 gb (.pointer (some ⟨tb, 0, none⟩)) wx := ⟨tb, m1, m2, m3, rfl, h0, h1, h2, h3, l0, l1, l2, l3, n1, n2, n3, hb⟩

set_option maxRecDepth 100000 in
set_option maxHeartbeats 4000000 in
theorem stab_any (pb : Nat) (ids : List Int) (outs ins : List (List Arc)) (w : World) (hids : ids.length ≤ 1000) (h64 : ∀ x ∈ ids, In64 x) (hp : PlainAt w pb ids outs ins) :
    Calls Tryz.prog 42 #[.iface 47 (.agg #[.pointer (some ⟨pb, 0, none⟩)]), .nilFunc] w (SccPost w (sccsOf (succOf ids outs) ids)) := by
  have hon := order_nil
  have hmk := @run_makeMap Tryz.prog
  have hmh := fun (n : Int) (W : World) => run_makeMap_hint (P := Tryz.prog) 141 2 3 Tryz.underlying141 n W
  obtain ⟨w1, hw1⟩ : ∃ w1, w1 = (w.alloc (.cells #[.iface 47 (.agg #[.pointer (some ⟨pb, 0, none⟩)])] 81)).alloc (.cells #[.nilFunc] 83) := ⟨_, rfl⟩
  have hb1 : Below w.heap.size w w1 := by rw [hw1]; exact (alloc_below w _).trans ((alloc_below _ _).mono (by simp))
  have hz1 : w1.heap.size = w.heap.size + 2 := by rw [hw1]; simp
  have hp1 := hp.below hb1
  have hg1 : w1.cell? ⟨w.heap.size, 0, none⟩ = some (.iface 47 (.agg #[.pointer (some ⟨pb, 0, none⟩)])) := by rw [hw1]; simp
  have hq1 : w1.cell? ⟨w.heap.size + 1, 0, none⟩ = some .nilFunc := by rw [hw1]; simp
  have hK : Hid (∀ wr, Below w1.heap.size w1 wr → Below w.heap.size w wr ∧ PlainAt wr pb ids outs ins ∧ wr.cell? ⟨w.heap.size, 0, none⟩ = some (.iface 47 (.agg #[.pointer (some ⟨pb, 0, none⟩)])) ∧ wr.cell? ⟨w.heap.size + 1, 0, none⟩ = some .nilFunc) :=
    fun wr h => ⟨hb1.trans (h.mono (by omega)), hp1.below h, cell_below h hg1, cell_below h hq1⟩
  have hnod := nodesDir_any pb ids outs ins w1 hids hp1
  rw [hw1] at hnod
  have hnodh := Lib.hid hnod
  have hw1h := Lib.hid hw1
  have hz1h := Lib.hid hz1
  have hids' := Lib.hid (succOf_ids hp)
  have hslen := Lib.hid (fun x (_ : x ∈ ids) => succ_len hp x)
  clear hw1 hz1 hb1 hp1 hg1 hq1 hnod hp
  go_enter Tryz.func42, Tryz.ntmps42
  go_wp2_with (go_at_call 170; refine (unhide hnodh).mono ?_; rintro e w2 ⟨ib, rfl, hit, hb2⟩)
  rw [← hw1h.out] at hit hb2
  have hno := Lib.hid (nodesOf_any w1.heap.size w2.heap.size ib ids w2 (by omega) hit)
  have hib : w1.heap.size ≤ ib := hit.1
  have hb2h := Lib.hid hb2
  clear hit hb2 hnodh
  refine (unhide hno).mono ?_
  rintro e w3 ⟨an, cn, rfl, hown, _, hg3⟩
  have hb3 : Below w1.heap.size w1 w3 := hb2h.out.grown hg3 hb2h.out.size (fun k hk => by injection hk with hk; omega)
  have hb3h := Lib.hid hb3
  have hownh := Lib.hid hown
  obtain ⟨_, _, k0, k1⟩ := hK.out w3 hb3
  clear hno hown hg3 hb3 hib hb2h
  go_wp2_with fail
  go_cut [7] (fun s7 wx => TarNew w3 w.heap.size s7 wx)
  case first =>
    go_region_held3 (fun _ => True) (trivial) (fail)
    all_goals go_wp2_with fail
    all_goals go_meet
    all_goals
      apply tar_ex
      all_goals first
        | with_reducible exact (four_new _ _ _ _ _).1 | with_reducible exact (four_new _ _ _ _ _).2.1 | with_reducible exact (four_new _ _ _ _ _).2.2.1 | with_reducible exact (four_new _ _ _ _ _).2.2.2.1 | with_reducible exact (four_new _ _ _ _ _).2.2.2.2
        | omega
  case rest =>
  obtain ⟨tb, m1, m2, m3, rfl, g0, g1, g2, g3, q0, q1, q2, q3, n1, n2, n3, hbc⟩ := hcut
  have hT0 := tar_new (ids := ids) (A := w3.heap.size) g0 g1 g2 g3 q0 q1 q2 q3 n1 n2 n3
  have hb3c : Below w1.heap.size w1 wc := hb3h.out.trans (hbc.mono hb3h.out.size)
  have hnode : Hid (∀ wr, Below w3.heap.size w3 wr → Cells wr an (nodes ids)) := fun wr hbr => by
    have hown := hownh.out
    obtain ⟨aa, cc, e', _, hc, _⟩ := owns_cells hown
    injection e' with e1' _ _
    rw [e1']; exact hc.below hbr
  have hsucc : SuccAt w3 w3.heap.size ids (succOf ids outs) w.heap.size := fun W x hb hx => by
    have hb' : Below w1.heap.size w1 W := hb3h.out.trans (hb.mono hb3h.out.size)
    obtain ⟨_, hpW, hgW, _⟩ := hK.out W hb'
    exact succClo_any w.heap.size pb ids outs ins x W hids hgW hpW hx
  have hT0h := Lib.hid hT0
  have hbch := Lib.hid hbc
  have hsuch := Lib.hid hsucc
  have h64h := Lib.hid h64
  obtain ⟨BB, hBB⟩ : ∃ BB, BB = wc.heap.size := ⟨_, rfl⟩
  have hBBh := Lib.hid hBB
  have hBl : Hid (w.heap.size ≤ BB) := by unfold Hid; rw [hBB]; have := hb3c.size; have := hz1h.out; omega
  rw [← hBB] at hT0
  have hT00 : Hid (TarAt wc ids w3.heap.size BB tb m1 m2 m3 (fnv w.heap.size) (tAll (succOf ids outs) ids.length (ids.take 0) tStart).tm (.slice none 0 0) (.slice none 0 0) []) := hT0
  clear g0 g1 g2 g3 q0 q1 q2 q3 n1 n2 n3 hT0 hT0h hb3c hsucc hbc h64 hBB k0 k1 hon hmk hmh
  go_wp2_with fail
  go_loopw [9, 33] (fun _ i wr => ∃ (k : Nat) (sa sv : Value) (vs : List Value), k ≤ ids.length ∧ i = .int .i64 k ∧ TarAt wr ids w3.heap.size BB tb m1 m2 m3 (fnv w.heap.size) (tAll (succOf ids outs) ids.length (ids.take k) tStart).tm sa sv vs ∧ Below w3.heap.size w3 wr) (fun _ i _ => ids.length - (intOf i).toNat)
  case atStart => exact ⟨0, _, _, _, Nat.zero_le _, rfl, hT00.out, hbch.out⟩
  case round =>
    obtain ⟨k, sa, sv, vs, hk, rfl, hT, hb⟩ := hrel
    have hinv := (tAll_part hids'.out k).1
    by_cases hlt : k < ids.length
    · have hstep := tAll_succ (succOf ids outs) ids.length ids hlt
      obtain ⟨nb, no, rfl, _, hr⟩ := (hnode.out wr hb).at (by rw [nodes_length]; omega)
      have hnd := hr _ _ (nodes_get ids k hlt)
      obtain ⟨x, hx⟩ : ∃ x, x = ids[k] := ⟨_, rfl⟩
      have hxm : x ∈ ids := by rw [hx]; exact List.getElem_mem hlt
      have hx64 := h64h.out x hxm
      rw [← hx] at hnd hstep
      unfold nodev at hnd
      obtain ⟨S, hS⟩ : ∃ S, S = tAll (succOf ids outs) ids.length (ids.take k) tStart := ⟨_, rfl⟩
      rw [← hS] at hstep hinv hT
      have c2 := hT.blk.c2
      have hlook : (Instr.lookup 141 (.map (some m1)) (.int .i64 x) false).run Tryz.prog wr.drew = .ok (.int .i64 (S.tm.idx x)) wr.drew := imap_look (w := wr.drew) (hT.i1.same rfl) hx64
      have hstepx := Lib.hid hstep
      have hTh := Lib.hid hT
      have hbh := Lib.hid hb
      have hinvh := Lib.hid hinv
      have hxmh := Lib.hid hxm
      obtain ⟨y, hy⟩ : ∃ y, y = S.tm.idx x := ⟨_, rfl⟩
      rw [← hy] at hlook
      have hyh : Hid (y = S.idx x) := hy
      clear hr hx hxm hS hstep hinv hT hb hy
      by_cases hz : y = 0
      · subst hz
        have hz' : S.idx x = 0 := hyh.out.symm
        have hst2 : Hid (tAll (succOf ids outs) ids.length (ids.take (k + 1)) tStart = sc (succOf ids outs) ids.length S x) := by unfold Hid; rw [hstepx.out, if_pos hz']
        have hrec := Lib.hid (fun W (hTW : TarAt W ids w3.heap.size BB tb m1 m2 m3 (fnv w.heap.size) S.tm sa sv vs) (hbW : Below w3.heap.size w3 W) => scon_any hids'.out h64h.out hids hslen.out w3.heap.size BB tb m1 m2 m3 w.heap.size w3 hsuch.out ids.length S x W sa sv vs hinvh.out hxmh.out hz' (by omega) hTW hbW)
        clear hstepx hz'
        go_wp2_with fail
        go_region_held3 (fun w' => w'.cell? ⟨tb, 2, none⟩ = some (.map (some m1))) (go_keep) (first | (go_at_call 184; refine (id_any _ _).mono ?_; rintro e w' ⟨rfl, rfl⟩))
        go_wp2_with fail
        refine (hrec.out _ (hTh.out.below (drew_below _)) hbh.out.drew).mono ?_
        rintro e w8 ⟨rfl, sa2, sv2, vs2, hT8, hm8⟩
        have hT8h := Lib.hid hT8
        have hb8 := Lib.hid (hm8.below hbh.out.drew (hTh.out.footlow) (hbh.out.size))
        clear hT8 hm8 hrec hlook
        go_wp2_with fail
        go_roundw
        case rel => exact ⟨k + 1, sa2, sv2, vs2, by omega, by go_num, by rw [hst2.out]; exact hT8h.out, hb8.out⟩
        case measure => simp [intOf]; omega
      · have hy0 : ((y : Int) == 0) = false := by simp; omega
        have hst2 : Hid (tAll (succOf ids outs) ids.length (ids.take (k + 1)) tStart = S) := by unfold Hid; rw [hstepx.out, if_neg (by rw [← hyh.out]; exact hz)]
        clear hstepx hz
        go_wp2_with fail
        go_region_held3 (fun w' => w'.cell? ⟨tb, 2, none⟩ = some (.map (some m1))) (go_keep) (first | (go_at_call 184; refine (id_any _ _).mono ?_; rintro e w' ⟨rfl, rfl⟩))
        go_wp2_with fail
        go_roundw
        case rel => exact ⟨k + 1, sa, sv, vs, by omega, by go_num, by rw [hst2.out]; exact hTh.out.below (drew_below _), hbh.out.drew⟩
        case measure => simp [intOf]; omega
    · have hkn : k = ids.length := by omega
      subst hkn
      rw [List.take_length] at hT
      obtain ⟨av, cv, rfl, _⟩ := owns_cells hT.ov
      have c6 := hT.blk.c6
      have hfin : Hid (SccPost w (sccsOf (succOf ids outs) ids) (.returned (.slice av (sccsOf (succOf ids outs) ids).length cv)) wr) := by
        have hbw : Below w.heap.size w wr := (hK.out wr (hb3h.out.trans (hb.mono hb3h.out.size))).1
        exact ⟨av, cv, BB, vs, rfl, hBl.out, hT.ov, hT.rows, fun j hj => (hT.rs j hj).2, hT.nd, hT.lts.2.2.2.2, hbw⟩
      clear hT hb hinv
      go_wp2_with fail
      go_ret
      exact hfin.out
end Go.Proofs.YthpjmjohdliohaaGreat
