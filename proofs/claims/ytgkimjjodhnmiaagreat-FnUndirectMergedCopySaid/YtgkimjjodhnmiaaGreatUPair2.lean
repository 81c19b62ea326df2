/- graph.newNodeIteratorPair.
   graph.nodeIteratorPair: Next and Node. -/
import Derived.Test.YtgkimjjodhnmiaaGreatUPair
namespace Go.Proofs.YtgkimjjodhnmiaaGreat
open Go.RowKit Go.Maps

/-- What newNodeIteratorPair gives. -/
def NewPPost (w : World) (lo : Nat) (ids xs ys : List Int) (e : Ending) (w' : World) : Prop :=
  ∃ (hi B1 E1 ib1 B2 E2 ib2 mb fb : Nat) (i c : Int), e = .returned (.pointer (some ⟨fb, 0, none⟩)) ∧ PR w w' lo hi B1 E1 ib1 B2 E2 ib2 mb fb ids xs ys 0 0 (ufun xs ys) .nilIface i c

set_option maxRecDepth 100000 in
set_option maxHeartbeats 16000000 in
theorem newPair_any (lo B1 E1 ib1 B2 E2 ib2 : Nat) (ids xs ys : List Int) (w : World) (hids : ids.length ≤ 1000) (h64 : ∀ y ∈ ids, In64 y) (hai : ∀ y ∈ xs, y ∈ ids) (hbi : ∀ y ∈ ys, y ∈ ids) (hal : xs.length ≤ 1000) (hbl : ys.length ≤ 1000)
    (h1 : IterAt w B1 E1 ib1 0 xs) (h2 : IterAt w B2 E2 ib2 0 ys) (hlo : lo ≤ B1 ∧ lo ≤ B2) (hE : E1 ≤ w.heap.size ∧ E2 ≤ w.heap.size) (hd : E1 ≤ B2 ∨ E2 ≤ B1) :
    Calls Tryz.prog 153 #[.iface 208 (.pointer (some ⟨ib1, 0, none⟩)), .iface 208 (.pointer (some ⟨ib2, 0, none⟩))] w (NewPPost w lo ids xs ys) := by
  obtain ⟨w1, hw1⟩ : ∃ w1, w1 = w.alloc (.map #[] 0) := ⟨_, rfl⟩
  have hm1 : VMap w1 ids w.heap.size (fun _ => none) := by rw [hw1]; exact vmap_new w ids
  have hb1 : Below w.heap.size w w1 := by rw [hw1]; exact alloc_below _ _
  have hz1 : w1.heap.size = w.heap.size + 1 := by rw [hw1]; simp
  obtain ⟨mb, hmb⟩ : ∃ mb, mb = w.heap.size := ⟨_, rfl⟩
  obtain ⟨fb, hfb⟩ : ∃ fb, fb = w1.heap.size := ⟨_, rfl⟩
  have q11 := h1.1; have q12 := h1.2.1; have q21 := h2.1; have q22 := h2.2.1
  obtain ⟨w3, hw3⟩ : ∃ w3, w3 = w1.alloc (.cells #[.iface 208 (.pointer (some ⟨ib1, 0, none⟩)), .iface 208 (.pointer (some ⟨ib2, 0, none⟩)), .nilIface, .int .i64 0, .int .i64 0, .map (some mb)] 220) := ⟨_, rfl⟩
  have hF0 : PR w w3 lo (fb + 1) B1 E1 ib1 B2 E2 ib2 mb fb ids xs ys 0 0 (ufun [] []) .nilIface 0 0 := by
    have b3 : Below w1.heap.size w1 w3 := by rw [hw3]; exact alloc_below _ _
    have z3 : w3.heap.size = w1.heap.size + 1 := by rw [hw3]; simp
    have hold : ∀ j, j < w.heap.size → w3.heap[j]? = w.heap[j]? := fun j hj => by rw [b3.block j (by omega), hb1.block j hj]
    refine ⟨⟨hlo.1, by omega, hlo.2, by omega, hd, by omega, by omega, by omega, by omega, by omega, by omega, by omega, by omega, by omega⟩, by omega, h1.same fun j _ hj => hold j (by omega), h2.same fun j _ hj => hold j (by omega), ?_, ?_, ?_⟩
    · rw [hw3, hfb]; exact heap_alloc_new _ _
    · rw [hmb]; exact (hm1.same (b3.block _ (by omega))).congr fun x => by simp [ufun]
    · exact (Keeps.of hb1).trans (Keeps.of b3)
  have hF0h := Lib.hid hF0
  have h64h := Lib.hid h64
  have haih := Lib.hid hai
  have hbih := Lib.hid hbi
  rw [hw1, hmb] at hw3
  have hfb' : fb = w.heap.size + 1 := by omega
  have hw3h := Lib.hid hw3
  have hfbh := Lib.hid hfb'
  have hmm := @run_makeMap Tryz.prog
  clear h64 hai hbi h1 h2 hm1 hb1 hz1 hw1 hd hE hlo q11 q12 q21 q22 hF0 hw3 hfb hfb' hmb
  go_enter Tryz.func153, Tryz.ntmps153
  go_wp2_with fail
  clear hmm
  rw [← hw3h.out, ← hfbh.out]
  clear hw3h hfbh
  go_loopg [] (ys.length) (fun gk wr => ∃ (k : Nat) (c : Int), gk = ys.length - k ∧ k ≤ ys.length ∧ PR w wr lo (fb + 1) B1 E1 ib1 B2 E2 ib2 mb fb ids xs ys 0 k (ufun [] (ys.take k)) .nilIface 0 c)
  case atStart => exact ⟨0, 0, rfl, Nat.zero_le _, hF0h.out⟩
  case round =>
    clear hF0h
    obtain ⟨k, c, hgk, hk, hF⟩ := hrel
    have hgkh := Lib.hid hgk
    have hFh := Lib.hid hF
    have c1 := hF.c1
    clear hgk
    by_cases hlt : k < ys.length
    · have hnx := Lib.hid (hF.nextB (by omega) hlt)
      obtain ⟨y, hy⟩ : ∃ y, y = ys[k] := ⟨_, rfl⟩
      have hym : y ∈ ids := hbih.out y (by rw [hy]; exact List.getElem_mem hlt)
      have hy64 := h64h.out y hym
      have htk : Hid (ys.take (k + 1) = ys.take k ++ [y]) := by unfold Hid; rw [List.take_succ_eq_append_getElem hlt, ← hy]
      have hyh := Lib.hid hy
      clear hF hy
      go_wp2_with fail
      refine (unhide hnx).mono ?_
      rintro e w5 ⟨rfl, hg5, hF5⟩
      have c51 := hF5.c1
      have c55 := hF5.c5
      have hnd : Hid (∀ W, PR w W lo (fb + 1) B1 E1 ib1 B2 E2 ib2 mb fb ids xs ys 0 (k + 1) (ufun [] (ys.take k)) .nilIface 0 c → Calls Tryz.prog 185 #[.pointer (some ⟨ib2, 0, none⟩)] W fun e w' => e = .returned (.iface 205 (.int .i64 y)) ∧ PR w w' lo (fb + 1) B1 E1 ib1 B2 E2 ib2 mb fb ids xs ys 0 (k + 1) (ufun [] (ys.take k)) .nilIface 0 c) := fun W hW =>
        (hW.nodeB (by omega) hlt).mono fun e w' ⟨h1, q, h2⟩ => ⟨by rw [h1, hyh.out], by rw [h2]; exact hW.drewN q⟩
      have hF5h := Lib.hid hF5
      clear hg5 hF5 hnx hFh c1
      go_wp2_with fail
      have hmi := oid_method
      have hmn := oo_node
      go_region_law (first
        | (go_simp; go_at_call 185; ((with_reducible refine (hnd.out _ (by repeat (first | exact hF5h.out | refine PR.drew ?_))).mono ?_)); rintro e w6 ⟨rfl, hF6⟩; have c65 := hF6.c5; obtain ⟨w7, hrun7, hm7, hg7⟩ := vmap_put hF6.map Tryz.underlying218 hy64 hym (by omega) (.bool true); have hF7 := Lib.hid (hF6.put hg7 hm7); clear hm7 hg7 hF6)
        | (go_simp; go_at_call 178; refine (id_any _ _).mono ?_; rintro e w' ⟨rfl, rfl⟩))
      all_goals
        have k4 := hF7.out.c4
        have f4 := hF7.out.fr 4
        have hfin := Lib.hid (fun (j : Int) => (hF7.out.congr (ufun_b htk.out)).setC j)
        clear hF7 hF5h hnd
        go_wp2_with fail
        go_roundg (ys.length - (k + 1))
        case measure => have := hgkh.out; omega
        case rel => exact ⟨k + 1, _, rfl, by omega, hfin.out _⟩
    · have hkn : k = ys.length := by omega
      subst hkn
      rw [List.take_length] at hF
      have hnx := Lib.hid (hF.endB (by omega) (.inl rfl))
      clear hF hk hFh
      go_wp2_with fail
      refine (unhide hnx).mono ?_
      rintro e w5 ⟨rfl, hg5, hF5⟩
      have c51 := hF5.c1
      have hrs := Lib.hid hF5.resetB
      clear hg5 hF5 hnx c1
      go_wp2_with fail
      refine (unhide hrs).mono ?_
      rintro e w6 ⟨rfl, hg6, hF6⟩
      have hF6h := Lib.hid hF6
      clear hg6 hF6 hrs c51
      go_wp2_with fail
      go_loopg [] (xs.length) (fun gk wr => ∃ (k : Nat) (c : Int), gk = xs.length - k ∧ k ≤ xs.length ∧ PR w wr lo (fb + 1) B1 E1 ib1 B2 E2 ib2 mb fb ids xs ys k 0 (ufun (xs.take k) ys) .nilIface 0 c)
      case atStart => exact ⟨0, c, rfl, Nat.zero_le _, hF6h.out⟩
      case round =>
        clear hF6h
        obtain ⟨k, c, hgk, hk, hF⟩ := hrel
        have hgkh := Lib.hid hgk
        have hFh := Lib.hid hF
        have c1 := hF.c0
        clear hgk
        by_cases hlt : k < xs.length
        · have hnx := Lib.hid (hF.nextA (by omega) hlt)
          obtain ⟨y, hy⟩ : ∃ y, y = xs[k] := ⟨_, rfl⟩
          have hym : y ∈ ids := haih.out y (by rw [hy]; exact List.getElem_mem hlt)
          have hy64 := h64h.out y hym
          have htk : Hid (xs.take (k + 1) = xs.take k ++ [y]) := by unfold Hid; rw [List.take_succ_eq_append_getElem hlt, ← hy]
          have hyh := Lib.hid hy
          clear hF hy
          go_wp2_with fail
          refine (unhide hnx).mono ?_
          rintro e w5 ⟨rfl, hg5, hF5⟩
          have c50 := hF5.c0
          have c55 := hF5.c5
          have hnd : Hid (∀ (c : Int) W, PR w W lo (fb + 1) B1 E1 ib1 B2 E2 ib2 mb fb ids xs ys (k + 1) 0 (ufun (xs.take k) ys) .nilIface 0 c → Calls Tryz.prog 185 #[.pointer (some ⟨ib1, 0, none⟩)] W fun e w' => e = .returned (.iface 205 (.int .i64 y)) ∧ PR w w' lo (fb + 1) B1 E1 ib1 B2 E2 ib2 mb fb ids xs ys (k + 1) 0 (ufun (xs.take k) ys) .nilIface 0 c) := fun c W hW =>
            (hW.nodeA (by omega) hlt).mono fun e w' ⟨h1, q, h2⟩ => ⟨by rw [h1, hyh.out], by rw [h2]; exact hW.drewN q⟩
          obtain ⟨ob, hob⟩ : ∃ ob, ob = (ufun (xs.take k) ys y).isSome := ⟨_, rfl⟩
          obtain ⟨ov, hov⟩ : ∃ ov, ov = (ufun (xs.take k) ys y).getD (.bool false) := ⟨_, rfl⟩
          have hlk : Hid (∀ W, PR w W lo (fb + 1) B1 E1 ib1 B2 E2 ib2 mb fb ids xs ys (k + 1) 0 (ufun (xs.take k) ys) .nilIface 0 c → (Instr.lookup 218 (.map (some mb)) (.int .i64 y) true).run Tryz.prog W = .ok (.tuple #[ov, .bool ob]) W) := fun W hW => by
            rw [hov, hob]
            exact vmap_look_ok hW.map Tryz.underlying218 (Tryz.zeroValue4 W) hy64
          have hF5h := Lib.hid hF5
          clear hg5 hF5 hnx hFh c1 hob hov
          go_wp2_with fail
          have hmi := oid_method
          have hmn := oo_node
          go_region_law (first
            | (go_simp; go_at_call 185; ((with_reducible refine (hnd.out c _ (by repeat (first | exact hF5h.out | refine PR.drew ?_))).mono ?_)); rintro e w6 ⟨rfl, hF6⟩; have c65 := hF6.c5; have hl6 := hlk.out _ hF6; have hF6h := Lib.hid hF6; clear hF6)
            | (go_simp; go_at_call 178; refine (id_any _ _).mono ?_; rintro e w' ⟨rfl, rfl⟩))
          all_goals
            have k4 := hF6h.out.c4
            have f4 := hF6h.out.fr 4
            have k5 := hF6h.out.c5
            have k0 := hF6h.out.c0
            clear hF5h hlk
            cases ob
            · have hset := Lib.hid (fun (j : Int) => hF6h.out.setC j)
              go_wp2_with fail
              obtain ⟨w7, hw7⟩ : ∃ w7, w7 = w6.setCell ⟨fb, 4, none⟩ (.int .i64 (wrap64 (c + 1))) := ⟨_, rfl⟩
              rw [← hw7]
              have hF7 : PR w w7 lo (fb + 1) B1 E1 ib1 B2 E2 ib2 mb fb ids xs ys (k + 1) 0 (ufun (xs.take k) ys) .nilIface 0 (wrap64 (c + 1)) := by rw [hw7]; exact hset.out _
              have k75 := hF7.c5
              have k70 := hF7.c0
              have hF7h := Lib.hid hF7
              clear hF7 hw7 hset k4 f4 k5 k0 hF6h
              go_region_law (first
                | (go_simp; go_at_call 185; ((with_reducible refine (hnd.out (wrap64 (c + 1)) _ (by repeat (first | exact hF7h.out | refine PR.drew ?_))).mono ?_)); rintro e w8 ⟨rfl, hF8⟩; have c85 := hF8.c5; obtain ⟨w9, hrun9, hm9, hg9⟩ := vmap_put hF8.map Tryz.underlying218 hy64 hym (by omega) (.bool false); have hF9 := Lib.hid (hF8.put hg9 hm9); clear hm9 hg9 hF8)
                | (go_simp; go_at_call 178; refine (id_any _ _).mono ?_; rintro e w' ⟨rfl, rfl⟩))
              all_goals
                have hfin := Lib.hid (hF9.out.congr (ufun_a htk.out))
                clear hF9 hnd
                go_wp2_with fail
                go_roundg (xs.length - (k + 1))
                case measure => have := hgkh.out; omega
                case rel => exact ⟨k + 1, _, rfl, by omega, hfin.out⟩
            · go_wp2_with fail
              go_region_law (first
                | (go_simp; go_at_call 185; ((with_reducible refine (hnd.out c _ (by repeat (first | exact hF6h.out | refine PR.drew ?_))).mono ?_)); rintro e w8 ⟨rfl, hF8⟩; have c85 := hF8.c5; obtain ⟨w9, hrun9, hm9, hg9⟩ := vmap_put hF8.map Tryz.underlying218 hy64 hym (by omega) (.bool false); have hF9 := Lib.hid (hF8.put hg9 hm9); clear hm9 hg9 hF8)
                | (go_simp; go_at_call 178; refine (id_any _ _).mono ?_; rintro e w' ⟨rfl, rfl⟩))
              all_goals
                have hfin := Lib.hid (hF9.out.congr (ufun_a htk.out))
                clear hF9 hnd
                go_wp2_with fail
                go_roundg (xs.length - (k + 1))
                case measure => have := hgkh.out; omega
                case rel => exact ⟨k + 1, _, rfl, by omega, hfin.out⟩
        · have hkn : k = xs.length := by omega
          subst hkn
          rw [List.take_length] at hF
          have hnx := Lib.hid (hF.endA (by omega) (.inl rfl))
          clear hF hk hFh
          go_wp2_with fail
          refine (unhide hnx).mono ?_
          rintro e w5 ⟨rfl, hg5, hF5⟩
          have c50 := hF5.c0
          have hrs := Lib.hid hF5.resetA
          clear hg5 hF5 hnx c1
          go_wp2_with fail
          refine (unhide hrs).mono ?_
          rintro e w6 ⟨rfl, hg6, hF6⟩
          have hfin : Hid (NewPPost w lo ids xs ys (.returned (.pointer (some ⟨fb, 0, none⟩))) w6) := ⟨fb + 1, B1, E1, ib1, B2, E2, ib2, mb, fb, 0, c, rfl, hF6⟩
          clear hg6 hF6 hrs c50
          go_wp2_with fail
          go_ret
          exact hfin.out
end Go.Proofs.YtgkimjjodhnmiaaGreat
