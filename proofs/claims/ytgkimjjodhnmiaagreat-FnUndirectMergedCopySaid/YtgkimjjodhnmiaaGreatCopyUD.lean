/- graph.CopyWeighted, from impl.undirected to simple.WeightedDirectedGraph. -/
import Derived.Test.YtgkimjjodhnmiaaGreatCopyA
import Derived.Test.YtgkimjjodhnmiaaGreatSucc
import Derived.Deep.LoopGhost
import Derived.Deep.DeepCutAuto
import Derived.Deep.Draws
import Derived.Deep.QuietTactic
import Derived.Deep.RegionLaw
namespace Go.Proofs.YtgkimjjodhnmiaaGreat
open Go.RowKit Go.Maps

set_option maxRecDepth 100000 in
set_option maxHeartbeats 4000000 in
theorem copyundirectedDirected_any {pb : Nat} {ids : List Int} {outs ins : List (List Arc)} {w0 w : World} (hids : ids.length ≤ 1000) (h64 : ∀ y ∈ ids, In64 y) (hp : PlainAt w0 pb ids outs ins) (h0 : Below w0.heap.size w0 w)
    {f : Int → Int → Nat} (harc : ∀ x ∈ ids, ∀ y ∈ succOf ids outs x, ∃ t, ArcAt ids outs x y t (f x y)) (hnx : ∀ x ∈ ids, x ∉ succOf ids outs x)
    {B : Nat → Prop} {ad : WR → Option Nat} {c : WR → Cont} {gb jn je jt ju js jr : Nat} (h : WG true w ids B ad c gb jn je jt ju js jr [] (fun _ _ => none)) (hB : ∀ j, j < w0.heap.size → ¬ B j) :
    Calls Tryz.prog 15 #[.iface 42 (.pointer (some ⟨gb, 0, none⟩)), .iface 73 (.agg #[.pointer (some ⟨pb, 0, none⟩)])] w
      fun e w' => e = .returned (.tuple #[]) ∧ (∃ ad c F, WG true w' ids B ad c gb jn je jt ju js jr ids.reverse F ∧ FI true F (arcsTo (succOf ids outs) ids) f) ∧ Keeps B w w' := by
  obtain ⟨s, hs⟩ : ∃ s, s = succOf ids outs := ⟨_, rfl⟩
  obtain ⟨n, hn⟩ : ∃ n, n = ids.length := ⟨_, rfl⟩
  have hsl : Hid (∀ x, (s x).length ≤ 1000) := fun x => by rw [hs]; have := succ_len hp x; omega
  have hsm : Hid (∀ x, ∀ y ∈ s x, y ∈ ids) := fun x => by rw [hs]; exact succ_mem hp x
  have hnd : Hid ids.Nodup := hp.up.imp fun h => Int.ne_of_lt h
  have hN := Lib.hid (nodesUnd_any pb ids outs ins w hids (hp.below h0))
  have hFr := Lib.hid (fun (W : World) (hW : Below w0.heap.size w0 W) (x : Int) (hx : x ∈ ids) => fromUnd_any pb ids outs ins x W (by omega) (hp.below hW) hx)
  have hE := Lib.hid (fun (W : World) (hW : Below w0.heap.size w0 W) (x y : Int) (hx : x ∈ ids) (hy : y ∈ s x) => (harc x hx y (by rw [← hs]; exact hy)).elim fun t ht => wedgeUnd_any pb ids outs ins x y t (f x y) W (by omega) (hp.below hW) ht)
  rw [← hs] at hnx ⊢
  have hnxh := Lib.hid hnx
  have hh := Lib.hid h
  have h0h := Lib.hid h0
  have hBh := Lib.hid hB
  have h64h := Lib.hid h64
  have hsh := Lib.hid hs
  have hnh := Lib.hid hn
  have hn1 : n ≤ 1000 := by omega
  skip
  clear hp h0 harc hnx h hB h64 hs hn
  go_enter Tryz.func15, Tryz.ntmps15
  go_wp2_with fail
  refine (unhide hN).mono ?_
  rintro e w1 ⟨ib, rfl, hit, hb1⟩
  have hC0 := Lib.hid (CSt.start (f := f) hh.out hb1 hit)
  obtain ⟨S1, hS1⟩ : ∃ S1, S1 = w.heap.size := ⟨_, rfl⟩
  obtain ⟨S2, hS2⟩ : ∃ S2, S2 = w1.heap.size := ⟨_, rfl⟩
  rw [← hS1, ← hS2] at hC0
  have hb1h := Lib.hid (Keeps.of (B := B) hb1)
  have hU := Lib.hid (fun (W : World) (hk : Keeps B w1 W) => (hb1h.out.trans hk).under h0h.out hBh.out)
  have hm1 := addNode_methodDirected
  have hm2 := setEdge_methodDirected
  have hm3 := wedge_methodUnd
  have hm4 := onode_method
  have hm5 := nid_method
  have hm6 := addNode_aheadDirected
  have hm7 := setEdge_aheadDirected
  have hm8 := wedge_aheadUnd
  clear hit hb1 hN hh hS1 hS2
  go_wp2_with fail
  go_loopg [] (n + 1) (fun gk wr => ∃ k, gk = n + 1 - k ∧ k ≤ n ∧ CSt true w1 wr ids ids B S1 S2 ib k gb jn je jt ju js jr (ids.take k).reverse [] f)
  case atStart => exact ⟨0, by omega, Nat.zero_le _, hC0.out⟩
  case round =>
    obtain ⟨k, hgk, hk, hC⟩ := hrel
    have hgkh := Lib.hid hgk
    clear hgk hC0
    by_cases hlt : k < n
    · have hkl : k < ids.length := by have := hnh.out; omega
      have hnx := Lib.hid (next_any S1 S2 ib k ids wr (by omega) (by omega) hC.it)
      have hCh := Lib.hid hC
      clear hC
      have hdl : decide (k < ids.length) = true := decide_eq_true hkl
      rw [hdl] at hnx
      go_wp2_with fail
      refine (unhide hnx).mono ?_
      rintro e w3 ⟨rfl, hg3, hi3⟩
      have hC3 := Lib.hid (hCh.out.next hg3 (hi3 hkl))
      obtain ⟨x, hx⟩ : ∃ x, x = ids[k] := ⟨_, rfl⟩
      have hxm : x ∈ ids := by rw [hx]; exact List.getElem_mem hkl
      have hxN : x ∉ (ids.take k).reverse := by
        rw [List.mem_reverse, hx]
        exact fun hm => not_take hnd.out hkl hm
      have hN1 : x :: (ids.take k).reverse = (ids.take (k + 1)).reverse := by
        rw [List.take_succ_eq_append_getElem hkl, ← hx]; simp
      have hnode : Hid (∀ W, CSt true w1 W ids ids B S1 S2 ib (k + 1) gb jn je jt ju js jr (ids.take k).reverse [] f → Calls Tryz.prog 185 #[.pointer (some ⟨ib, 0, none⟩)] W fun e w' => e = .returned (.iface 205 (.int .i64 x)) ∧ CSt true w1 w' ids ids B S1 S2 ib (k + 1) gb jn je jt ju js jr (ids.take k).reverse [] f) := fun W hW =>
        (node_any S1 S2 ib k ids W hkl (by omega) hW.it).mono fun e w' ⟨h1, q, h2⟩ => ⟨by rw [hx]; exact h1, by rw [h2]; exact hW.drewN q⟩
      have hadd : Hid (∀ W, CSt true w1 W ids ids B S1 S2 ib (k + 1) gb jn je jt ju js jr (ids.take k).reverse [] f → Calls Tryz.prog 105 #[.pointer (some ⟨gb, 0, none⟩), .iface 205 (.int .i64 x)] W fun e w' => e = .returned (.tuple #[]) ∧ CSt true w1 w' ids ids B S1 S2 ib (k + 1) gb jn je jt ju js jr (ids.take (k + 1)).reverse [] f) := fun W hW => by
        obtain ⟨ad, c, F, hG, hF⟩ := hW.g
        exact (addNodeDirected_any hG (h64h.out x hxm) hxm hxN (by have := hnh.out; omega)).mono fun e w' ⟨h1, ⟨c', h2⟩, h3⟩ => ⟨h1, by rw [← hN1]; exact hW.turn h3 ⟨ad, c', F, h2, hF⟩⟩
      clear hnx hCh hg3 hi3 hx hxm hxN hN1 hdl
      go_wp2_with fail
      go_region_law (first
        | (go_simp; go_at_call 185; (with_reducible refine (hnode.out _ (by repeat (first | exact hC3.out | refine CSt.drew ?_))).mono ?_); rintro e w4 ⟨rfl, hC4⟩)
        | (go_simp; go_at_call 105; (with_reducible refine (hadd.out _ (by repeat (first | exact hC4 | refine CSt.drew ?_))).mono ?_); rintro e w5 ⟨rfl, hC5⟩))
      all_goals
        go_wp2_with fail
        go_roundg (n + 1 - (k + 1))
        case measure => have := hgkh.out; omega
        case rel => exact ⟨k + 1, rfl, by omega, hC5⟩
    · have hkn : k = n := by omega
      subst hkn
      have hkl : k = ids.length := hnh.out
      have hnx := Lib.hid (nextEnd_any S1 S2 ib ids wr (by omega) (by rw [← hkl]; exact hC.it))
      have hCh := Lib.hid hC
      clear hC
      go_wp2_with fail
      refine (unhide hnx).mono ?_
      rintro e w3 ⟨rfl, hg3, hi3⟩
      have hC3 := hCh.out.next hg3 hi3
      have hrs := Lib.hid (reset_any S1 S2 ib _ ids w3 hi3)
      have hC3h := Lib.hid hC3
      clear hnx hCh hg3 hi3 hC3
      go_wp2_with fail
      refine (unhide hrs).mono ?_
      rintro e w4 ⟨rfl, hg4, hi4⟩
      have hC4 := hC3h.out.next hg4 hi4
      have htk : ids.take k = ids := List.take_of_length_le (Nat.le_of_eq hkl.symm)
      rw [htk] at hC4
      have hC4h := Lib.hid hC4
      clear hrs hC3h hg4 hi4 hC4 htk hkl hlt hgkh
      obtain ⟨n, hkn⟩ : ∃ n, n = k := ⟨_, rfl⟩
      subst hkn
      go_wp2_with fail
      go_loopg [] (n + 1) (fun gk wr => ∃ k, gk = n + 1 - k ∧ k ≤ n ∧ CSt true w1 wr ids ids B S1 S2 ib k gb jn je jt ju js jr ids.reverse (arcsTo s (ids.take k)) f)
      case atStart => exact ⟨0, by omega, Nat.zero_le _, hC4h.out.congr fun p => by simp [arcsTo]⟩
      case round =>
        obtain ⟨k, hgk, hk, hC⟩ := hrel
        have hgkh := Lib.hid hgk
        clear hgk hC4h
        by_cases hlt : k < n
        · have hkl : k < ids.length := by have := hnh.out; omega
          have hnx := Lib.hid (next_any S1 S2 ib k ids wr (by omega) (by omega) hC.it)
          have hCh := Lib.hid hC
          clear hC
          have hdl : decide (k < ids.length) = true := decide_eq_true hkl
          rw [hdl] at hnx
          go_wp2_with fail
          refine (unhide hnx).mono ?_
          rintro e w3 ⟨rfl, hg3, hi3⟩
          have hC3 := hCh.out.next hg3 (hi3 hkl)
          obtain ⟨x, hx⟩ : ∃ x, x = ids[k] := ⟨_, rfl⟩
          have hxm : x ∈ ids := by rw [hx]; exact List.getElem_mem hkl
          have hnode := Lib.hid (node_any S1 S2 ib k ids w3 hkl (by omega) hC3.it)
          rw [← hx] at hnode
          have hC3h := Lib.hid hC3
          have hxh := Lib.hid hx
          clear hnx hCh hg3 hi3 hx hdl hC3
          go_wp2_with fail
          refine (unhide hnode).mono ?_
          rintro e w4 ⟨rfl, q, hq⟩
          have hC4 : CSt true w1 w4 ids ids B S1 S2 ib (k + 1) gb jn je jt ju js jr ids.reverse (arcsTo s (ids.take k)) f := by rw [hq]; exact hC3h.out.drewN q
          have hfr := Lib.hid (hFr.out w4 (hU.out w4 hC4.kp) x hxm)
          have hC4h := Lib.hid hC4
          clear hnode hC3h hq hC4
          go_wp2_with (go_at_call 178; refine (id_any _ _).mono ?_; rintro e w' ⟨rfl, rfl⟩)
          refine (unhide hfr).mono ?_
          rintro e w5 ⟨ib2, rfl, hit2, hb2⟩
          have hI0 := hC4h.out.inner hb2 (ms := s x) (by rw [hsh.out]; exact hit2)
          have hO : Hid (∀ W D t, CSt true w5 W ids (s x) (Zone B S1 S2) w4.heap.size w5.heap.size ib2 t gb jn je jt ju js jr ids.reverse D f → CSt true w1 W ids ids B S1 S2 ib (k + 1) gb jn je jt ju js jr ids.reverse D f) := fun W D t hW => hC4h.out.outer hb2 hW
          have hI1 := Lib.hid (hI0.congr (arcs_start s (ids.take k) x))
          obtain ⟨Z1, hZ1⟩ : ∃ Z1, Z1 = w4.heap.size := ⟨_, rfl⟩
          obtain ⟨Z2, hZ2⟩ : ∃ Z2, Z2 = w5.heap.size := ⟨_, rfl⟩
          rw [← hZ1, ← hZ2] at hI1 hO
          obtain ⟨m, hm⟩ : ∃ m, m = (s x).length := ⟨_, rfl⟩
          have hm1' : m ≤ 1000 := by rw [hm]; exact hsl.out x
          have hmh := Lib.hid hm
          clear hfr hit2 hb2 hI0 hC4h hZ1 hZ2 hm
          go_wp2_with fail
          go_loopg [] (m + 1) (fun gk wr => ∃ t, gk = m + 1 - t ∧ t ≤ m ∧ CSt true w5 wr ids (s x) (Zone B S1 S2) Z1 Z2 ib2 t gb jn je jt ju js jr ids.reverse (arcsTo s (ids.take k) ++ ((s x).take t).map fun y => (x, y)) f)
          case atStart => exact ⟨0, by omega, Nat.zero_le _, hI1.out⟩
          case round =>
            obtain ⟨t, hgt, ht, hC⟩ := hrel
            have hgth := Lib.hid hgt
            clear hgt hI1
            by_cases hlt2 : t < m
            · have htl : t < (s x).length := by have := hmh.out; omega
              have hnx := Lib.hid (next_any Z1 Z2 ib2 t (s x) wr (by omega) (by have := hmh.out; omega) hC.it)
              have hCh := Lib.hid hC
              clear hC
              have hdl : decide (t < (s x).length) = true := decide_eq_true htl
              rw [hdl] at hnx
              go_wp2_with fail
              refine (unhide hnx).mono ?_
              rintro e w6 ⟨rfl, hg6, hi6⟩
              have hC6 := hCh.out.next hg6 (hi6 htl)
              obtain ⟨y, hy⟩ : ∃ y, y = (s x)[t] := ⟨_, rfl⟩
              have hys : y ∈ s x := by rw [hy]; exact List.getElem_mem htl
              have hym : y ∈ ids := hsm.out x y hys
              have hxy : x ≠ y := fun e => hnxh.out x hxm (by rw [e] at hys ⊢; rw [← e] at hys ⊢; exact hys)
              have hnode := Lib.hid (node_any Z1 Z2 ib2 t (s x) w6 htl (by have := hmh.out; omega) hC6.it)
              rw [← hy] at hnode
              have hstep := arcs_step s (ids.take k) x htl
              rw [← hy] at hstep
              have hC6h := Lib.hid hC6
              clear hnx hCh hg6 hi6 hy hdl hC6
              go_wp2_with fail
              refine (unhide hnode).mono ?_
              rintro e w7 ⟨rfl, q, hq⟩
              have hC7 : Hid (CSt true w5 w7 ids (s x) (Zone B S1 S2) Z1 Z2 ib2 (t + 1) gb jn je jt ju js jr ids.reverse (arcsTo s (ids.take k) ++ ((s x).take t).map fun y => (x, y)) f) := by rw [hq]; exact hC6h.out.drewN q
              have hwe : Hid (∀ W, CSt true w5 W ids (s x) (Zone B S1 S2) Z1 Z2 ib2 (t + 1) gb jn je jt ju js jr ids.reverse (arcsTo s (ids.take k) ++ ((s x).take t).map fun y => (x, y)) f → Calls Tryz.prog 160 #[.agg #[.pointer (some ⟨pb, 0, none⟩)], .int .i64 x, .int .i64 y] W fun e w' => e = .returned (.iface 207 (.agg #[.iface 205 (.int .i64 x), .iface 205 (.int .i64 y), .float .f64 (f x y)])) ∧ CSt true w5 w' ids (s x) (Zone B S1 S2) Z1 Z2 ib2 (t + 1) gb jn je jt ju js jr ids.reverse (arcsTo s (ids.take k) ++ ((s x).take t).map fun y => (x, y)) f) := fun W hW =>
                (hE.out W (hU.out W (hO.out W _ _ hW).kp) x y hxm hys).mono fun e w' ⟨h1, h2⟩ => ⟨h1, hW.below h2⟩
              have hse : Hid (∀ W, CSt true w5 W ids (s x) (Zone B S1 S2) Z1 Z2 ib2 (t + 1) gb jn je jt ju js jr ids.reverse (arcsTo s (ids.take k) ++ ((s x).take t).map fun y => (x, y)) f → Calls Tryz.prog 112 #[.pointer (some ⟨gb, 0, none⟩), .iface 207 (.agg #[.iface 205 (.int .i64 x), .iface 205 (.int .i64 y), .float .f64 (f x y)])] W fun e w' => e = .returned (.tuple #[]) ∧ CSt true w5 w' ids (s x) (Zone B S1 S2) Z1 Z2 ib2 (t + 1) gb jn je jt ju js jr ids.reverse (arcsTo s (ids.take k) ++ ((s x).take (t + 1)).map fun y => (x, y)) f) := fun W hW => by
                obtain ⟨ad, c, F, hG, hF⟩ := hW.g
                exact (setEdgeDirected_any hG (f x y) (h64h.out x hxm) (h64h.out y hym) hxm hym (List.mem_reverse.2 hxm) (List.mem_reverse.2 hym) hxy (by have := hnh.out; omega)).mono fun e w' ⟨h1, ⟨ad', c', h2⟩, h3⟩ => ⟨h1, (hW.turn h3 ⟨ad', c', _, h2, hF.stepD x y⟩).congr hstep⟩
              clear hnode hC6h hq hstep hxy hym hys
              go_wp2_with fail
              go_region_law (first
                | (go_simp; go_at_call 178; refine (id_any _ _).mono ?_; rintro e w' ⟨rfl, rfl⟩)
                | (go_simp; go_at_call 160; (with_reducible refine (hwe.out _ (by repeat (first | exact hC7.out | refine CSt.drew ?_))).mono ?_); rintro e w8 ⟨rfl, hC8⟩)
                | (go_simp; go_at_call 112; (with_reducible refine (hse.out _ (by repeat (first | exact hC8 | refine CSt.drew ?_))).mono ?_); rintro e w9 ⟨rfl, hC9⟩))
              all_goals
                go_wp2_with fail
                go_roundg (m + 1 - (t + 1))
                case measure => have := hgth.out; omega
                case rel => exact ⟨t + 1, rfl, by omega, hC9⟩
            · have htm : t = m := by omega
              subst htm
              have htl : t = (s x).length := hmh.out
              have hnx := Lib.hid (nextEnd_any Z1 Z2 ib2 (s x) wr (by omega) (by rw [← htl]; exact hC.it))
              have hCh := Lib.hid hC
              clear hC
              go_wp2_with fail
              refine (unhide hnx).mono ?_
              rintro e w6 ⟨rfl, hg6, hi6⟩
              have hC6 := hO.out _ _ _ (hCh.out.next hg6 hi6)
              have hae := arcs_end s hkl
              rw [← hxh.out, ← htl] at hae
              have hC7 := Lib.hid (hC6.congr hae)
              clear hnx hCh hg6 hi6 hC6 hae htl
              go_wp2_with fail
              go_roundg (n + 1 - (k + 1))
              case measure => have := hgkh.out; omega
              case rel => exact ⟨k + 1, rfl, by omega, hC7.out⟩
        · have hkn : k = n := by omega
          subst hkn
          have hkl : k = ids.length := hnh.out
          have hnx := Lib.hid (nextEnd_any S1 S2 ib ids wr (by omega) (by rw [← hkl]; exact hC.it))
          have hCh := Lib.hid hC
          clear hC
          go_wp2_with fail
          refine (unhide hnx).mono ?_
          rintro e w3 ⟨rfl, hg3, hi3⟩
          have hC3 := hCh.out.next hg3 hi3
          have htk : ids.take k = ids := List.take_of_length_le (Nat.le_of_eq hkl.symm)
          rw [htk] at hC3
          have hfin : Hid ((∃ ad c F, WG true w3 ids B ad c gb jn je jt ju js jr ids.reverse F ∧ FI true F (arcsTo s ids) f) ∧ Keeps B w w3) := by
            obtain ⟨ad, c, F, hG, hF⟩ := hC3.g
            exact ⟨⟨ad, c, F, hG.wide fun j hj => hC3.hB j (by have := hC3.zs; have := hC3.it.1; have := hC3.it.2.1; omega), hF⟩, hb1h.out.trans hC3.kp⟩
          clear hnx hCh hg3 hi3 hC3 htk hkl
          go_wp2_with fail
          go_end0
          exact ⟨rfl, hfin.out⟩
end Go.Proofs.YtgkimjjodhnmiaaGreat
