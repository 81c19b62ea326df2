/- graph.nodeIteratorPair: Next and Node.
   impl.iterated over two iterators in one.
   impl.iterated over two iterators in one.
   impl.iterated over nodes in a row. -/
import Derived.Test.YtgkimjjodhnmiaaGreatUPair
import Derived.Test.YtgkimjjodhnmiaaGreatNumbers
import Derived.Test.YtgkimjjodhnmiaaGreatWReadA
import Derived.Test.YtgkimjjodhnmiaaGreatSeenX
namespace Go.Proofs.YtgkimjjodhnmiaaGreat
open Go.RowKit Go.Maps

/-- Two iterators in one, wherever its parts lie. -/
def PairAt (w0 w : World) (lo hi fb : Nat) (ids xs ys : List Int) (k1 k2 : Nat) (cur : Value) : Prop :=
  ∃ (B1 E1 ib1 B2 E2 ib2 mb : Nat) (i c : Int), PR w0 w lo hi B1 E1 ib1 B2 E2 ib2 mb fb ids xs ys k1 k2 (ufun xs ys) cur i c

/-- What is left of b. -/
def remB (xs ys : List Int) (k2 : Nat) : List Int := (ys.drop k2).filter fun y => !decide (y ∈ xs)
/-- What is left of both. -/
def remP (xs ys : List Int) (k1 k2 : Nat) : List Int := xs.drop k1 ++ remB xs ys k2

theorem remB_step {xs ys : List Int} {k : Nat} (h : k < ys.length) : remB xs ys k = if decide (ys[k] ∈ xs) then remB xs ys (k + 1) else ys[k] :: remB xs ys (k + 1) := by
  unfold remB
  rw [List.drop_eq_getElem_cons h]
  by_cases e : ys[k] ∈ xs
  · rw [if_pos (decide_eq_true e), List.filter_cons_of_neg (by simp [e])]
  · rw [if_neg (by simp [e]), List.filter_cons_of_pos (by simp [e])]
theorem remP_a {xs ys : List Int} {k1 k2 : Nat} (h : k1 < xs.length) : remP xs ys k1 k2 = xs[k1] :: remP xs ys (k1 + 1) k2 := by
  unfold remP
  rw [List.drop_eq_getElem_cons h]; rfl
theorem remP_b {xs ys : List Int} {k1 k2 : Nat} (h : xs.length ≤ k1) : remP xs ys k1 k2 = remB xs ys k2 := by
  unfold remP
  rw [List.drop_eq_nil_of_le h]; rfl

/-- What Next of two iterators in one does. -/
def NextPPost (w : World) (lo hi fb : Nat) (ids xs ys : List Int) (k1 k2 : Nat) (e : Ending) (w' : World) : Prop :=
  (e = .returned (.bool false) ∧ remP xs ys k1 k2 = [] ∧ Keeps (fun j => lo ≤ j ∧ j < hi) w w') ∨
  ∃ (y : Int) (k1' k2' : Nat), e = .returned (.bool true) ∧ remP xs ys k1 k2 = y :: remP xs ys k1' k2' ∧ k1' ≤ xs.length + 1 ∧ k2' ≤ ys.length ∧ PairAt w w' lo hi fb ids xs ys k1' k2' (.iface 205 (.int .i64 y))

set_option maxRecDepth 100000 in
set_option maxHeartbeats 4000000 in
theorem nextP_any {w0 w : World} {lo hi fb : Nat} {ids xs ys : List Int} {k1 k2 : Nat} {cur : Value} (h64 : ∀ y ∈ ids, In64 y) (hyi : ∀ y ∈ ys, y ∈ ids) (hal : xs.length ≤ 1000) (hbl : ys.length ≤ 1000) (hk1 : k1 ≤ xs.length + 1) (hk2 : k2 ≤ ys.length) (h0 : PairAt w0 w lo hi fb ids xs ys k1 k2 cur) :
    Calls Tryz.prog 188 #[.pointer (some ⟨fb, 0, none⟩)] w (NextPPost w lo hi fb ids xs ys k1 k2) := by
  obtain ⟨B1, E1, ib1, B2, E2, ib2, mb, i, c, hF'⟩ := h0
  have hF := hF'.rebase
  clear hF'
  have hFh := Lib.hid hF
  have c0 := hF.c0
  have hmi := oid_method
  have hmn := oo_node
  by_cases hlt : k1 < xs.length
  · have hnx := Lib.hid (hF.nextA (by omega) hlt)
    obtain ⟨y, hy⟩ : ∃ y, y = xs[k1] := ⟨_, rfl⟩
    have hrem : Hid (remP xs ys k1 k2 = y :: remP xs ys (k1 + 1) k2) := by rw [hy]; exact remP_a hlt
    have hyh := Lib.hid hy
    clear hF hy
    go_enter Tryz.func188, Tryz.ntmps188
    go_wp2_with fail
    refine (unhide hnx).mono ?_
    rintro e w5 ⟨rfl, hg5, hF5⟩
    have c3 := hF5.c3
    have f3 := hF5.fr 3
    have c05 := hF5.c0
    have hnd : Hid (∀ j, Calls Tryz.prog 185 #[.pointer (some ⟨ib1, 0, none⟩)] (w5.setCell ⟨fb, 3, none⟩ (.int .i64 j)) fun e w' => e = .returned (.iface 205 (.int .i64 y)) ∧ PR w w' lo hi B1 E1 ib1 B2 E2 ib2 mb fb ids xs ys (k1 + 1) k2 (ufun xs ys) cur j c) := fun j =>
      ((hF5.setI j).nodeA (by omega) hlt).mono fun _ _ ⟨h1, q, h2⟩ => ⟨by rw [h1, hyh.out], by rw [h2]; exact (hF5.setI j).drewN q⟩
    clear hg5 hF5 hnx c0 hFh
    go_wp2_with fail
    refine (hnd.out _).mono ?_
    rintro e w6 ⟨rfl, hF6⟩
    have c2 := hF6.c2
    have f2 := hF6.fr 2
    have hfin : Hid (NextPPost w lo hi fb ids xs ys k1 k2 (.returned (.bool true)) (w6.setCell ⟨fb, 2, none⟩ (.iface 205 (.int .i64 y)))) :=
      .inr ⟨y, k1 + 1, k2, rfl, hrem.out, by omega, hk2, B1, E1, ib1, B2, E2, ib2, mb, _, c, hF6.setCur _⟩
    clear hF6 hnd hrem
    go_wp2_with fail
    go_ret
    exact hfin.out
  · have hnx := Lib.hid (hF.endA (by omega) (by omega))
    have hrem : Hid (remP xs ys k1 k2 = remB xs ys k2) := remP_b (by omega)
    clear hF
    go_enter Tryz.func188, Tryz.ntmps188
    go_wp2_with fail
    refine (unhide hnx).mono ?_
    rintro e w5 ⟨rfl, hg5, hF5⟩
    have hF5h := Lib.hid hF5
    clear hg5 hF5 hnx c0 hFh
    go_wp2_with fail
    go_loopg [] (ys.length - k2) (fun gk wr => ∃ (j : Nat), gk = ys.length - j ∧ j ≤ ys.length ∧ remB xs ys j = remB xs ys k2 ∧ PR w wr lo hi B1 E1 ib1 B2 E2 ib2 mb fb ids xs ys (xs.length + 1) j (ufun xs ys) cur i c)
    case atStart => exact ⟨k2, rfl, hk2, rfl, hF5h.out⟩
    case round =>
      clear hF5h
      obtain ⟨j, hgk, hj, hrj, hF⟩ := hrel
      have hgkh := Lib.hid hgk
      have hrjh := Lib.hid hrj
      have c1 := hF.c1
      clear hgk hrj
      by_cases hjl : j < ys.length
      · have hnx := Lib.hid (hF.nextB (by omega) hjl)
        obtain ⟨y, hy⟩ : ∃ y, y = ys[j] := ⟨_, rfl⟩
        have hyl : y ∈ ys := by rw [hy]; exact List.getElem_mem hjl
        have hym : y ∈ ids := hyi y hyl
        have hy64 := h64 y hym
        obtain ⟨ob, hob⟩ : ∃ ob, ob = !decide (y ∈ xs) := ⟨_, rfl⟩
        have hst : Hid (remB xs ys j = if ob then y :: remB xs ys (j + 1) else remB xs ys (j + 1)) := by
          unfold Hid
          rw [remB_step hjl, hob, ← hy]
          by_cases e : y ∈ xs <;> simp [e]
        have huf : ufun xs ys y = some (.bool ob) := by rw [hob]; exact ufun_at hyl
        have hyh := Lib.hid hy
        clear hF hy hob
        go_wp2_with fail
        refine (unhide hnx).mono ?_
        rintro e w6 ⟨rfl, hg6, hF6⟩
        have c61 := hF6.c1
        have c65 := hF6.c5
        have hnd : Hid (∀ i W, PR w W lo hi B1 E1 ib1 B2 E2 ib2 mb fb ids xs ys (xs.length + 1) (j + 1) (ufun xs ys) cur i c → Calls Tryz.prog 185 #[.pointer (some ⟨ib2, 0, none⟩)] W fun e w' => e = .returned (.iface 205 (.int .i64 y)) ∧ PR w w' lo hi B1 E1 ib1 B2 E2 ib2 mb fb ids xs ys (xs.length + 1) (j + 1) (ufun xs ys) cur i c) := fun i W hW =>
          (hW.nodeB (by omega) hjl).mono fun _ _ ⟨h1, q, h2⟩ => ⟨by rw [h1, hyh.out], by rw [h2]; exact hW.drewN q⟩
        have hlk : Hid (∀ i W, PR w W lo hi B1 E1 ib1 B2 E2 ib2 mb fb ids xs ys (xs.length + 1) (j + 1) (ufun xs ys) cur i c → (Instr.lookup 218 (.map (some mb)) (.int .i64 y) false).run Tryz.prog W = .ok (.bool ob) W) := fun i W hW =>
          vmap_look hW.map Tryz.underlying218 (Tryz.zeroValue4 W) hy64 huf
        have hF6h := Lib.hid hF6
        clear hg6 hF6 hnx c1 huf
        go_wp2_with fail
        go_region_law (first
          | (go_simp; go_at_call 185; ((with_reducible refine (hnd.out i _ (by repeat (first | exact hF6h.out | refine PR.drew ?_))).mono ?_)); rintro e w7 ⟨rfl, hF7⟩; have c75 := hF7.c5; have hl7 := hlk.out _ _ hF7; have hF7h := Lib.hid hF7; clear hF7)
          | (go_simp; go_at_call 178; refine (id_any _ _).mono ?_; rintro e w' ⟨rfl, rfl⟩))
        all_goals
          clear hlk hF6h
          cases ob
          · have hrel2 : Hid (remB xs ys (j + 1) = remB xs ys k2) := by unfold Hid; rw [← hrjh.out, hst.out]; rfl
            clear hst hnd
            go_wp2_with fail
            go_roundg (ys.length - (j + 1))
            case measure => have := hgkh.out; omega
            case rel => exact ⟨j + 1, rfl, by omega, hrel2.out, hF7h.out⟩
          · have c73 := hF7h.out.c3
            have f73 := hF7h.out.fr 3
            have c71 := hF7h.out.c1
            have hnd2 : Hid (∀ n, Calls Tryz.prog 185 #[.pointer (some ⟨ib2, 0, none⟩)] (w7.setCell ⟨fb, 3, none⟩ (.int .i64 n)) fun e w' => e = .returned (.iface 205 (.int .i64 y)) ∧ PR w w' lo hi B1 E1 ib1 B2 E2 ib2 mb fb ids xs ys (xs.length + 1) (j + 1) (ufun xs ys) cur n c) := fun n => hnd.out n _ (hF7h.out.setI n)
            clear hnd
            go_wp2_with fail
            refine (hnd2.out _).mono ?_
            rintro e w8 ⟨rfl, hF8⟩
            have c82 := hF8.c2
            have f82 := hF8.fr 2
            have hfin : Hid (NextPPost w lo hi fb ids xs ys k1 k2 (.returned (.bool true)) (w8.setCell ⟨fb, 2, none⟩ (.iface 205 (.int .i64 y)))) :=
              .inr ⟨y, xs.length + 1, j + 1, rfl, by rw [hrem.out, ← hrjh.out, hst.out, remP_b (by omega)]; rfl, by omega, by omega, B1, E1, ib1, B2, E2, ib2, mb, _, c, hF8.setCur _⟩
            clear hF8 hnd2 hst hF7h
            go_wp2_with fail
            go_ret
            exact hfin.out
      · have hjn : j = ys.length := by omega
        subst hjn
        have hnx := Lib.hid (hF.endB (by omega) (.inl rfl))
        clear hF hj
        go_wp2_with fail
        refine (unhide hnx).mono ?_
        rintro e w6 ⟨rfl, hg6, hF6⟩
        have c62 := hF6.c2
        have f62 := hF6.fr 2
        have hfin : Hid (NextPPost w lo hi fb ids xs ys k1 k2 (.returned (.bool false)) (w6.setCell ⟨fb, 2, none⟩ .nilIface)) :=
          .inl ⟨rfl, by rw [hrem.out, ← hrjh.out]; unfold remB; rw [List.drop_length]; rfl, (hF6.setCur .nilIface).kp⟩
        clear hg6 hF6 hnx c1
        go_wp2_with fail
        go_ret
        exact hfin.out

set_option maxHeartbeats 1000000 in
theorem nodeP_pair {w0 w : World} {lo hi fb : Nat} {ids xs ys : List Int} {k1 k2 : Nat} {y : Int} (h0 : PairAt w0 w lo hi fb ids xs ys k1 k2 (.iface 205 (.int .i64 y))) :
    Calls Tryz.prog 189 #[.pointer (some ⟨fb, 0, none⟩)] w fun e w' => e = .returned (.iface 205 (.int .i64 y)) ∧ w = w' := by
  obtain ⟨B1, E1, ib1, B2, E2, ib2, mb, i, c, hF⟩ := h0
  have c2 := hF.c2
  clear hF
  go_enter Tryz.func189, Tryz.ntmps189
  go_wp2_with fail
  go_ret
  exact ⟨rfl, rfl⟩
end Go.Proofs.YtgkimjjodhnmiaaGreat

namespace Go.Proofs.YtgkimjjodhnmiaaGreat
open Go.RowKit Go.Maps

theorem pnext_method (n : Nat) (a : Addr) (w : World) : (method (n + 1) 212 (.pointer (some a)) "Next").run Tryz.prog w = .ok (188, .pointer (some a)) w := by kernel_rfl
theorem pnode_method (n : Nat) (a : Addr) (w : World) : (method (n + 1) 212 (.pointer (some a)) "Node").run Tryz.prog w = .ok (189, .pointer (some a)) w := by kernel_rfl

theorem PairAt.hi {w0 w : World} {lo hi fb : Nat} {ids xs ys : List Int} {k1 k2 : Nat} {cur : Value} (h : PairAt w0 w lo hi fb ids xs ys k1 k2 cur) : hi ≤ w.heap.size := by
  obtain ⟨B1, E1, ib1, B2, E2, ib2, mb, i, c, hF⟩ := h; exact hF.z
theorem PairAt.kp {w0 w : World} {lo hi fb : Nat} {ids xs ys : List Int} {k1 k2 : Nat} {cur : Value} (h : PairAt w0 w lo hi fb ids xs ys k1 k2 cur) : Keeps (fun j => lo ≤ j ∧ j < hi) w0 w := by
  obtain ⟨B1, E1, ib1, B2, E2, ib2, mb, i, c, hF⟩ := h; exact hF.kp
theorem PairAt.same {w0 w w' : World} {lo hi fb : Nat} {ids xs ys : List Int} {k1 k2 : Nat} {cur : Value} (h : PairAt w0 w lo hi fb ids xs ys k1 k2 cur) (hs : w.heap.size ≤ w'.heap.size) (he : ∀ j, j < hi → w'.heap[j]? = w.heap[j]?) : PairAt w' w' lo hi fb ids xs ys k1 k2 cur := by
  obtain ⟨B1, E1, ib1, B2, E2, ib2, mb, i, c, hF⟩ := h
  have b := hF.b
  have b2 := b.h1; have b4 := b.h2; have b7 := b.mh; have b11 := b.fh
  exact ⟨B1, E1, ib1, B2, E2, ib2, mb, i, c, b, Nat.le_trans hF.z hs, hF.i1.same fun j _ hj => he j (by omega), hF.i2.same fun j _ hj => he j (by omega), (he fb b11).trans hF.blk, hF.map.same (he mb b7), Keeps.refl _ _⟩

/-- What stands behind the zone stays, and so does what stands ahead of it. -/
theorem keeps_bel {w w' : World} {B lo hi : Nat} {wz : World} (hk : Keeps (fun j => lo ≤ j ∧ j < hi) w w') (hb : Below B wz w) (hB : B ≤ lo) (hz : B ≤ wz.heap.size) : Below B wz w' :=
  ⟨hk.os.trans hb.os, hk.tape.trans hb.tape, hk.output.trans hb.output, Nat.le_trans hb.size hk.size, fun j hj => (hk.block j (by have := hb.size; omega) (by rintro ⟨h, _⟩; omega)).trans (hb.block j hj)⟩

set_option maxRecDepth 100000 in
set_option maxHeartbeats 4000000 in
theorem iteratedP_any {w0 w : World} {lo hi fb : Nat} {ids xs ys : List Int} {cur : Value} (h64 : ∀ y ∈ ids, In64 y) (hyi : ∀ y ∈ ys, y ∈ ids) (hal : xs.length ≤ 1000) (hbl : ys.length ≤ 1000) (hlo : lo ≤ hi) (h0 : PairAt w0 w lo hi fb ids xs ys 0 0 cur) :
    Calls Tryz.prog 31 #[.iface 212 (.pointer (some ⟨fb, 0, none⟩))] w (WItedPost w lo (remP xs ys 0 0)) := by
  have hih := Lib.hid h0
  have hhi := h0.hi
  have h64h := Lib.hid h64
  have hyih := Lib.hid hyi
  have hmn := pnode_method
  have hmx := pnext_method
  have hlen : (remP xs ys 0 0).length ≤ 2000 := by
    unfold remP remB
    rw [List.length_append, List.drop_zero, List.drop_zero]
    have := List.length_filter_le (fun y => !decide (y ∈ xs)) ys
    omega
  obtain ⟨L, hL⟩ : ∃ L, L = remP xs ys 0 0 := ⟨_, rfl⟩
  rw [← hL] at hlen ⊢
  have hLh := Lib.hid hL
  have hlenh := Lib.hid hlen
  clear h0 h64 hyi hL hlen
  go_enter Tryz.func31, Tryz.ntmps31
  go_wp2_with fail
  go_loopg [3] (L.length) (fun gk s wr => ∃ (k1 k2 m : Nat) (zs : List Int) (b : Option Addr) (cb : Nat) (cur : Value), gk = (remP xs ys k1 k2).length ∧ k1 ≤ xs.length + 1 ∧ k2 ≤ ys.length ∧ m = zs.length ∧ s = .slice b m cb ∧ zs ++ remP xs ys k1 k2 = L ∧ PairAt wr wr lo hi fb ids xs ys k1 k2 cur ∧ wr.ownsRow w.heap.size 3 1 (.slice b m cb) m (ints zs) ∧ Below lo w wr)
  case atStart => exact ⟨0, 0, 0, [], none, 0, cur, by rw [← hLh.out], Nat.zero_le _, Nat.zero_le _, rfl, rfl, hLh.out.symm, hih.out.same (Nat.le_refl _) fun _ _ => rfl, World.ownsRow_nil _ _ _ _, Below.refl _ _⟩
  case round =>
    clear hih
    obtain ⟨k1, k2, m, zs, b, cb, cur, hgk, hk1, hk2, hm, rfl, hzs, hit, hown, hb⟩ := hrel
    have hgkh := Lib.hid hgk
    have hmh := Lib.hid hm
    have hml : m ≤ 2000 := by
      have h1 := congrArg List.length hzs
      rw [List.length_append] at h1
      have h2 := hlenh.out
      omega
    have hzsh := Lib.hid hzs
    have hbs := hb.size
    have hownh := Lib.hid hown
    have hbh := Lib.hid hb
    have hnx := Lib.hid (nextP_any h64h.out hyih.out hal hbl hk1 hk2 hit)
    clear hgk hown hb hm hzs hit hk1 hk2
    go_wp2_with fail
    refine (unhide hnx).mono ?_
    rintro e w5 h5
    have hkp : Keeps (fun j => lo ≤ j ∧ j < hi) wr w5 := by
      rcases h5 with ⟨_, _, h⟩ | ⟨_, _, _, _, _, _, _, h⟩
      · exact h
      · exact h.kp
    have own5 : w5.ownsRow w.heap.size 3 1 (.slice b m cb) m (ints zs) := owns_same hownh.out fun j hj => hkp.block j (hownh.out.lt j hj).2 (by rintro ⟨_, h⟩; have := (hownh.out.lt j hj).1; omega)
    have hb5 : Below lo w w5 := keeps_bel hkp hbh.out (Nat.le_refl _) (by omega)
    have hb5h := Lib.hid hb5
    have own5h := Lib.hid own5
    clear hkp own5 hb5 hnx hownh hbh hbs
    rcases h5 with ⟨rfl, hoff, _⟩ | ⟨y, k1', k2', rfl, hoff, hk1', hk2', hF5⟩
    · have hzl : zs = L := by have := hzsh.out; rwa [hoff, List.append_nil] at this
      have hso := Lib.hid (sortInt_any w.heap.size m cb b zs w5 (by omega) own5h.out)
      have hzlh := Lib.hid hzl
      clear hoff hzl
      go_wp2_with fail
      refine (unhide hso).mono ?_
      rintro e w6 ⟨rfl, own6, hg6⟩
      have hfin : Hid (WItedPost w lo L (.returned (.slice b m cb)) w6) := by
        unfold Hid
        rw [← hzlh.out]
        refine ⟨b, cb, by rw [hmh.out], by rw [← hmh.out]; exact own6, hb5h.out.grown hg6 (by have := hb5h.out.size; omega) (fun j e => by have := (own5h.out.lt j e).1; omega)⟩
      clear own6 hg6 hso own5h hb5h
      go_wp2_with fail
      go_ret
      exact hfin.out
    · have hnd5 := Lib.hid (nodeP_pair hF5)
      have hoffh := Lib.hid hoff
      have hF5h := Lib.hid hF5
      have ho := Lib.hid (fun o => own5h.out.alloc o)
      have hst := Lib.hid (fun o b2 c2 w2 (h2 : w2.ownsRow w.heap.size 3 1 (.slice b2 (m + 1) c2) (m + 1) (ints zs ++ [.int .i64 y])) (hg : (w5.alloc o).grownBy w2 (Value.slice b m cb).ownBlock) =>
        have r := wnum_step (zs' := zs ++ [y]) rfl own5h.out hb5h.out (by omega) h2 hg
        And.intro r.1 (And.intro r.2.1 (hF5h.out.same (w' := w2) (by have := hg.size; simp at this; omega) fun j hj => r.2.2 j (by omega))))
      have hz5 := hb5h.out.size
      clear hoff hF5 hb5h own5h
      go_wp2_with (first
        | (go_at_call 189; refine (unhide hnd5).mono ?_; rintro e w6 ⟨rfl, rfl⟩)
        | (go_at_call 41; refine (number_any _ _).mono ?_; rintro e w' ⟨rfl, rfl⟩)
        | (at_builtin; refine append_law 22 3 (.int .i64 0) 1 8 Tryz.underlying22 info_int rfl (by omega) (by omega) rfl _ _ rfl w.heap.size b m cb (ints zs) rfl (unhide ho _) ⟨w5.heap.size, 0, none⟩ 1 1 [.int .i64 y] rfl rfl (new_one w5 _ _) (one_int _) (by omega) (by simp; omega) ?_; intro b2 c2 w2 hown2 hg2 hat2; have hf := Lib.hid (unhide hst _ _ _ _ hown2 hg2); clear hown2 hg2 hat2 ho hst))
      go_roundg ((remP xs ys k1' k2').length)
      case measure => have h1 := hgkh.out; have h2 := congrArg List.length hoffh.out; rw [List.length_cons] at h2; omega
      case rel => exact ⟨k1', k2', m + 1, zs ++ [y], b2, c2, _, rfl, hk1', hk2', by rw [List.length_append, ← hmh.out]; rfl, rfl, by rw [List.append_assoc]; show zs ++ (y :: remP xs ys k1' k2') = _; rw [← hoffh.out]; exact hzsh.out, hf.out.2.2, hf.out.1, hf.out.2.1⟩

set_option maxRecDepth 100000 in
set_option maxHeartbeats 2000000 in
theorem iteratedON_any (B E ib : Nat) (ns : List Int) (w : World) (hn : ns.length ≤ 1000) (hi : IterAt w B E ib 0 ns) (hE : E ≤ w.heap.size) :
    Calls Tryz.prog 31 #[.iface 208 (.pointer (some ⟨ib, 0, none⟩))] w (WItedPost w B ns) := by
  have hib := hi.1
  have hie := hi.2.1
  have hih := Lib.hid hi
  have hmn := oo_node
  clear hi
  go_enter Tryz.func31, Tryz.ntmps31
  go_wp2_with fail
  go_loopg [3] (ns.length) (fun gk s wr => ∃ (k : Nat) (b : Option Addr) (cb : Nat), gk = ns.length - k ∧ k ≤ ns.length ∧ s = .slice b k cb ∧ IterAt wr B E ib k ns ∧ wr.ownsRow w.heap.size 3 1 (.slice b k cb) k (ints (ns.take k)) ∧ Below B w wr)
  case atStart => exact ⟨0, none, 0, rfl, Nat.zero_le _, rfl, hih.out, World.ownsRow_nil _ _ _ _, Below.refl _ _⟩
  case round =>
    clear hih
    obtain ⟨k, b, cb, hgk, hk, rfl, hit, hown, hb⟩ := hrel
    have hgkh := Lib.hid hgk
    clear hgk
    have hbs := hb.size
    have hownh := Lib.hid hown
    have hbh := Lib.hid hb
    clear hown hb
    by_cases hlt : k < ns.length
    · have hnx := Lib.hid (next_any B E ib k ns wr hk (by omega) hit)
      have hd : decide (k < ns.length) = true := decide_eq_true hlt
      rw [hd] at hnx
      obtain ⟨y, hy⟩ : ∃ y, y = ns[k] := ⟨_, rfl⟩
      have htk : Hid (ns.take (k + 1) = ns.take k ++ [y]) := by unfold Hid; rw [List.take_succ_eq_append_getElem hlt, ← hy]
      have hnd := Lib.hid (fun (W : World) (hi : IterAt W B E ib (k + 1) ns) => node_any B E ib k ns W hlt (by omega) hi)
      rw [← hy] at hnd
      clear hd hy hit
      go_wp2_with fail
      refine (unhide hnx).mono ?_
      rintro e w5 ⟨rfl, hg5, hi5⟩
      have hi5' := hi5 hlt
      have own5 : w5.ownsRow w.heap.size 3 1 (.slice b k cb) k (ints (ns.take k)) := hownh.out.kept hg5 (.inr fun e => by have := (hownh.out.lt ib e).1; omega)
      have hb5 : Below B w w5 := hbh.out.grown hg5 (by omega) (fun j e => by injection e with e; omega)
      have hnd5 := Lib.hid (hnd.out w5 hi5')
      have hi5h := Lib.hid hi5'
      have hb5h := Lib.hid hb5
      have own5h := Lib.hid own5
      clear hg5 hi5 hi5' own5 hb5 hnx hnd hownh hbh hbs
      go_wp2_with fail
      refine (unhide hnd5).mono ?_
      rintro e w6 ⟨rfl, q, hw6⟩
      have own6 : w6.ownsRow w.heap.size 3 1 (.slice b k cb) k (ints (ns.take k)) := by rw [hw6]; exact owns_same own5h.out fun _ _ => rfl
      have hb6 : Below B w w6 := by rw [hw6]; exact below_draws hb5h.out q
      have hi6 : IterAt w6 B E ib (k + 1) ns := by rw [hw6]; exact hi5h.out.same fun _ _ _ => rfl
      have ho := Lib.hid (fun o => own6.alloc o)
      have hst := Lib.hid (fun o b2 c2 w2 (h2 : w2.ownsRow w.heap.size 3 1 (.slice b2 (k + 1) c2) (k + 1) (ints (ns.take k) ++ [.int .i64 y])) (hg : (w6.alloc o).grownBy w2 (Value.slice b k cb).ownBlock) =>
        have r := wnum_step (zs' := ns.take (k + 1)) htk.out own6 hb6 (by omega) h2 hg
        And.intro r.1 (And.intro r.2.1 (hi6.same (w' := w2) fun j _ hj => r.2.2 j (by omega))))
      have hz6 := hb6.size
      clear hw6 own6 hb6 hi6 hnd5 hb5h own5h hi5h htk
      go_wp2_with (first
        | (go_at_call 41; refine (number_any _ _).mono ?_; rintro e w' ⟨rfl, rfl⟩)
        | (at_builtin; refine append_law 22 3 (.int .i64 0) 1 8 Tryz.underlying22 info_int rfl (by omega) (by omega) rfl _ _ rfl w.heap.size b k cb (ints (ns.take k)) rfl (unhide ho _) ⟨w6.heap.size, 0, none⟩ 1 1 [.int .i64 y] rfl rfl (new_one w6 _ _) (one_int _) (by omega) (by simp; omega) ?_; intro b2 c2 w2 hown2 hg2 hat2; have hf := Lib.hid (unhide hst _ _ _ _ hown2 hg2); clear hown2 hg2 hat2))
      go_roundg (ns.length - (k + 1))
      case measure => have := hgkh.out; omega
      case rel => exact ⟨k + 1, b2, c2, rfl, by omega, rfl, hf.out.2.2, hf.out.1, hf.out.2.1⟩
    · have hkn : k = ns.length := by omega
      subst hkn
      have hnx := Lib.hid (nextOver_any B E ib ns.length ns wr (by omega) (.inl rfl) hit)
      clear hit
      go_wp2_with fail
      refine (unhide hnx).mono ?_
      rintro e w5 ⟨rfl, hg5, hi5⟩
      have own5 : w5.ownsRow w.heap.size 3 1 (.slice b ns.length cb) ns.length (ints ns) := by
        have := hownh.out.kept hg5 (.inr fun e => by have := (hownh.out.lt ib e).1; omega)
        rwa [List.take_length] at this
      have hb5 : Below B w w5 := hbh.out.grown hg5 (by omega) (fun j e => by injection e with e; omega)
      have hso := Lib.hid (sortInt_any w.heap.size ns.length cb b ns w5 (by omega) own5)
      have hlt5 : Hid (∀ j, (Value.slice b ns.length cb).ownBlock = some j → w.heap.size ≤ j) := fun j e => (own5.lt j e).1
      have hb5h := Lib.hid hb5
      clear hg5 hi5 own5 hb5 hnx hownh hbh hbs
      go_wp2_with fail
      refine (unhide hso).mono ?_
      rintro e w6 ⟨rfl, own6, hg6⟩
      have hfin : Hid (WItedPost w B ns (.returned (.slice b ns.length cb)) w6) :=
        ⟨b, cb, rfl, own6, hb5h.out.grown hg6 (by have := hb5h.out.size; omega) (fun j e => by have := hlt5.out j e; omega)⟩
      clear own6 hg6 hso hlt5 hb5h
      go_wp2_with fail
      go_ret
      exact hfin.out
end Go.Proofs.YtgkimjjodhnmiaaGreat
