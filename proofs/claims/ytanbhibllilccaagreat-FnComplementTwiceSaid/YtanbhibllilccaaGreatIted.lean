/- impl.iterated: the numbers of the nodes that an iterator has, ascending. -/
import Derived.Test.YtanbhibllilccaaGreatFilt
import Derived.Test.YtanbhibllilccaaGreatNumbers
namespace Go.Proofs.YtanbhibllilccaaGreat
open Go.RowKit

theorem numbers_step {w wr w2 : World} {B k : Nat} {b b2 : Option Addr} {cb c2 : Nat} {zs zs' : List Int} {y : Int} {o : Obj} (hz : zs' = zs ++ [y]) (hown : wr.ownsRow w.heap.size 3 1 (.slice b k cb) k (ints zs)) (hb : Below B w wr) (hB : B ≤ w.heap.size)
    (h2 : w2.ownsRow w.heap.size 3 1 (.slice b2 (k + 1) c2) (k + 1) (ints zs ++ [.int .i64 y])) (hg : (wr.alloc o).grownBy w2 (Value.slice b k cb).ownBlock) :
    w2.ownsRow w.heap.size 3 1 (.slice b2 (k + 1) c2) (k + 1) (ints zs') ∧ Below B w w2 ∧ ∀ j, j < w.heap.size → w2.heap[j]? = wr.heap[j]? := by
  have e : ints zs' = ints zs ++ [.int .i64 y] := by rw [hz]; unfold ints; rw [List.map_append]; rfl
  have hs := hb.size
  refine ⟨by rw [e]; exact h2, (hb.alloc (by omega) o).grown hg (by simp; omega) (fun j e => by have := (hown.lt j e).1; omega), fun j hj => ?_⟩
  rw [hg.block j (by simp; omega) (fun e => by have := (hown.lt j e.symm).1; omega), Below.heap_alloc _ _ _ (by omega)]

/-- What impl.iterated gives. -/
def ItedPost (w : World) (B : Nat) (l : List Int) (e : Ending) (w' : World) : Prop :=
  ∃ (a : Option Addr) (c : Nat), e = .returned (.slice a l.length c) ∧ w'.ownsRow w.heap.size 3 1 (.slice a l.length c) l.length (ints (asc l)) ∧ Below B w w'

set_option maxRecDepth 100000 in
set_option maxHeartbeats 2000000 in
theorem iteratedO_any (B E ib : Nat) (ns : List Int) (w : World) (hn : ns.length ≤ 1000) (hi : IterAt w B E ib 0 ns) (hE : E ≤ w.heap.size) :
    Calls Tryz.prog 37 #[.iface 256 (.pointer (some ⟨ib, 0, none⟩))] w (ItedPost w B ns) := by
  have hib := hi.1
  have hie := hi.2.1
  have hih := Lib.hid hi
  have hmn := onode_method
  clear hi
  go_enter Tryz.func37, Tryz.ntmps37
  go_wp2_with fail
  go_loopg [3] (ns.length) (fun gk s wr => ∃ (k : Nat) (b : Option Addr) (cb : Nat), gk = ns.length - k ∧ k ≤ ns.length ∧ s = .slice b k cb ∧ IterAt wr B E ib k ns ∧ wr.ownsRow w.heap.size 3 1 (.slice b k cb) k (ints (ns.take k)) ∧ Below B w wr)
  case atStart => exact ⟨0, none, 0, rfl, Nat.zero_le _, rfl, hih.out, World.ownsRow_nil _ _ _ _, Below.refl _ _⟩
  case round =>
    clear hih
    obtain ⟨k, b, cb, hgk, hk, rfl, hit, hown, hb⟩ := hrel
    have hgkh := Lib.hid hgk
    clear hgk
    have hbs := hb.size
    have hownh := Lib.hid hown
    have hbh := Lib.hid hb
    clear hown hb
    by_cases hlt : k < ns.length
    · have hnx := Lib.hid (next_any B E ib k ns wr hk (by omega) hit)
      have hd : decide (k < ns.length) = true := decide_eq_true hlt
      rw [hd] at hnx
      obtain ⟨y, hy⟩ : ∃ y, y = ns[k] := ⟨_, rfl⟩
      have htk : Hid (ns.take (k + 1) = ns.take k ++ [y]) := by unfold Hid; rw [List.take_succ_eq_append_getElem hlt, ← hy]
      have hnd := Lib.hid (fun (W : World) (hi : IterAt W B E ib (k + 1) ns) => node_any B E ib k ns W hlt (by omega) hi)
      rw [← hy] at hnd
      clear hd hy hit
      go_wp2_with fail
      refine (unhide hnx).mono ?_
      rintro e w5 ⟨rfl, hg5, hi5⟩
      have hi5' := hi5 hlt
      have own5 : w5.ownsRow w.heap.size 3 1 (.slice b k cb) k (ints (ns.take k)) := hownh.out.kept hg5 (.inr fun e => by have := (hownh.out.lt ib e).1; omega)
      have hb5 : Below B w w5 := hbh.out.grown hg5 (by omega) (fun j e => by injection e with e; omega)
      have hnd5 := Lib.hid (hnd.out w5 hi5')
      have hi5h := Lib.hid hi5'
      have hb5h := Lib.hid hb5
      have own5h := Lib.hid own5
      clear hg5 hi5 hi5' own5 hb5 hnx hnd hownh hbh hbs
      go_wp2_with fail
      refine (unhide hnd5).mono ?_
      rintro e w6 ⟨rfl, q, hw6⟩
      have own6 : w6.ownsRow w.heap.size 3 1 (.slice b k cb) k (ints (ns.take k)) := by rw [hw6]; exact owns_same own5h.out fun _ _ => rfl
      have hb6 : Below B w w6 := by rw [hw6]; exact below_draws hb5h.out q
      have hi6 : IterAt w6 B E ib (k + 1) ns := by rw [hw6]; exact hi5h.out.same fun _ _ _ => rfl
      have ho := Lib.hid (fun o => own6.alloc o)
      have hst := Lib.hid (fun o b2 c2 w2 (h2 : w2.ownsRow w.heap.size 3 1 (.slice b2 (k + 1) c2) (k + 1) (ints (ns.take k) ++ [.int .i64 y])) (hg : (w6.alloc o).grownBy w2 (Value.slice b k cb).ownBlock) =>
        have r := numbers_step (zs' := ns.take (k + 1)) htk.out own6 hb6 (by omega) h2 hg
        And.intro r.1 (And.intro r.2.1 (hi6.same (w' := w2) fun j _ hj => r.2.2 j (by omega))))
      have hz6 := hb6.size
      clear hw6 own6 hb6 hi6 hnd5 hb5h own5h hi5h htk
      go_wp2_with (first
        | (go_at_call 55; refine (number_any _ _).mono ?_; rintro e w' ⟨rfl, rfl⟩)
        | (at_builtin; refine append_law 22 3 (.int .i64 0) 1 8 Tryz.underlying22 info_int rfl (by omega) (by omega) rfl _ _ rfl w.heap.size b k cb (ints (ns.take k)) rfl (unhide ho _) ⟨w6.heap.size, 0, none⟩ 1 1 [.int .i64 y] rfl rfl (new_one w6 _ _) (one_int _) (by omega) (by simp; omega) ?_; intro b2 c2 w2 hown2 hg2 hat2; have hf := Lib.hid (unhide hst _ _ _ _ hown2 hg2); clear hown2 hg2 hat2))
      go_roundg (ns.length - (k + 1))
      case measure => have := hgkh.out; omega
      case rel => exact ⟨k + 1, b2, c2, rfl, by omega, rfl, hf.out.2.2, hf.out.1, hf.out.2.1⟩
    · have hkn : k = ns.length := by omega
      subst hkn
      have hnx := Lib.hid (nextEnd_any B E ib ns wr (by omega) hit)
      clear hit
      go_wp2_with fail
      refine (unhide hnx).mono ?_
      rintro e w5 ⟨rfl, hg5, hi5⟩
      have own5 : w5.ownsRow w.heap.size 3 1 (.slice b ns.length cb) ns.length (ints ns) := by
        have := hownh.out.kept hg5 (.inr fun e => by have := (hownh.out.lt ib e).1; omega)
        rwa [List.take_length] at this
      have hb5 : Below B w w5 := hbh.out.grown hg5 (by omega) (fun j e => by injection e with e; omega)
      have hso := Lib.hid (sortInt_any w.heap.size ns.length cb b ns w5 (by omega) own5)
      have hlt5 : Hid (∀ j, (Value.slice b ns.length cb).ownBlock = some j → w.heap.size ≤ j) := fun j e => (own5.lt j e).1
      have hb5h := Lib.hid hb5
      clear hg5 hi5 own5 hb5 hnx hownh hbh hbs
      go_wp2_with fail
      refine (unhide hso).mono ?_
      rintro e w6 ⟨rfl, own6, hg6⟩
      have hfin : Hid (ItedPost w B ns (.returned (.slice b ns.length cb)) w6) :=
        ⟨b, cb, rfl, own6, hb5h.out.grown hg6 (by have := hb5h.out.size; omega) (fun j e => by have := hlt5.out j e; omega)⟩
      clear own6 hg6 hso hlt5 hb5h
      go_wp2_with fail
      go_ret
      exact hfin.out

theorem FIterAt.ib {w : World} {B E fb ib k : Nat} {ids fil : List Int} (h : FIterAt w B E fb ib k ids fil) : B ≤ ib ∧ ib < E := by
  obtain ⟨mb, Bi, Ei, h1, h2, hit, _⟩ := h
  have q1 := hit.1
  have q2 := hit.2.1
  exact ⟨by omega, by omega⟩
theorem offF_len (fil ids : List Int) : (offF fil ids).length ≤ ids.length := List.length_filter_le _ _

set_option maxRecDepth 100000 in
set_option maxHeartbeats 2000000 in
theorem iteratedF_any (B E fb ib : Nat) (ids fil : List Int) (w : World) (hids : ids.length ≤ 1000) (h64 : ∀ y ∈ ids, In64 y) (hi : FIterAt w B E fb ib 0 ids fil) (hE : E ≤ w.heap.size) :
    Calls Tryz.prog 37 #[.iface 245 (.pointer (some ⟨fb, 0, none⟩))] w (ItedPost w B (offF fil ids)) := by
  have hib := hi.ib.1
  have hie := hi.ib.2
  have hih := Lib.hid hi
  have h64h := Lib.hid h64
  have hmn := fnode_method
  have hmx := fnext_method
  have hlen := Lib.hid (offF_len fil ids)
  clear hi h64
  go_enter Tryz.func37, Tryz.ntmps37
  go_wp2_with fail
  go_loopg [3] ((offF fil ids).length) (fun gk s wr => ∃ (k m : Nat) (zs : List Int) (b : Option Addr) (cb : Nat), gk = (offF fil (ids.drop k)).length ∧ k ≤ ids.length ∧ m = zs.length ∧ s = .slice b m cb ∧ zs ++ offF fil (ids.drop k) = offF fil ids ∧ FIterAt wr B E fb ib k ids fil ∧ wr.ownsRow w.heap.size 3 1 (.slice b m cb) m (ints zs) ∧ Below B w wr)
  case atStart => exact ⟨0, 0, [], none, 0, rfl, Nat.zero_le _, rfl, rfl, rfl, hih.out, World.ownsRow_nil _ _ _ _, Below.refl _ _⟩
  case round =>
    clear hih
    obtain ⟨k, m, zs, b, cb, hgk, hk, hm, rfl, hzs, hit, hown, hb⟩ := hrel
    have hgkh := Lib.hid hgk
    have hmh := Lib.hid hm
    have hml : m ≤ 1000 := by
      have h1 := congrArg List.length hzs
      rw [List.length_append] at h1
      have h2 := hlen.out
      omega
    have hzsh := Lib.hid hzs
    have hbs := hb.size
    have hownh := Lib.hid hown
    have hbh := Lib.hid hb
    have hnx := Lib.hid (nextF_any B E fb ib k ids fil wr hids h64h.out hk hit)
    clear hgk hown hb hm hzs hit hk
    go_wp2_with fail
    refine (unhide hnx).mono ?_
    rintro e w5 ⟨hg5, h5⟩
    have own5 : w5.ownsRow w.heap.size 3 1 (.slice b m cb) m (ints zs) := hownh.out.kept hg5 (.inr fun e => by have := (hownh.out.lt ib e).1; omega)
    have hb5 : Below B w w5 := hbh.out.grown hg5 (by omega) (fun j e => by injection e with e; omega)
    have hb5h := Lib.hid hb5
    have own5h := Lib.hid own5
    clear hg5 own5 hb5 hnx hownh hbh hbs
    rcases h5 with ⟨rfl, hoff⟩ | ⟨j, hj, rfl, hoff, hF5⟩
    · have hzl : zs = offF fil ids := by have := hzsh.out; rwa [hoff, List.append_nil] at this
      have hso := Lib.hid (sortInt_any w.heap.size m cb b zs w5 (by omega) own5h.out)
      have hzlh := Lib.hid hzl
      clear hoff hzl
      go_wp2_with fail
      refine (unhide hso).mono ?_
      rintro e w6 ⟨rfl, own6, hg6⟩
      have hfin : Hid (ItedPost w B (offF fil ids) (.returned (.slice b m cb)) w6) := by
        unfold Hid
        rw [← hzlh.out]
        refine ⟨b, cb, by rw [hmh.out], by rw [← hmh.out]; exact own6, hb5h.out.grown hg6 (by have := hb5h.out.size; omega) (fun j e => by have := (own5h.out.lt j e).1; omega)⟩
      clear own6 hg6 hso own5h hb5h
      go_wp2_with fail
      go_ret
      exact hfin.out
    · obtain ⟨y, hy⟩ : ∃ y, y = ids[j] := ⟨_, rfl⟩
      have hnd := nodeF_any B E fb ib j ids fil w5 hids hj hF5
      rw [← hy] at hnd hoff
      have hnd5 := Lib.hid hnd
      have hoffh := Lib.hid hoff
      have hF5h := Lib.hid hF5
      clear hnd hoff hF5 hy
      go_wp2_with fail
      refine (unhide hnd5).mono ?_
      rintro e w6 ⟨rfl, q, hw6⟩
      have own6 : w6.ownsRow w.heap.size 3 1 (.slice b m cb) m (ints zs) := by rw [hw6]; exact owns_same own5h.out fun _ _ => rfl
      have hb6 : Below B w w6 := by rw [hw6]; exact below_draws hb5h.out q
      have hF6 : FIterAt w6 B E fb ib (j + 1) ids fil := by rw [hw6]; exact hF5h.out.same fun _ _ _ => rfl
      have ho := Lib.hid (fun o => own6.alloc o)
      have hst := Lib.hid (fun o b2 c2 w2 (h2 : w2.ownsRow w.heap.size 3 1 (.slice b2 (m + 1) c2) (m + 1) (ints zs ++ [.int .i64 y])) (hg : (w6.alloc o).grownBy w2 (Value.slice b m cb).ownBlock) =>
        have r := numbers_step (zs' := zs ++ [y]) rfl own6 hb6 (by omega) h2 hg
        And.intro r.1 (And.intro r.2.1 (hF6.same (w' := w2) fun j _ hj => r.2.2 j (by omega))))
      have hz6 := hb6.size
      clear hw6 own6 hb6 hF6 hnd5 hb5h own5h hF5h
      go_wp2_with (first
        | (go_at_call 55; refine (number_any _ _).mono ?_; rintro e w' ⟨rfl, rfl⟩)
        | (at_builtin; refine append_law 22 3 (.int .i64 0) 1 8 Tryz.underlying22 info_int rfl (by omega) (by omega) rfl _ _ rfl w.heap.size b m cb (ints zs) rfl (unhide ho _) ⟨w6.heap.size, 0, none⟩ 1 1 [.int .i64 y] rfl rfl (new_one w6 _ _) (one_int _) (by omega) (by simp; omega) ?_; intro b2 c2 w2 hown2 hg2 hat2; have hf := Lib.hid (unhide hst _ _ _ _ hown2 hg2); clear hown2 hg2 hat2))
      go_roundg ((offF fil (ids.drop (j + 1))).length)
      case measure => have h1 := hgkh.out; have h2 := congrArg List.length hoffh.out; rw [List.length_cons] at h2; omega
      case rel => exact ⟨j + 1, m + 1, zs ++ [y], b2, c2, rfl, by omega, by rw [List.length_append, ← hmh.out]; rfl, rfl, by rw [List.append_assoc]; show zs ++ (y :: offF fil (ids.drop (j + 1))) = _; rw [← hoffh.out]; exact hzsh.out, hf.out.2.2, hf.out.1, hf.out.2.1⟩
end Go.Proofs.YtanbhibllilccaaGreat
