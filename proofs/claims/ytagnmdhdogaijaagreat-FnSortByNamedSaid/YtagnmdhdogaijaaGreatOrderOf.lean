/- laws.rolled at []int; laws.orderOf: an order of the nodes. -/
import Derived.Test.YtagnmdhdogaijaaGreatNumbers
import Derived.Test.YtagnmdhdogaijaaGreatParts
import Derived.Test.YtagnmdhdogaijaaGreatByBad1
import Derived.Shelf.Slices.Reverse
import Derived.BigRegion
namespace Go.Proofs.YtagnmdhdogaijaaGreat
open Go.RowKit Go.Sort Go.Lib

theorem reverseInt_any (base n cap : Nat) (a : Option Addr) (zs : List Int) (w : World) (hn : n ≤ 1048576) (hown : w.ownsRow base 3 1 (.slice a n cap) n (ints zs)) :
    Calls Tryz.prog 59 #[.slice a n cap] w fun e w' => e = .returned (.tuple #[]) ∧ w'.ownsRow base 3 1 (.slice a n cap) n (ints zs.reverse) ∧ w.grownBy w' (Value.slice a n cap).ownBlock := by
  have hl : zs.length = n := by have := hown.1; simpa [ints] using this
  by_cases h0 : n = 0
  · subst h0
    have hz : zs = [] := List.eq_nil_of_length_eq_zero hl
    subst hz
    refine (Tryz.slices_Reverse_int_empty a cap w).mono ?_
    rintro e w' ⟨rfl, rfl⟩
    exact ⟨rfl, hown, World.grownBy.refl _ _⟩
  · obtain ⟨g, rfl, _, hg, _⟩ := owns_at hown (by omega)
    subst hl
    refine (Tryz.slices_Reverse_int g 0 cap zs w (holds_owns hown) (by omega)).mono ?_
    rintro e w' ⟨rfl, k, rfl⟩
    refine ⟨rfl, ?_, ?_⟩
    · have := owns_put (os := #[]) (k := k) (ys := zs.reverse) hown List.length_reverse
      rwa [grow_empty] at this
    · have := grown_put (w := w) (g := g) (n := k) (os := #[]) zs.reverse.toArray
      rwa [grow_empty] at this

/-- A list that begins b8 places on. -/
def rot (zs : List Int) (b8 : Nat) : List Int := zs.drop (b8 % zs.length) ++ zs.take (b8 % zs.length)
theorem rot_perm (zs : List Int) (b8 : Nat) : (rot zs b8).Perm zs := by
  unfold rot
  exact List.perm_append_comm.trans (by rw [List.take_append_drop])
theorem rot_length (zs : List Int) (b8 : Nat) : (rot zs b8).length = zs.length := (rot_perm zs b8).length_eq
theorem rot_get {zs : List Int} {b8 k : Nat} (hk : k < zs.length) : (rot zs b8)[k]'(by rw [rot_length]; exact hk) = zs[(k + b8) % zs.length]'(Nat.mod_lt _ (by omega)) := by
  have hr : b8 % zs.length < zs.length := Nat.mod_lt _ (by omega)
  have e : (k + b8) % zs.length = (k + b8 % zs.length) % zs.length := by rw [Nat.add_mod_mod]
  unfold rot
  by_cases h : k < zs.length - b8 % zs.length
  · have e1 : (k + b8) % zs.length = b8 % zs.length + k := by
      rw [e, Nat.add_comm]
      exact Nat.mod_eq_of_lt (by omega)
    rw [List.getElem_append_left (by rw [List.length_drop]; exact h), List.getElem_drop]
    simp only [e1]
  · have e1 : (k + b8) % zs.length = k - (zs.length - b8 % zs.length) := by
      rw [e, Nat.mod_eq_sub_mod (by omega)]
      exact (Nat.mod_eq_of_lt (by omega)).trans (by omega)
    rw [List.getElem_append_right (by rw [List.length_drop]; omega), List.getElem_take]
    simp only [e1, List.length_drop]

theorem tmod_nat (a n : Nat) : ((a : Int)).tmod (n : Int) = ((a % n : Nat) : Int) := by rw [Int.ofNat_tmod]

set_option maxHeartbeats 1000000 in
theorem rolled_any (a : Option Addr) (n c b8 : Nat) (zs : List Int) (w : World) (hl : n = zs.length) (hn : n ≤ 1000) (h8 : b8 < 256) (hc : Cells w a (ints zs)) :
    Calls Tryz.prog 44 #[.slice a n c, .int .u8 b8] w fun e w' => ∃ a1 c1 ys, e = .returned (.slice a1 n c1) ∧ ys.Perm zs ∧ w'.ownsRow w.heap.size 3 1 (.slice a1 n c1) n (ints ys) ∧ Below w.heap.size w w' := by
  subst hl
  have hch := Lib.hid hc
  have hrl := rot_length zs b8
  obtain ⟨rs, hrs⟩ : ∃ rs, rs = rot zs b8 := ⟨_, rfl⟩
  have hget : Hid (∀ k (hk : k < rs.length) (hk' : k < zs.length), rs[k] = zs[(k + b8) % zs.length]'(Nat.mod_lt _ (by omega))) := fun k hk hk' => by subst hrs; exact rot_get hk'
  have hperm : Hid (rs.Perm zs) := by rw [hrs]; exact rot_perm zs b8
  rw [← hrs] at hrl
  clear hc hrs
  go_enter Tryz.func44, Tryz.ntmps44
  go_wp2
  go_loopw [5, 6] (fun s i wr => ∃ (k : Nat) (b : Option Addr) (cb : Nat), k ≤ zs.length ∧ i = .int .i64 k ∧ s = .slice b k cb ∧ wr.ownsRow w.heap.size 3 1 (.slice b k cb) k (ints (rs.take k)) ∧ Below w.heap.size w wr) (fun _ i _ => zs.length - (intOf i).toNat)
  case atStart => exact ⟨0, none, 0, Nat.zero_le _, rfl, rfl, World.ownsRow_nil _ _ _ _, Below.refl _ _⟩
  case round =>
    obtain ⟨k, b, cb, hk, rfl, rfl, hown, hb⟩ := hrel
    by_cases hlt : k < zs.length
    · obtain ⟨m, hm⟩ : ∃ m, m = (k + b8) % zs.length := ⟨_, rfl⟩
      have hml : m < zs.length := by rw [hm]; exact Nat.mod_lt _ (by omega)
      obtain ⟨nb, no, rfl, _, hr⟩ := (hch.out.below hb).at (by rw [ints_length]; omega)
      have hnd := hr _ _ (ints_get zs m hml)
      obtain ⟨x, hx⟩ : ∃ x, x = zs[m] := ⟨_, rfl⟩
      rw [← hx] at hnd
      have htk : Hid (ints (rs.take (k + 1)) = ints (rs.take k) ++ [.int .i64 x]) := by
        have e : rs[k]'(by omega) = x := by rw [hget.out k (by omega) hlt, hx]; congr 1; exact hm.symm
        unfold Hid; rw [List.take_succ_eq_append_getElem (by omega), e]; unfold ints; rw [List.map_append]; rfl
      have hBs := hb.size
      have ho := Lib.hid (fun o => hown.alloc o)
      have hfin := Lib.hid (fun o b2 c2 w2 (h2 : w2.ownsRow w.heap.size 3 1 (.slice b2 (k + 1) c2) (k + 1) (ints (rs.take k) ++ [.int .i64 x])) (hg : (wr.alloc o).grownBy w2 (Value.slice b k cb).ownBlock) =>
        show w2.ownsRow w.heap.size 3 1 (.slice b2 (k + 1) c2) (k + 1) (ints (rs.take (k + 1))) ∧ Below w.heap.size w w2 from
          ⟨by rw [htk.out]; exact h2, (hb.alloc hBs o).grown hg (by simp; omega) (fun j e => (hown.lt j e).1)⟩)
      have ht : ((k : Int) + (b8 : Int)).tmod (zs.length : Int) = (m : Int) := by rw [hm, ← tmod_nat]; congr 1
      clear hx hr hown hb htk hm
      go_wp2_with (at_builtin; refine append_law 22 3 (.int .i64 0) 1 8 Tryz.underlying22 info_int rfl (by omega) (by omega) rfl _ _ rfl w.heap.size b k cb (ints (rs.take k)) rfl (unhide ho _) ⟨wr.heap.size, 0, none⟩ 1 1 [.int .i64 x] rfl rfl (new_one wr _ _) (one_int _) (by omega) (by simp; omega) ?_; intro b2 c2 w2 hown2 hg2 hat2; have hf := Lib.hid (unhide hfin _ _ _ _ hown2 hg2); clear hown2 hg2 hat2)
      go_roundw
      case rel => exact ⟨k + 1, b2, c2, by omega, by go_num, rfl, hf.out.1, hf.out.2⟩
      case measure => simp [intOf]; omega
    · have hkn : k = zs.length := by omega
      subst hkn
      rw [List.take_of_length_le (by omega)] at hown
      have hrev := Lib.hid (reverseInt_any w.heap.size _ cb b rs wr (by omega) hown)
      have hownh := Lib.hid hown
      have hbh := Lib.hid hb
      have hlow : Hid (∀ j, (Value.slice b zs.length cb).ownBlock = some j → w.heap.size ≤ j) := fun j e => (hown.lt j e).1
      clear hown hb
      rcases Nat.mod_two_eq_zero_or_one b8 with h2 | h2
      · have ht : ((b8 : Int)).tmod 2 = 0 := by have := tmod_nat b8 2; rw [h2] at this; exact this
        clear h2
        go_wp2_with fail
        go_ret
        exact ⟨_, _, rs, rfl, hperm.out, hownh.out, hbh.out⟩
      · have ht : ((b8 : Int)).tmod 2 = 1 := by have := tmod_nat b8 2; rw [h2] at this; exact this
        clear h2
        go_wp2_with fail
        refine (unhide hrev).mono ?_
        rintro e w5 ⟨rfl, h5, hg5⟩
        have hfin : Hid (rs.reverse.Perm zs ∧ w5.ownsRow w.heap.size 3 1 (.slice b zs.length cb) zs.length (ints rs.reverse) ∧ Below w.heap.size w w5) :=
          ⟨(List.reverse_perm _).trans hperm.out, h5, hbh.out.grown hg5 hbh.out.size (fun j e => hlow.out j e)⟩
        clear h5 hg5
        go_wp2_with fail
        go_ret
        exact ⟨_, _, _, rfl, hfin.out.1, hfin.out.2.1, hfin.out.2.2⟩

/-- Bytes in memory. -/
def bytes8 (bs : List Nat) : List Value := bs.map fun (b : Nat) => Value.int .u8 (b : Int)
theorem bytes8_length (bs : List Nat) : (bytes8 bs).length = bs.length := List.length_map _
theorem bytes8_get (bs : List Nat) (k : Nat) (hk : k < bs.length) : (bytes8 bs)[k]? = some (.int .u8 (bs[k] : Int)) := by unfold bytes8; rw [List.getElem?_map, List.getElem?_eq_getElem hk]; rfl

/-- An exchange in a list keeps its numbers. -/
theorem set_set_perm (ys : List Int) {i j : Nat} (hi : i < ys.length) (hj : j < ys.length) : ((ys.set i ys[j]).set j ys[i]).Perm ys := by
  rw [List.perm_iff_count]
  intro z
  have e : (ys.set i ys[j])[j]'(by rw [List.length_set]; exact hj) = ys[j] := by
    rw [List.getElem_set]
    split <;> rfl
  rw [List.count_set (by rw [List.length_set]; exact hj), e, List.count_set hi]
  have h1 : ys[i] = z → 0 < ys.count z := fun h => List.count_pos_iff.2 (h ▸ List.getElem_mem hi)
  by_cases hz : ys[i] = z
  · have := h1 hz
    simp [hz]; omega
  · simp [hz]

set_option maxRecDepth 100000 in
set_option maxHeartbeats 4000000 in
theorem orderOf_any (g : Gr) (an : Option Addr) (cn : Nat) (ae : Option Addr) (ce b8 : Nat) (aw : Option Addr) (cw : Nat) (bs : List Nat) (w : World) (hn : g.nodes.length ≤ 1000) (hg : GrAt w g an cn ae) (h8 : b8 < 256) (hbs : bs.length ≤ 1000) (h256 : ∀ b ∈ bs, b < 256) (hcw : Cells w aw (bytes8 bs)) :
    Calls Tryz.prog 20 #[.agg #[.bool g.dir, .slice an g.nodes.length cn, .slice ae g.edges.length ce], .int .u8 b8, .slice aw bs.length cw] w
      fun e w' => ∃ a1 c1 ys, e = .returned (.slice a1 g.nodes.length c1) ∧ ys.Perm g.nodes ∧ w'.ownsRow w.heap.size 3 1 (.slice a1 g.nodes.length c1) g.nodes.length (ints ys) ∧ Below w.heap.size w w' := by
  obtain ⟨w1, hw1⟩ : ∃ w1, w1 = w.alloc (.cells #[.bool g.dir, .slice an g.nodes.length cn, .slice ae g.edges.length ce] 25) := ⟨_, rfl⟩
  have hb1 : Below w.heap.size w w1 := by rw [hw1]; exact alloc_below w _
  have hz1 : w1.heap.size = w.heap.size + 1 := by rw [hw1]; simp
  have k1 : w1.cell? ⟨w.heap.size, 1, none⟩ = some (.slice an g.nodes.length cn) := by rw [hw1]; simp
  have hg1 := hg.below hb1
  have hcw1 := hcw.below hb1
  have hsort := Lib.hid (sorted_any an _ cn g.nodes w1 rfl (by omega) hg1.nodes hg1.none)
  obtain ⟨n, hne⟩ : ∃ n, n = g.nodes.length := ⟨_, rfl⟩
  rw [← hne] at k1 hsort hn hw1 ⊢
  have hw1h := Lib.hid hw1
  have hb1h := Lib.hid hb1
  have hz1h := Lib.hid hz1
  have hneh := Lib.hid hne
  have hcwh := Lib.hid hcw1
  have hcw0 := Lib.hid hcw
  have h256h := Lib.hid h256
  have hgn := Lib.hid hg1
  clear hw1 hb1 hz1 hg1 hcw1 hg hcw h256 hne
  go_enter Tryz.func20, Tryz.ntmps20
  go_wp2_with fail
  rw [← hw1h.out]
  refine (unhide hsort).mono ?_
  rintro e w2 ⟨a2, c2, rfl, own2, h02, hb2⟩
  obtain ⟨a2', c2', e2, _, hcs2, _⟩ := owns_cells own2
  injection e2 with e2a _ e2c
  subst e2a; subst e2c
  have hlen2 : n = (asc g.nodes).length := by rw [asc_length]; exact hneh.out
  have hrol := Lib.hid (rolled_any a2 n c2 b8 (asc g.nodes) w2 hlen2 hn h8 hcs2)
  have hb2h := Lib.hid hb2
  clear own2 hcs2 hb2 h02 hsort hlen2
  go_wp2_with fail
  refine (unhide hrol).mono ?_
  rintro e w3 ⟨a3, c3, ys0, rfl, hp3, own3, hb3⟩
  have hb3h : Hid (Below w.heap.size w w3) := hb1h.out.trans ((hb2h.out.trans (hb3.mono hb2h.out.size)).mono (by have := hb1h.out.size; omega))
  have hcw3 : Hid (Cells w3 aw (bytes8 bs)) := (hcwh.out.below hb2h.out).below hb3
  have own3' := owns_base own3 (show w.heap.size ≤ w2.heap.size by have := hb2h.out.size; have := hz1h.out; omega)
  have hown3 := Lib.hid own3'
  have hp3h : Hid (ys0.Perm g.nodes) := hp3.trans (asc_perm _)
  clear own3 own3' hb3 hp3 hrol
  go_wp2_with fail
  go_loopw [8, 9, 10] (fun kv _ _ wr => ∃ (k : Nat) (ys : List Int), k ≤ bs.length ∧ kv = .int .i64 k ∧ ys.Perm g.nodes ∧ wr.ownsRow w.heap.size 3 1 (.slice a3 n c3) n (ints ys) ∧ Below w.heap.size w wr ∧ Cells wr aw (bytes8 bs)) (fun kv _ _ _ => bs.length - (intOf kv).toNat)
  case atStart => exact ⟨0, ys0, Nat.zero_le _, rfl, hp3h.out, hown3.out, hb3h.out, hcw3.out⟩
  case round =>
    obtain ⟨k, ys, hk, rfl, hpm, hown, hb, hcb⟩ := hrel
    have hyl : ys.length = n := by rw [hpm.length_eq]; exact hneh.out.symm
    by_cases hlt : k < bs.length
    · by_cases hn0 : n = 0
      · subst hn0
        have hownh := Lib.hid hown
        have hbh := Lib.hid hb
        have hph := Lib.hid hpm
        clear hown hb hcb hpm
        go_wp2_with fail
        go_ret
        exact ⟨_, _, ys, rfl, hph.out, hownh.out, hbh.out⟩
      · have hnp : 0 < n := by omega
        obtain ⟨sb, so, rfl, hsl, hr⟩ := hcb.at (by rw [bytes8_length]; omega)
        have hbk := hr _ _ (bytes8_get bs k hlt)
        obtain ⟨x, hx⟩ : ∃ x, x = bs[k] := ⟨_, rfl⟩
        have hx256 : x < 256 := by rw [hx]; exact h256h.out _ (List.getElem_mem hlt)
        rw [← hx] at hbk
        obtain ⟨ga, rfl, hga, _, _⟩ := owns_at hown hnp
        obtain ⟨i, hil, ti⟩ : ∃ i : Nat, i < n ∧ ((x : Int)).tmod (n : Int) = (i : Int) := ⟨x % n, Nat.mod_lt _ hnp, tmod_nat x n⟩
        obtain ⟨j, hjl, tj⟩ : ∃ j : Nat, j < n ∧ ((k : Int)).tmod (n : Int) = (j : Int) := ⟨k % n, Nat.mod_lt _ hnp, tmod_nat k n⟩
        obtain ⟨u, hu⟩ : ∃ u, u = ys[i]'(by omega) := ⟨_, rfl⟩
        obtain ⟨v, hv⟩ : ∃ v, v = ys[j]'(by omega) := ⟨_, rfl⟩
        have ci := owns_cell hown (ints_get ys i (by omega))
        have cj := owns_cell hown (ints_get ys j (by omega))
        have fi := owns_free hown i
        have fj := owns_free hown j
        rw [← hu] at ci
        rw [← hv] at cj
        have hown1 := owns_set (j := i) hown (.int .i64 v)
        obtain ⟨z, hz⟩ : ∃ z, (wr.setCell ⟨ga, i, none⟩ (.int .i64 v)).cell? ⟨ga, j, none⟩ = some z := ⟨_, owns_cell hown1 (List.getElem?_eq_getElem (show j < _ by rw [List.length_set, ints_length]; omega))⟩
        have fz := owns_free hown1 j
        have hown2 := owns_set (j := j) hown1 (.int .i64 u)
        have hset : Hid (∃ ys2 : List Int, ys2.Perm g.nodes ∧ ((wr.setCell ⟨ga, i, none⟩ (.int .i64 v)).setCell ⟨ga, j, none⟩ (.int .i64 u)).ownsRow w.heap.size 3 1 (.slice (some ⟨ga, 0, none⟩) n c3) n (ints ys2)) := by
          refine ⟨(ys.set i v).set j u, ?_, ?_⟩
          · rw [hu, hv]; exact (set_set_perm ys (by omega) (by omega)).trans hpm
          · have e : ints ((ys.set i v).set j u) = ((ints ys).set i (.int .i64 v)).set j (.int .i64 u) := by unfold ints; rw [List.map_set, List.map_set]
            rw [e]; exact hown2
        have hbb : Hid (Below w.heap.size w ((wr.setCell ⟨ga, i, none⟩ (.int .i64 v)).setCell ⟨ga, j, none⟩ (.int .i64 u))) := (hb.setCell hga _).setCell hga _
        have hcc : Hid (Cells ((wr.setCell ⟨ga, i, none⟩ (.int .i64 v)).setCell ⟨ga, j, none⟩ (.int .i64 u)) (some ⟨sb, so, none⟩) (bytes8 bs)) := hcw0.out.below hbb.out
        clear hx hr hu hv hown2 hown1 hown hb hpm hcb hsl
        go_wp2_with fail
        go_region
        all_goals
          go_wp2_with fail
          obtain ⟨ys2, hp2, ho2⟩ := hset.out
          go_roundw
          case rel => exact ⟨k + 1, ys2, by omega, by go_num, hp2, World.ownsRow.drew ho2, hbb.out.drew, (hcc.out.below (drew_below _))⟩
          case measure => simp [intOf]; omega
    · have hkn : k = bs.length := by omega
      subst hkn
      have hownh := Lib.hid hown
      have hbh := Lib.hid hb
      have hph := Lib.hid hpm
      clear hown hb hcb hpm
      go_wp2_with fail
      go_ret
      exact ⟨_, _, ys, rfl, hph.out, hownh.out, hbh.out⟩
end Go.Proofs.YtagnmdhdogaijaaGreat
