/- laws.FnKCoreNested: the walk. -/
import Derived.Test.YtfihclhceakmdaaKNest
import Derived.Test.YtfihclhceakmdaaPeel
import Derived.Test.YtfihclhceakmdaaLeast
import Derived.Test.YtfihclhceakmdaaFewOf
import Derived.Deep.DeepCutAuto
namespace Go.Proofs.Ytfihclhceakmdaa
open Go.RowKit

/-- A graph of one node. -/
def g7 : Gr := ⟨false, [7], []⟩

theorem core7 {S : List Int} (hn : S.Nodup) (hs : ∀ x ∈ S, x ∈ g7.nodes) (hm : ∀ T : List Int, T.Nodup → (∀ x ∈ T, x ∈ g7.nodes ∧ 0 ≤ dgIn g7 T x) → ∀ x ∈ T, x ∈ S) : S.length = 1 := by
  have h7 : (7 : Int) ∈ S := hm [7] (by decide) (fun x hx => ⟨hx, Nat.zero_le _⟩) 7 (by simp)
  have h1 := nodup_len hn (m := [7]) hs
  have h2 := List.length_pos_of_mem h7
  simp at h1
  omega

/-- What of a list is picked. -/
theorem pick_snoc {l T : List Int} {k : Nat} (hT : T.Sublist (l.take k)) (hk : k < l.length) (b : Bool) : (if b then T ++ [l[k]] else T).Sublist (l.take (k + 1)) := by
  rw [List.take_succ_eq_append_getElem hk]
  cases b
  · exact hT.trans (List.sublist_append_left _ _)
  · exact hT.append (List.Sublist.refl _)

theorem fin_law {g : Gr} {K : Nat} {S T : List Int} (hK : K ≤ 1099511627776) (hS : ∀ x ∈ S, x ∈ g.nodes ∧ K ≤ dgIn g S x) (hm : ∀ T : List Int, T.Nodup → (∀ x ∈ T, x ∈ g.nodes ∧ K ≤ dgIn g T x) → ∀ x ∈ T, x ∈ S) (hTn : T.Nodup) (hTs : ∀ x ∈ T, x ∈ g.nodes) :
    K ≤ leastTo g S S.length ∧ (¬ leastTo g T T.length < K → ∀ x ∈ T, x ∈ S) := by
  refine ⟨le_leastTo hK (fun x hx => (hS x hx).2) _, fun h => hm T hTn fun x hx => ⟨hTs x hx, ?_⟩⟩
  have := leastTo_mem (g := g) x hx
  omega

set_option maxRecDepth 100000 in
set_option maxHeartbeats 8000000 in
theorem kNest_any (k : Int) (g : Gr) (an : Option Addr) (cn : Nat) (ae : Option Addr) (ce : Nat) (which : Int) (w : World) (hm : g.nodes.length ≤ 9223372036854775807) (hm' : g.edges.length ≤ 9223372036854775807) (hg : GrAt w g an cn ae) (h64 : ∀ x ∈ g.nodes, In64 x) :
    Calls Try.prog 3 #[.int .i64 k, .agg #[.bool g.dir, .slice an g.nodes.length cn, .slice ae g.edges.length ce], .int .u16 which] w
      fun e w' => e = .returned (.bool true) ∧ Below w.heap.size w w' := by
  obtain ⟨w1, hw1⟩ : ∃ w1, w1 = w.alloc (.cells #[.bool g.dir, .slice an g.nodes.length cn, .slice ae g.edges.length ce] 25) := ⟨_, rfl⟩
  have hb1 : Below w.heap.size w w1 := by rw [hw1]; exact alloc_below w _
  have hz1 : w1.heap.size = w.heap.size + 1 := by rw [hw1]; simp
  have k0 : w1.cell? ⟨w.heap.size, 0, none⟩ = some (.bool g.dir) := by rw [hw1]; simp
  have k1 : w1.cell? ⟨w.heap.size, 1, none⟩ = some (.slice an g.nodes.length cn) := by rw [hw1]; simp
  have k2 : w1.cell? ⟨w.heap.size, 2, none⟩ = some (.slice ae g.edges.length ce) := by rw [hw1]; simp
  have hK : Hid (∀ wr, Below w1.heap.size w1 wr → (Below w.heap.size w wr ∧ GrAt wr g an cn ae) ∧ wr.cell? ⟨w.heap.size, 0, none⟩ = some (.bool g.dir) ∧ wr.cell? ⟨w.heap.size, 1, none⟩ = some (.slice an g.nodes.length cn) ∧ wr.cell? ⟨w.heap.size, 2, none⟩ = some (.slice ae g.edges.length ce)) :=
    fun wr h => ⟨⟨hb1.trans (h.mono (by omega)), (hg.below hb1).below h⟩, cell_below h k0, cell_below h k1, cell_below h k2⟩
  have hfits := Lib.hid (fits_any g an cn ae ce w1 hm hm')
  rw [hw1] at hfits
  have hw1h := Lib.hid hw1
  have h64h := Lib.hid h64
  clear hg hb1 hw1 k0 k1 k2 h64
  go_enter Try.func3, Try.ntmps3
  go_wp2_with fail
  refine (unhide hfits).mono ?_
  rintro e w2 ⟨rfl, hb2⟩
  rw [← hw1h.out] at hb2
  obtain ⟨⟨hbw2, hg2⟩, c0, c1, c2⟩ := hK.out w2 hb2
  have hb2h := Lib.hid hb2
  have hbw2h := Lib.hid hbw2
  rcases hf : fitsB g with _ | _
  · clear hb2 hbw2
    go_wp2_with fail
    go_ret
    exact ⟨rfl, hbw2h.out⟩
  have hfew := Lib.hid (fewOf_any g an cn ae ce false w2 16 (by omega) hg2)
  obtain ⟨fw, hfw⟩ : ∃ fw, fw = (g.dir == false && fewB g 16) := ⟨_, rfl⟩
  rw [← hfw] at hfew
  have hfwh := Lib.hid hfw
  clear hb2 hbw2 hg2 hfits hfw hf
  go_upto_region 3 with fail
  go_cut [38] (fun v wx => ∃ b : Bool, v = .bool b ∧ Below w1.heap.size w1 wx ∧ (b = false → fw = true ∧ ∃ K : Nat, k = (K : Nat) ∧ K ≤ 20 ∧ (K ≤ 1 ∨ ∃ S : List Int, S ≠ [] ∧ S.Nodup ∧ ∀ x ∈ S, x ∈ g.nodes ∧ K - 1 ≤ dgIn g S x)))
  case first =>
    go_wp2_with fail
    refine (unhide hfew).mono ?_
    rintro e w3 ⟨rfl, hb3⟩
    have hb3' := hb2h.out.trans (hb3.mono hb2h.out.size)
    obtain ⟨⟨hbw3, hg3⟩, d0, d1, d2⟩ := hK.out w3 hb3'
    have hb3h := Lib.hid hb3'
    have hg3h := Lib.hid hg3
    clear hb3 hb3' hbw3 hg3 hfew c0 c1 c2
    cases fw
    · go_wp2_with fail
      go_meet
      case rel => exact ⟨true, rfl, hb3h.out, fun e => by cases e⟩
    have hfw' := hfwh.out.symm
    rw [Bool.and_eq_true] at hfw'
    have hfw2 := hfw'.2
    unfold fewB at hfw2
    rw [Bool.and_eq_true, Bool.and_eq_true] at hfw2
    have hn16 : g.nodes.length ≤ 16 := of_decide_eq_true hfw2.1.1
    have he16 : g.edges.length ≤ 8 * 16 := of_decide_eq_true hfw2.1.2
    have hok := Lib.hid hfw2.2
    clear hfwh hfw' hfw2
    by_cases hk0 : k < 0
    · go_wp2_with fail
      go_meet
      case rel => exact ⟨true, rfl, hb3h.out, fun e => by cases e⟩
    · obtain ⟨K, rfl⟩ : ∃ K : Nat, k = (K : Nat) := ⟨k.toNat, by omega⟩
      by_cases hk20 : 20 < K
      · have hk20' : (20 : Int) < (K : Int) := by omega
        go_wp2_with fail
        go_meet
        case rel => exact ⟨true, rfl, hb3h.out, fun e => by cases e⟩
      · have hk20' : ¬ (20 : Int) < (K : Int) := by omega
        by_cases hk1 : K ≤ 1
        · have hk1' : ¬ (1 : Int) < (K : Int) := by omega
          go_wp2_with fail
          go_meet
          case rel => exact ⟨false, (by simp; omega), hb3h.out, fun _ => ⟨(by first | rfl | trivial), K, rfl, by omega, .inl hk1⟩⟩
        · have hk1' : (1 : Int) < (K : Int) := by omega
          have hpe : Calls Try.prog 6 #[.int .i64 ((K : Int) - 1), .agg #[.bool g.dir, .slice an g.nodes.length cn, .slice ae g.edges.length ce]] w3 (PeelPost w3 g (K - 1)) := by
            rw [show (K : Int) - 1 = ((K - 1 : Nat) : Int) from by omega]
            exact peeled_any (K - 1) g an cn ae ce w3 (by omega) (by omega) hg3h.out hok.out
          have hpeh := Lib.hid hpe
          clear hpe
          go_wp2_with fail
          refine (unhide hpeh).mono ?_
          rintro e w4 ⟨S, a4, c4, rfl, hSn, hS, hb4⟩
          have hb4h : Hid (Below w1.heap.size w1 w4) := hb3h.out.trans (hb4.mono hb3h.out.size)
          have hSnh := Lib.hid hSn
          have hSh := Lib.hid hS
          clear hb4 hSn hS hpeh
          by_cases hS0 : S.length = 0
          · obtain ⟨n, hn⟩ : ∃ n, n = S.length := ⟨_, rfl⟩
            rw [← hn] at hS0 ⊢
            subst hS0
            clear hn
            go_wp2_with fail
            go_meet
            case rel => exact ⟨true, rfl, hb4h.out, fun e => by cases e⟩
          · have hne : Hid (S ≠ []) := fun e => hS0 (by rw [e]; rfl)
            obtain ⟨n, hn⟩ : ∃ n, n = S.length := ⟨_, rfl⟩
            rw [← hn] at hS0 ⊢
            have hz : ((n : Int) == 0) = false := by simpa using hS0
            have hz2 : ¬ (n : Int) = 0 := by omega
            clear hn
            go_wp2_with fail
            go_meet
            case rel => exact ⟨false, (by simp; omega), hb4h.out, fun _ => ⟨(by first | rfl | trivial), K, rfl, by omega, .inr ⟨S, hne.out, hSnh.out, fun x hx => hSh.out x hx⟩⟩⟩
  case rest =>
    obtain ⟨b, rfl, hb3', hb⟩ := hcut
    obtain ⟨⟨hbw3, hg3⟩, d0, d1, d2⟩ := hK.out wc hb3'
    have hbw3h := Lib.hid hbw3
    have hb3h := Lib.hid hb3'
    have hg3h := Lib.hid hg3
    clear hb3' hbw3 hg3 hfew
    cases b
    case true =>
      clear hb
      go_wp2_with fail
      go_ret
      exact ⟨rfl, hbw3h.out⟩
    case false =>
      obtain ⟨hfwt, K, rfl, hK20, hTop⟩ := hb rfl
      have hfw' := hfwh.out.symm
      rw [hfwt, Bool.and_eq_true] at hfw'
      have hdir0 : Hid (g.dir = false) := by have := hfw'.1; unfold Hid; simpa using this
      have hfw2 := hfw'.2
      unfold fewB at hfw2
      rw [Bool.and_eq_true, Bool.and_eq_true] at hfw2
      have hn16 : g.nodes.length ≤ 16 := of_decide_eq_true hfw2.1.1
      have he16 : g.edges.length ≤ 8 * 16 := of_decide_eq_true hfw2.1.2
      have hok := Lib.hid hfw2.2
      have hkc := Lib.hid (kcoreI_any K g an cn ae ce wc (by omega) (by omega) hg3h.out hok.out hdir0.out h64h.out hTop)
      clear hfwh hfw' hfw2 hb hTop hfwt
      go_wp2_with fail
      refine (unhide hkc).mono ?_
      rintro e w4 ⟨S, a4, c4, rfl, hcS, hb4, hSn, hSl, hSk, hSm⟩
      have hb4' : Below w1.heap.size w1 w4 := hb3h.out.trans (hb4.mono hb3h.out.size)
      obtain ⟨⟨hbw4, hg4⟩, c0, c1, c2⟩ := hK.out w4 hb4'
      have hb4h := Lib.hid hb4'
      have hcSh := Lib.hid hcS
      have hfl := Lib.hid (fun (T : List Int) => fin_law (T := T) (by omega : K ≤ 1099511627776) hSk hSm)
      have hSlen : Hid (S.length ≤ 16) := by
        have := nodup_len hSn (m := g.nodes) (fun x hx => (hSk x hx).1)
        unfold Hid; omega
      obtain ⟨s, hs⟩ : ∃ s, s = S.length := ⟨_, rfl⟩
      rw [← hs] at hfl hSlen ⊢
      have hsh := Lib.hid hs
      clear hb4 hb4' hbw4 hg4 hcS hSn hSl hSk hSm hs d0 d1 d2 c0 c1 c2 hkc
      go_wp2_with fail
      go_loopw [9, 10] (fun sv iv wr => ∃ (i : Nat) (T : List Int) (b : Option Addr) (cb : Nat), i ≤ g.nodes.length ∧ iv = .int .i64 i ∧ T.Sublist (g.nodes.take i) ∧ sv = .slice b T.length cb ∧ wr.ownsRow w4.heap.size 3 1 (.slice b T.length cb) T.length (ints T) ∧ Below w4.heap.size w4 wr) (fun _ iv _ => g.nodes.length - (intOf iv).toNat)
      case atStart => exact ⟨0, [], none, 0, Nat.zero_le _, rfl, List.Sublist.refl _, rfl, World.ownsRow_nil _ _ _ _, Below.refl _ _⟩
      case round =>
        obtain ⟨i, T, b, cb, hi, rfl, hT, rfl, hown, hb⟩ := hrel
        have hb6 : Below w1.heap.size w1 wr := hb4h.out.trans (hb.mono hb4h.out.size)
        obtain ⟨⟨hbw6, hg6⟩, c0, c1, c2⟩ := hK.out wr hb6
        by_cases hlt : i < g.nodes.length
        · have hTl : T.length ≤ 16 := by
            have := hT.length_le
            rw [List.length_take] at this
            omega
          have hps := fun c => pick_snoc hT hlt c
          obtain ⟨nb, no, rfl, _, hr⟩ := hg6.nodes.at (by rw [ints_length]; omega)
          have x0 := hr _ _ (ints_get g.nodes i hlt)
          obtain ⟨z, hz⟩ : ∃ z, z = g.nodes[i] := ⟨_, rfl⟩
          rw [← hz] at x0 hps
          obtain ⟨n, hn⟩ : ∃ n, n = T.length := ⟨_, rfl⟩
          rw [← hn] at hown hTl ⊢
          have hnh := Lib.hid hn
          have hpsh := Lib.hid hps
          have hownh := Lib.hid hown
          have hbh := Lib.hid hb
          have hbs := hb.size
          clear hz hn hps hr hb6 hbw6 hg6 hT
          have hso := Lib.hid (fun o => hownh.out.alloc o)
          have hfin := Lib.hid (fun o b4 c4 w5 (h5 : w5.ownsRow w4.heap.size 3 1 (.slice b4 (n + 1) c4) (n + 1) (ints T ++ [.int .i64 z])) (hg5 : (wr.alloc o).grownBy w5 (Value.slice b n cb).ownBlock) =>
            show (T ++ [z]).length = n + 1 ∧ w5.ownsRow w4.heap.size 3 1 (.slice b4 (n + 1) c4) (n + 1) (ints (T ++ [z])) ∧ Below w4.heap.size w4 w5 from
              ⟨by rw [List.length_append, ← hnh.out]; rfl, by
                have e : ints (T ++ [z]) = ints T ++ [.int .i64 z] := by simp [ints]
                rw [e]; exact h5, (hbh.out.alloc hbs o).grown hg5 (by simp; omega) (fun q e => (hownh.out.lt q e).1)⟩)
          clear hown hb
          go_wp2_with (at_builtin; refine append_law 22 3 (.int .i64 0) 1 8 Try.underlying22 info_int rfl (by omega) (by omega) rfl _ _ rfl w4.heap.size b n cb (ints T) rfl (unhide hso _) ⟨wr.heap.size, 0, none⟩ 1 1 [.int .i64 z] rfl rfl (new_one wr _ _) (one_int _) (by omega) (by simp; omega) ?_; intro b4 c4 w5 hown5 hg5 hat5; have hf := Lib.hid (unhide hfin _ _ _ _ hown5 hg5); clear hown5 hg5 hat5 hso hfin)
          · go_roundw
            case rel => exact ⟨i + 1, T ++ [z], b4, c4, by omega, by go_num, hpsh.out true, by rw [hf.out.1], by rw [hf.out.1]; exact hf.out.2.1, hf.out.2.2⟩
            case measure => simp [intOf]; omega
          · go_roundw
            case rel => exact ⟨i + 1, T, b, cb, by omega, by go_num, hpsh.out false, by rw [← hnh.out], by rw [← hnh.out]; exact hownh.out, hbh.out⟩
            case measure => simp [intOf]; omega
        · have hin : i = g.nodes.length := by omega
          subst hin
          rw [List.take_length] at hT
          have hTn : T.Nodup := (ok_nodup hok.out).sublist hT
          have hTs : ∀ x ∈ T, x ∈ g.nodes := fun x hx => hT.subset hx
          have hend := Lib.hid (hfl.out T hTn hTs)
          have hTl : T.length ≤ 16 := by have := hT.length_le; omega
          have hcT : Cells wr b (ints T) := by
            obtain ⟨x, y, e, _, h, _⟩ := owns_cells hown
            injection e with e _ _
            subst e; exact h
          have hS4 := hcSh.out.below hb
          -- the graph of one node
          obtain ⟨w7, hw7⟩ : ∃ w7, w7 = wr.alloc (.cells #[.int .i64 7] 3) := ⟨_, rfl⟩
          have hb7 : Below wr.heap.size wr w7 := by rw [hw7]; exact alloc_below _ _
          have cc7 : Cells w7 (some ⟨wr.heap.size, 0, none⟩) (ints [7]) := by
            refine Cells.mk (by rw [hw7]; simp) fun j u hj => ?_
            rw [hw7]
            have := new_one wr (.int .i64 7) 3 j u hj
            rwa [Addr.add_mid] at this
          have hk7 := kcoreI_any 0 g7 (some ⟨wr.heap.size, 0, none⟩) 1 none 0 w7 (by decide) (by decide) ⟨cc7, .inl rfl, fun e => by cases e⟩ (by decide) rfl (fun x hx => by
            have h : x = 7 := by simpa [g7] using hx
            subst h
            show (Lit.int .i64 7).wf = true
            rfl) (.inl (by omega))
          have e1 : g7.dir = false := rfl
          have e2 : g7.nodes.length = 1 := rfl
          have e3 : g7.edges.length = 0 := rfl
          rw [e1, e2, e3] at hk7
          have hk7h := Lib.hid hk7
          have hw7h := Lib.hid hw7
          obtain ⟨n, hn⟩ : ∃ n, n = T.length := ⟨_, rfl⟩
          have hnh := Lib.hid hn
          have hcTh := Lib.hid hcT
          have hS4h := Lib.hid hS4
          have hb67 : Hid (Below w1.heap.size w1 w7) := hb6.trans (hb7.mono hb6.size)
          rw [← hn] at hend hTl ⊢
          have hb7h := Lib.hid hb7
          clear hk7 hw7 hn hcT hS4 hb7 cc7 e1 e2 e3 hown hb hb6 hbw6 hg6 hT hTn hTs
          rw [hw7h.out] at hk7h
          go_wp2_with fail
          refine (unhide hk7h).mono ?_
          rintro e w8 ⟨S7, a7, c7, rfl, _, hb8, hS7n, _, hS7k, hS7m⟩
          rw [← hw7h.out] at hb8
          have h71 : S7.length = 1 := core7 hS7n (fun x hx => (hS7k x hx).1) hS7m
          rw [h71]
          have hb18 : Below w1.heap.size w1 w8 := hb67.out.trans (hb8.mono hb67.out.size)
          have hbr8 : Below wr.heap.size wr w8 := hb7h.out.trans (hb8.mono hb7h.out.size)
          obtain ⟨⟨hbw8, hg8⟩, d0, d1, d2⟩ := hK.out w8 hb18
          have hl1 := Lib.hid (least_any g an cn ae ce a4 s c4 S w8 hsh.out (by have := hSlen.out; omega) (by omega) hg8 (hS4h.out.below hbr8))
          have hb8h := Lib.hid hbr8
          have hb18h := Lib.hid hb18
          obtain ⟨m1, hm1⟩ : ∃ m1, m1 = leastTo g S s := ⟨_, rfl⟩
          rw [← hm1] at hl1 hend
          have hK1 : (K : Int) ≤ (m1 : Int) := by have := hend.out.1; omega
          have hK1' : ¬ (m1 : Int) < (K : Int) := by omega
          clear hb8 hS7n hS7k hS7m h71 hb18 hbr8 hbw8 hg8 hk7h hm1 c0 c1 c2
          go_wp2_with fail
          refine (unhide hl1).mono ?_
          rintro e w9 ⟨rfl, hb9⟩
          have hb19 : Below w1.heap.size w1 w9 := hb18h.out.trans (hb9.mono hb18h.out.size)
          have hbr9 : Below wr.heap.size wr w9 := hb8h.out.trans (hb9.mono hb8h.out.size)
          obtain ⟨⟨hbw9, hg9⟩, c0, c1, c2⟩ := hK.out w9 hb19
          have hl2 := Lib.hid (least_any g an cn ae ce b n cb T w9 hnh.out (by omega) (by omega) hg9 (hcTh.out.below hbr9))
          have hb9h := Lib.hid hbr9
          have hb19h := Lib.hid hb19
          obtain ⟨m2, hm2⟩ : ∃ m2, m2 = leastTo g T n := ⟨_, rfl⟩
          rw [← hm2] at hl2 hend
          clear hb9 hb19 hbr9 hbw9 hg9 hl1 hm2 d0 d1 d2
          go_wp2_with fail
          refine (unhide hl2).mono ?_
          rintro e w10 ⟨rfl, hb10⟩
          have hb110 : Below w1.heap.size w1 w10 := hb19h.out.trans (hb10.mono hb19h.out.size)
          have hbr10 : Below wr.heap.size wr w10 := hb9h.out.trans (hb10.mono hb9h.out.size)
          have hbw10 := Lib.hid (hK.out w10 hb110).1.1
          have hai := Lib.hid (allIn_any b n cb T a4 s c4 S w10 hnh.out hsh.out (by omega) (by have := hSlen.out; omega) (hcTh.out.below hbr10) (hS4h.out.below hbr10))
          clear hb10 hb110 hbr10 hl2 c0 c1 c2
          by_cases hlt2 : m2 < K
          · have hlt3 : (m2 : Int) < (K : Int) := by omega
            clear hlt2
            go_wp2_with fail
            go_ret
            exact ⟨by simp, hbw10.out⟩
          · have hlt3 : ¬ (m2 : Int) < (K : Int) := by omega
            have hall : decide (∀ x ∈ T, x ∈ S) = true := decide_eq_true (hend.out.2 hlt2)
            rw [hall] at hai
            clear hlt2 hall
            go_wp2_with fail
            refine (unhide hai).mono ?_
            rintro e w11 ⟨rfl, rfl⟩
            go_wp2_with fail
            go_ret
            exact ⟨by simp, hbw10.out⟩
end Go.Proofs.Ytfihclhceakmdaa
