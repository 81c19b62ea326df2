/- impl.seen over a complement: what it gives.
   impl.seen over the complement of a directed graph.
   impl.seen over the complement of an undirected graph. -/
import Derived.Test.YtanbhibllilccaaGreatCFrom
import Derived.Test.YtanbhibllilccaaGreatIted
import Derived.Test.YtanbhibllilccaaGreatEG
import Derived.Test.YtanbhibllilccaaGreatTwiceLaw
namespace Go.Proofs.YtanbhibllilccaaGreat
open Go.RowKit

theorem nil_func (w : World) : (binOp BinOp.neq 73 .nilFunc .nilFunc).run Tryz.prog w = .ok (.bool false) w := by kernel_rfl

/-- Where edges lead in the complement. -/
def offS (ids : List Int) (outs : List (List Arc)) (u : Int) : List Int := ids.filter fun v => !decide (v = u ∨ v ∈ succOf ids outs u)

theorem offS_of {ids fil : List Int} {outs : List (List Arc)} {u : Int} (h : ∀ y, y ∈ fil ↔ y = u ∨ y ∈ succOf ids outs u) : offF fil ids = offS ids outs u := by
  unfold offF offS
  refine List.filter_congr fun v _ => ?_
  rw [decide_eq_decide.2 (h v)]

/-- What impl.seen gives. -/
def SeenPost (w : World) (d : Bool) (ids : List Int) (S : Int → List Int) (e : Ending) (w' : World) : Prop :=
  ∃ (an : Option Addr) (cn : Nat) (ae : Option Addr) (ce : Nat), e = .returned (.agg #[.bool d, .slice an ids.length cn, .slice ae (seenE d ids S).length ce]) ∧ Cells w' an (ints ids) ∧ (an = none → cn = 0) ∧ Cells w' ae (edgeCells (seenE d ids S)) ∧ (∀ g k, an = some ⟨g, k, none⟩ → w.heap.size ≤ g) ∧ (∀ g k, ae = some ⟨g, k, none⟩ → w.heap.size ≤ g) ∧ Below w.heap.size w w'

theorem seen_start {w w1 w2 w3 w4 : World} {d : Bool} {an : Option Addr} {cn ob : Nat} {ids : List Int} {vn : Value} (hw1 : w1 = w.alloc (.cells #[.bool false, .slice none 0 0, .slice none 0 0] 25)) (hb2 : Below w1.heap.size w1 w2) (hb3 : Below w1.heap.size w2 w3)
    (own3 : w3.ownsRow w2.heap.size 3 1 (.slice an ids.length cn) ids.length (ints ids)) (hob : ob = w3.heap.size) (hw4 : w4 = w3.alloc (.cells #[.bool d, .slice an ids.length cn, .slice none 0 0] 25)) (hvn : vn = Value.slice an ids.length cn)
    (kz : w1.heap[w.heap.size]? = some (.cells #[.bool false, .slice none 0 0, .slice none 0 0] 25 (0, 0))) (hz1 : w1.heap.size = w.heap.size + 1) :
    EG w4 w4 ob d vn [] (.slice none 0 0) ∧ ∀ wr, w4.grownBy wr (some ob) → Below w.heap.size w wr ∧ Cells wr an (ints ids) ∧ wr.heap[w.heap.size]? = some (.cells #[.bool false, .slice none 0 0, .slice none 0 0] 25 (0, 0)) := by
  have b4 : Below w3.heap.size w3 w4 := by rw [hw4]; exact alloc_below _ _
  have hE : EG w4 w4 ob d vn [] (.slice none 0 0) := EG.start (by rw [hob, hvn, hw4]; exact heap_alloc_new _ _)
  have s2 := hb2.size
  have s3 := hb3.size
  have s4 := b4.size
  have b14 : Below w1.heap.size w1 w4 := (hb2.trans hb3).trans (b4.mono (by omega))
  have b04 : Below w.heap.size w w4 := by
    have : Below w.heap.size w w1 := by rw [hw1]; exact alloc_below _ _
    exact this.trans (b14.mono (by omega))
  refine ⟨hE, fun wr h => ⟨?_, ?_, ?_⟩⟩
  · exact ⟨h.os.trans b04.os, h.tape.trans b04.tape, h.output.trans b04.output, by have := h.size; have := b04.size; omega, fun j hj => by
      rw [h.block j (by omega) (fun e => by injection e with e; omega), b04.block j hj]⟩
  · have hr : wr.ownsRow w2.heap.size 3 1 (.slice an ids.length cn) ids.length (ints ids) := owns_same own3 fun j hj => by
      have h1 := (own3.lt j hj).2
      rw [h.block j (by omega) (fun e => by injection e with e; omega), b4.block j h1]
    obtain ⟨a', c', e', _, hc, _⟩ := owns_cells hr
    injection e' with e1 _ _
    subst e1
    exact hc
  · rw [h.block _ (by omega) (fun e => by injection e with e; omega), b14.block _ (by omega)]
    exact kz

theorem Cells.sameAt {w w' : World} {a : Option Addr} {cs : List Value} {q : Nat} (h : Cells w a cs) (hk : ∀ j, q < j → w'.heap[j]? = w.heap[j]?) (hs : w.heap.size ≤ w'.heap.size) (ha : ∀ g k, a = some ⟨g, k, none⟩ → q < g) : Cells w' a cs := by
  rcases h with h | ⟨b, off, h1, h2, h3⟩
  · exact .inl h
  · refine .inr ⟨b, off, h1, by omega, fun j v hj => ?_⟩
    have := h3 j v hj
    unfold World.cell? at this ⊢
    rwa [hk b (ha b off h1)]

theorem own_slot {w : World} {base e size n c : Nat} {g k m : Nat} {xs : List Value} (h : w.ownsRow base e size (.slice (some ⟨g, k, none⟩) n c) m xs) : base ≤ g ∧ g < w.heap.size := h.lt g rfl
theorem seen_done {w w4 wr : World} {d : Bool} {an b : Option Addr} {cn c2 ob m : Nat} {ids : List Int} {vn : Value} {S : Int → List Int} (hob : w.heap.size < ob) (hm : m = (seenE d ids S).length) (hE : EG w4 wr ob d vn (seenE d ids S) (.slice b m c2)) (hcn : Cells wr an (ints ids)) (hbw : Below w.heap.size w wr)
    (hanb : ∀ g k, an = some ⟨g, k, none⟩ → w.heap.size < g) (hnone : an = none → cn = 0) (hvn : vn = Value.slice an ids.length cn) :
    SeenPost w d ids S (.returned (.agg #[.bool d, vn, .slice b m c2])) (((wr.setCell ⟨w.heap.size, 0, none⟩ (.bool d)).setCell ⟨w.heap.size, 1, none⟩ vn).setCell ⟨w.heap.size, 2, none⟩ (.slice b m c2)) := by
  have hlt := hE.lt
  have hse : ∀ j, j ≠ w.heap.size → (((wr.setCell ⟨w.heap.size, 0, none⟩ (.bool d)).setCell ⟨w.heap.size, 1, none⟩ vn).setCell ⟨w.heap.size, 2, none⟩ (.slice b m c2)).heap[j]? = wr.heap[j]? := fun j hj => by
    rw [Below.heap_setCell _ _ _ _ hj, Below.heap_setCell _ _ _ _ hj, Below.heap_setCell _ _ _ _ hj]
  have hrow := owns_same (w' := ((wr.setCell ⟨w.heap.size, 0, none⟩ (.bool d)).setCell ⟨w.heap.size, 1, none⟩ vn).setCell ⟨w.heap.size, 2, none⟩ (.slice b m c2)) hE.e fun j hj => hse j (by have := (hE.e.lt j hj).1; omega)
  obtain ⟨a', c', e', _, hcs, _⟩ := owns_cells hrow
  injection e' with e1 _ _
  subst e1
  refine ⟨an, cn, b, c2, by rw [hvn, hm], hcn.sameAt (fun j hj => hse j (by omega)) (by simp only [size_setCell]; exact Nat.le_refl _) hanb, hnone, hcs, fun g k e => by have := hanb g k e; omega, fun g k e => ?_, ?_⟩
  · have := (own_slot (by rw [e] at hrow; exact hrow)).1; omega
  · exact ((hbw.setCell (Nat.le_refl _) _).setCell (Nat.le_refl _) _).setCell (Nat.le_refl _) _

theorem offS_asc {ids : List Int} (h : ids.Pairwise (· ≤ ·)) (outs : List (List Arc)) (u : Int) : asc (offS ids outs u) = offS ids outs u := (asc_unique (List.Perm.refl _) (h.sublist List.filter_sublist)).symm
theorem offS_len (ids : List Int) (outs : List (List Arc)) (u : Int) : (offS ids outs u).length ≤ ids.length := List.length_filter_le _ _

end Go.Proofs.YtanbhibllilccaaGreat

namespace Go.Proofs.YtanbhibllilccaaGreat
open Go.RowKit

set_option maxRecDepth 100000 in
set_option maxHeartbeats 4000000 in
theorem seenDir_any (pb : Nat) (ids : List Int) (outs ins : List (List Arc)) (w : World) (hids : ids.length ≤ 1000) (h64 : ∀ y ∈ ids, In64 y) (hp : PlainAt w pb ids outs ins) :
    Calls Tryz.prog 19 #[.iface 51 (.agg #[.iface 81 (.agg #[.pointer (some ⟨pb, 0, none⟩)])]), .bool true, .nilFunc] w (SeenPost w true ids (offS ids outs)) := by
  obtain ⟨w1, hw1⟩ : ∃ w1, w1 = w.alloc (.cells #[.bool false, .slice none 0 0, .slice none 0 0] 25) := ⟨_, rfl⟩
  have hb1 : Below w.heap.size w w1 := by rw [hw1]; exact alloc_below _ _
  have hz1 : w1.heap.size = w.heap.size + 1 := by rw [hw1]; simp
  have kz : w1.heap[w.heap.size]? = some (.cells #[.bool false, .slice none 0 0, .slice none 0 0] 25 (0, 0)) := by rw [hw1]; exact heap_alloc_new _ _
  have hn := Lib.hid (nodesDir_any pb ids outs ins w1 hids (hp.below hb1))
  rw [hw1] at hn
  have hw1h := Lib.hid hw1
  have hb1h := Lib.hid hb1
  have hz1h := Lib.hid hz1
  have kzh := Lib.hid kz
  have hph := Lib.hid hp
  have h64h := Lib.hid h64
  have hasc : Hid (asc ids = ids) := (asc_unique (List.Perm.refl _) (hp.up.imp fun h => Int.le_of_lt h)).symm
  have mc := cnodes_methodDir
  have mf := cfrom_method
  clear hw1 hb1 hz1 kz hp h64
  go_enter Tryz.func19, Tryz.ntmps19
  go_wp2_with fail
  refine (unhide hn).mono ?_
  rintro e w2 ⟨ib, rfl, hit, hb2⟩
  rw [← hw1h.out] at hit hb2
  have hited := Lib.hid (iteratedO_any w1.heap.size w2.heap.size ib ids w2 hids hit (Nat.le_refl _))
  have hb2h := Lib.hid hb2
  clear hn hit hb2 mc
  go_wp2_with fail
  refine (unhide hited).mono ?_
  rintro e w3 ⟨an, cn, rfl, own3, hb3⟩
  obtain ⟨ob, hob⟩ : ∃ ob, ob = w3.heap.size := ⟨_, rfl⟩
  obtain ⟨w4, hw4⟩ : ∃ w4, w4 = w3.alloc (.cells #[.bool true, .slice an ids.length cn, .slice none 0 0] 25) := ⟨_, rfl⟩
  obtain ⟨vn, hvn⟩ : ∃ vn, vn = Value.slice an ids.length cn := ⟨_, rfl⟩
  have hs := seen_start (d := true) hw1h.out hb2h.out hb3 (by rw [hasc.out] at own3; exact own3) hob hw4 hvn kzh.out hz1h.out
  have hE0 := Lib.hid hs.1
  have hK : Hid (∀ wr, w4.grownBy wr (some ob) → Below w.heap.size w wr ∧ Cells wr an (ints ids) ∧ wr.heap[w.heap.size]? = some (.cells #[.bool false, .slice none 0 0, .slice none 0 0] 25 (0, 0)) ∧ PlainAt wr pb ids outs ins) := fun wr h => by
    obtain ⟨r1, r2, r3⟩ := hs.2 wr h
    exact ⟨r1, r2, r3, hph.out.below r1⟩
  have hanb : Hid (∀ g k, an = some ⟨g, k, none⟩ → w.heap.size < g) := fun g k e => by
    have h1 := (own_slot (by rw [e] at own3; exact own3)).1
    have h2 := hb2h.out.size
    have h3 := hz1h.out
    omega
  have hnone : Hid (an = none → cn = 0) := by
    intro e
    subst e
    obtain ⟨_, h3 | ⟨g, cap, cur, hv, _⟩⟩ := own3
    · injection h3.1
    · injection hv with hv
      cases hv
  have c1 : w4.cell? ⟨ob, 1, none⟩ = some vn := hs.1.at1
  have hbw : Hid (w.heap.size < ob) := by
    have h1 := hb2h.out.size
    have h2 := hb3.size
    have h3 := hz1h.out
    unfold Hid
    omega
  rw [hob] at c1
  rw [hw4] at c1
  have hw4h := Lib.hid hw4
  have hobh := Lib.hid hob
  have hvnh := Lib.hid hvn
  clear hs own3 hb3 hited hb2h hw4 hob hvn hw1h hb1h hz1h kzh hph
  rw [hvnh.out] at c1
  go_wp2_with fail
  rw [← hw4h.out, ← hobh.out]
  clear c1 hw4h hobh
  obtain ⟨S, hS⟩ : ∃ S, S = offS ids outs := ⟨_, rfl⟩
  have hSl : Hid (∀ u, (S u).length ≤ 1000) := fun u => by rw [hS]; have := offS_len ids outs u; omega
  rw [← hS]
  have hSh := Lib.hid hS
  clear hS
  go_loopw [23] (fun iv wr => ∃ (k m : Nat) (b : Option Addr) (c2 : Nat), k ≤ ids.length ∧ iv = .int .i64 k ∧ m = (seenE true (ids.take k) S).length ∧ EG w4 wr ob true vn (seenE true (ids.take k) S) (.slice b m c2)) (fun iv _ => ids.length - (intOf iv).toNat)
  case atStart => exact ⟨0, 0, none, 0, Nat.zero_le _, rfl, rfl, hE0.out⟩
  case round =>
    clear hE0
    obtain ⟨k, m, b, c2, hk, rfl, hm, hE⟩ := hrel
    obtain ⟨hbw', hcn, hkz, hp⟩ := hK.out wr hE.fr
    have hmh := Lib.hid hm
    have hEh := Lib.hid hE
    by_cases hlt : k < ids.length
    · obtain ⟨wk, hwk⟩ : ∃ wk, wk = wr := ⟨_, rfl⟩
      subst hwk
      obtain ⟨nb, no, rfl, _, hr⟩ := hcn.at (by rw [ints_length]; omega)
      have x0 := ints_cell hr hlt
      obtain ⟨u, hu⟩ : ∃ u, u = ids[k] := ⟨_, rfl⟩
      rw [← hu] at x0
      have hcf := Lib.hid (cfromDir_any pb ids outs ins u wk hids h64h.out hp (by rw [hu]; exact List.getElem_mem hlt))
      have htk : Hid (seenE true (ids.take (k + 1)) S = seenE true (ids.take k) S ++ rowE true u (S u)) := by unfold Hid; rw [seenE_succ _ _ _ hlt, ← hu]
      have hml : m ≤ k * 1000 := by
        rw [hm]
        refine Nat.le_trans (seenE_len _ _ _ 1000 hSl.out) ?_
        rw [List.length_take]
        exact Nat.mul_le_mul_right _ (Nat.min_le_left _ _)
      obtain ⟨E0, hE0⟩ : ∃ E0, E0 = seenE true (ids.take k) S := ⟨_, rfl⟩
      rw [← hE0] at hm hE htk
      have hmh := Lib.hid hm
      have hEh := Lib.hid hE
      have hasl : Hid (asc (S u) = S u) := by unfold Hid; rw [hSh.out]; exact offS_asc (hp.up.imp fun h => Int.le_of_lt h) outs u
      have hup := Lib.hid hp.up
      clear hm hE hE0 hu hr hcn hkz hp hbw'
      go_wp2_with fail
      refine (unhide hcf).mono ?_
      rintro e w5 ⟨fb, ib, fil, rfl, hF, hfil, hb5⟩
      have hit := iteratedF_any wk.heap.size w5.heap.size fb ib ids fil w5 hids h64h.out hF (Nat.le_refl _)
      rw [offS_of hfil, ← hSh.out] at hit
      have hith := Lib.hid hit
      have hb5h := Lib.hid hb5
      clear hit hb5 hF hfil hcf x0
      go_wp2_with fail
      refine (unhide hith).mono ?_
      rintro e w6 ⟨al, cl, rfl, own6, hb6⟩
      rw [hasl.out] at own6
      have hb56 := hb5h.out.trans hb6
      have hZ : EZ w4 w6 w6 wk.heap.size w6.heap.size ob true vn E0 (.slice b m c2) := ⟨hEh.out.keep hb56, fun _ _ _ => rfl, fun j hj => .inl (hEh.out.e.lt j hj).2, Nat.le_refl _, hEh.out.fr.size⟩
      obtain ⟨l, hl⟩ : ∃ l, l = S u := ⟨_, rfl⟩
      have hll : l.length ≤ 1000 := by rw [hl]; exact hSl.out u
      rw [← hl] at own6 htk ⊢
      have hL : Hid (∀ W : World, (∀ j, wk.heap.size ≤ j → j < w6.heap.size → W.heap[j]? = w6.heap[j]?) → Cells W al (ints l)) := fun W hW => by
        have hr := owns_same (w' := W) own6 fun j hj => hW j (by have := (own6.lt j hj).1; have := hb5h.out.size; omega) (own6.lt j hj).2
        obtain ⟨a', c', e', _, hc, _⟩ := owns_cells hr
        injection e' with e1 _ _
        subst e1
        exact hc
      have hZh := Lib.hid hZ
      clear hl hb6 hb56 hb5h hith own6 hZ hasl hEh
      go_wp2_with fail
      go_loopw [32] (fun iv wr => ∃ (j m : Nat) (b : Option Addr) (c2 : Nat), j ≤ l.length ∧ iv = .int .i64 j ∧ m = (E0 ++ rowE true u (l.take j)).length ∧ EZ w4 w6 wr wk.heap.size w6.heap.size ob true vn (E0 ++ rowE true u (l.take j)) (.slice b m c2)) (fun iv _ => l.length - (intOf iv).toNat)
      case atStart => exact ⟨0, m, b, c2, Nat.zero_le _, rfl, by rw [hmh.out]; simp [rowE], by have := hZh.out; simpa [rowE] using this⟩
      case round =>
        obtain ⟨j, m', b', c', hj, rfl, hm', hZ⟩ := hrel
        clear hZh
        have hm'h := Lib.hid hm'
        have hml' : m' ≤ k * 1000 + 1000 := by
          rw [hm', List.length_append, ← hmh.out]
          have := rowE_len true u (l.take j)
          rw [List.length_take] at this
          omega
        have hZh := Lib.hid hZ
        clear hm'
        by_cases hjl : j < l.length
        · obtain ⟨lb, lo, rfl, _, hlr⟩ := (hL.out wr hZ.zone).at (by rw [ints_length]; omega)
          have x1 := ints_cell hlr hjl
          obtain ⟨v, hv⟩ : ∃ v, v = l[j] := ⟨_, rfl⟩
          rw [← hv] at x1
          have htj := rowE_succ true u l hjl
          rw [← hv] at htj
          have htjh := Lib.hid htj
          clear hv hlr htj
          by_cases hpos : False
          · exact hpos.elim
          · skip
            have hZ7 := hZ.keep (alloc_below wr (.cells #[.int .i64 u, .int .i64 v, .int .i64 0] 55))
            have e2 := hZ.eg.at2
            have hzw := lt_of_block hZ.eg.blk
            have ho := Lib.hid (fun o => hZ7.eg.e.alloc o)
            have hZ7h := Lib.hid hZ7
            have hz4 : w4.heap.size ≤ wr.heap.size := hZ.eg.fr.size
            obtain ⟨es, hes⟩ : ∃ es, es = E0 ++ rowE true u (l.take j) := ⟨_, rfl⟩
            rw [← hes] at hZ7h ho hm'h
            rw [← hm'h.out] at ho
            have hesh := Lib.hid hes
            have hkl : k * 1000 + 1000 ≤ 1000000 := by omega
            clear hZ hZ7 hes hZh
            have hneq := nil_func
            go_wp2_with (at_builtin; refine append_law 23 55 (.agg #[.int .i64 0, .int .i64 0, .int .i64 0]) 3 24 Tryz.underlying23 info_edge rfl (by omega) (by omega) rfl _ _ rfl w4.heap.size b' m' c' (edgeCells es) rfl (unhide ho _) ⟨wr.heap.size + 1, 0, none⟩ 1 1 [.int .i64 u, .int .i64 v, .int .i64 0] rfl rfl (new_three_at _ _ _ _ _ (by simp)) (one_edge _ _ _) (by omega) (by simp; omega) ?_; intro b2 c2 w7 hown2 hg2 hat2; obtain ⟨s1, s2, s3⟩ := hZ7h.out.add (x := (u, v, 0)) hm'h.out hg2 hown2 hat2; clear hown2 hg2 hat2 ho hZ7h)
            go_roundw
            case rel => exact ⟨j + 1, m' + 1, b2, c2, by omega, by go_num, by rw [htjh.out, if_pos (by rfl), ← List.append_assoc, ← hesh.out, List.length_append, ← hm'h.out]; rfl, by rw [htjh.out, if_pos (by rfl), ← List.append_assoc, ← hesh.out]; exact s3.out⟩
            case measure => simp [intOf]; omega
        · have hjn : j = l.length := by omega
          subst hjn
          clear hZ
          go_wp2_with fail
          go_roundw
          case rel => exact ⟨k + 1, m', b', c', by omega, by go_num, by rw [htk.out, hm'h.out, List.take_length], by have := hZh.out.eg; rw [List.take_length, ← htk.out] at this; exact this⟩
          case measure => simp [intOf]; omega
    · have hkn : k = ids.length := by omega
      subst hkn
      rw [List.take_length] at hm hE
      have o0 := hE.at0
      have o1 := hE.at1
      have o2 := hE.at2
      obtain ⟨y0, y1, y2, y3, y4, y5, y6, y7, y8⟩ := ebox3 hkz (.bool true) vn (.slice b m c2)
      have hfin := Lib.hid (seen_done hbw.out hm hE hcn hbw' hanb.out hnone.out hvnh.out)
      obtain rfl : vn = Value.slice an ids.length cn := hvnh.out
      clear hm hE hkz hbw' hp hcn hmh hEh
      go_wp2_with fail
      (try simp only [Exit.inBlock, Exit.then])
      refine bodyPost_ret (v := .agg #[.bool true, .slice an ids.length cn, .slice b m c2]) (by simp [results, show Tryz.func19.results = #[.cell 6 25] from rfl, go_sem, y6, y7, y8]) rfl ?_
      have hr := hfin.out
      rw [hSh.out] at hr
      exact hr
end Go.Proofs.YtanbhibllilccaaGreat

namespace Go.Proofs.YtanbhibllilccaaGreat
open Go.RowKit

set_option maxRecDepth 100000 in
set_option maxHeartbeats 4000000 in
theorem seenUnd_any (pb : Nat) (ids : List Int) (outs ins : List (List Arc)) (w : World) (hids : ids.length ≤ 1000) (h64 : ∀ y ∈ ids, In64 y) (hp : PlainAt w pb ids outs ins) :
    Calls Tryz.prog 19 #[.iface 51 (.agg #[.iface 62 (.agg #[.pointer (some ⟨pb, 0, none⟩)])]), .bool false, .nilFunc] w (SeenPost w false ids (offS ids outs)) := by
  obtain ⟨w1, hw1⟩ : ∃ w1, w1 = w.alloc (.cells #[.bool false, .slice none 0 0, .slice none 0 0] 25) := ⟨_, rfl⟩
  have hb1 : Below w.heap.size w w1 := by rw [hw1]; exact alloc_below _ _
  have hz1 : w1.heap.size = w.heap.size + 1 := by rw [hw1]; simp
  have kz : w1.heap[w.heap.size]? = some (.cells #[.bool false, .slice none 0 0, .slice none 0 0] 25 (0, 0)) := by rw [hw1]; exact heap_alloc_new _ _
  have hn := Lib.hid (nodesUnd_any pb ids outs ins w1 hids (hp.below hb1))
  rw [hw1] at hn
  have hw1h := Lib.hid hw1
  have hb1h := Lib.hid hb1
  have hz1h := Lib.hid hz1
  have kzh := Lib.hid kz
  have hph := Lib.hid hp
  have h64h := Lib.hid h64
  have hasc : Hid (asc ids = ids) := (asc_unique (List.Perm.refl _) (hp.up.imp fun h => Int.le_of_lt h)).symm
  have mc := cnodes_methodUnd
  have mf := cfrom_method
  clear hw1 hb1 hz1 kz hp h64
  go_enter Tryz.func19, Tryz.ntmps19
  go_wp2_with fail
  refine (unhide hn).mono ?_
  rintro e w2 ⟨ib, rfl, hit, hb2⟩
  rw [← hw1h.out] at hit hb2
  have hited := Lib.hid (iteratedO_any w1.heap.size w2.heap.size ib ids w2 hids hit (Nat.le_refl _))
  have hb2h := Lib.hid hb2
  clear hn hit hb2 mc
  go_wp2_with fail
  refine (unhide hited).mono ?_
  rintro e w3 ⟨an, cn, rfl, own3, hb3⟩
  obtain ⟨ob, hob⟩ : ∃ ob, ob = w3.heap.size := ⟨_, rfl⟩
  obtain ⟨w4, hw4⟩ : ∃ w4, w4 = w3.alloc (.cells #[.bool false, .slice an ids.length cn, .slice none 0 0] 25) := ⟨_, rfl⟩
  obtain ⟨vn, hvn⟩ : ∃ vn, vn = Value.slice an ids.length cn := ⟨_, rfl⟩
  have hs := seen_start (d := false) hw1h.out hb2h.out hb3 (by rw [hasc.out] at own3; exact own3) hob hw4 hvn kzh.out hz1h.out
  have hE0 := Lib.hid hs.1
  have hK : Hid (∀ wr, w4.grownBy wr (some ob) → Below w.heap.size w wr ∧ Cells wr an (ints ids) ∧ wr.heap[w.heap.size]? = some (.cells #[.bool false, .slice none 0 0, .slice none 0 0] 25 (0, 0)) ∧ PlainAt wr pb ids outs ins) := fun wr h => by
    obtain ⟨r1, r2, r3⟩ := hs.2 wr h
    exact ⟨r1, r2, r3, hph.out.below r1⟩
  have hanb : Hid (∀ g k, an = some ⟨g, k, none⟩ → w.heap.size < g) := fun g k e => by
    have h1 := (own_slot (by rw [e] at own3; exact own3)).1
    have h2 := hb2h.out.size
    have h3 := hz1h.out
    omega
  have hnone : Hid (an = none → cn = 0) := by
    intro e
    subst e
    obtain ⟨_, h3 | ⟨g, cap, cur, hv, _⟩⟩ := own3
    · injection h3.1
    · injection hv with hv
      cases hv
  have c1 : w4.cell? ⟨ob, 1, none⟩ = some vn := hs.1.at1
  have hbw : Hid (w.heap.size < ob) := by
    have h1 := hb2h.out.size
    have h2 := hb3.size
    have h3 := hz1h.out
    unfold Hid
    omega
  rw [hob] at c1
  rw [hw4] at c1
  have hw4h := Lib.hid hw4
  have hobh := Lib.hid hob
  have hvnh := Lib.hid hvn
  clear hs own3 hb3 hited hb2h hw4 hob hvn hw1h hb1h hz1h kzh hph
  rw [hvnh.out] at c1
  go_wp2_with fail
  rw [← hw4h.out, ← hobh.out]
  clear c1 hw4h hobh
  obtain ⟨S, hS⟩ : ∃ S, S = offS ids outs := ⟨_, rfl⟩
  have hSl : Hid (∀ u, (S u).length ≤ 1000) := fun u => by rw [hS]; have := offS_len ids outs u; omega
  rw [← hS]
  have hSh := Lib.hid hS
  clear hS
  go_loopw [23] (fun iv wr => ∃ (k m : Nat) (b : Option Addr) (c2 : Nat), k ≤ ids.length ∧ iv = .int .i64 k ∧ m = (seenE false (ids.take k) S).length ∧ EG w4 wr ob false vn (seenE false (ids.take k) S) (.slice b m c2)) (fun iv _ => ids.length - (intOf iv).toNat)
  case atStart => exact ⟨0, 0, none, 0, Nat.zero_le _, rfl, rfl, hE0.out⟩
  case round =>
    clear hE0
    obtain ⟨k, m, b, c2, hk, rfl, hm, hE⟩ := hrel
    obtain ⟨hbw', hcn, hkz, hp⟩ := hK.out wr hE.fr
    have hmh := Lib.hid hm
    have hEh := Lib.hid hE
    by_cases hlt : k < ids.length
    · obtain ⟨wk, hwk⟩ : ∃ wk, wk = wr := ⟨_, rfl⟩
      subst hwk
      obtain ⟨nb, no, rfl, _, hr⟩ := hcn.at (by rw [ints_length]; omega)
      have x0 := ints_cell hr hlt
      obtain ⟨u, hu⟩ : ∃ u, u = ids[k] := ⟨_, rfl⟩
      rw [← hu] at x0
      have hcf := Lib.hid (cfromUnd_any pb ids outs ins u wk hids h64h.out hp (by rw [hu]; exact List.getElem_mem hlt))
      have htk : Hid (seenE false (ids.take (k + 1)) S = seenE false (ids.take k) S ++ rowE false u (S u)) := by unfold Hid; rw [seenE_succ _ _ _ hlt, ← hu]
      have hml : m ≤ k * 1000 := by
        rw [hm]
        refine Nat.le_trans (seenE_len _ _ _ 1000 hSl.out) ?_
        rw [List.length_take]
        exact Nat.mul_le_mul_right _ (Nat.min_le_left _ _)
      obtain ⟨E0, hE0⟩ : ∃ E0, E0 = seenE false (ids.take k) S := ⟨_, rfl⟩
      rw [← hE0] at hm hE htk
      have hmh := Lib.hid hm
      have hEh := Lib.hid hE
      have hasl : Hid (asc (S u) = S u) := by unfold Hid; rw [hSh.out]; exact offS_asc (hp.up.imp fun h => Int.le_of_lt h) outs u
      have hup := Lib.hid hp.up
      clear hm hE hE0 hu hr hcn hkz hp hbw'
      go_wp2_with fail
      refine (unhide hcf).mono ?_
      rintro e w5 ⟨fb, ib, fil, rfl, hF, hfil, hb5⟩
      have hit := iteratedF_any wk.heap.size w5.heap.size fb ib ids fil w5 hids h64h.out hF (Nat.le_refl _)
      rw [offS_of hfil, ← hSh.out] at hit
      have hith := Lib.hid hit
      have hb5h := Lib.hid hb5
      clear hit hb5 hF hfil hcf x0
      go_wp2_with fail
      refine (unhide hith).mono ?_
      rintro e w6 ⟨al, cl, rfl, own6, hb6⟩
      rw [hasl.out] at own6
      have hb56 := hb5h.out.trans hb6
      have hZ : EZ w4 w6 w6 wk.heap.size w6.heap.size ob false vn E0 (.slice b m c2) := ⟨hEh.out.keep hb56, fun _ _ _ => rfl, fun j hj => .inl (hEh.out.e.lt j hj).2, Nat.le_refl _, hEh.out.fr.size⟩
      obtain ⟨l, hl⟩ : ∃ l, l = S u := ⟨_, rfl⟩
      have hll : l.length ≤ 1000 := by rw [hl]; exact hSl.out u
      rw [← hl] at own6 htk ⊢
      have hL : Hid (∀ W : World, (∀ j, wk.heap.size ≤ j → j < w6.heap.size → W.heap[j]? = w6.heap[j]?) → Cells W al (ints l)) := fun W hW => by
        have hr := owns_same (w' := W) own6 fun j hj => hW j (by have := (own6.lt j hj).1; have := hb5h.out.size; omega) (own6.lt j hj).2
        obtain ⟨a', c', e', _, hc, _⟩ := owns_cells hr
        injection e' with e1 _ _
        subst e1
        exact hc
      have hZh := Lib.hid hZ
      clear hl hb6 hb56 hb5h hith own6 hZ hasl hEh
      go_wp2_with fail
      go_loopw [32] (fun iv wr => ∃ (j m : Nat) (b : Option Addr) (c2 : Nat), j ≤ l.length ∧ iv = .int .i64 j ∧ m = (E0 ++ rowE false u (l.take j)).length ∧ EZ w4 w6 wr wk.heap.size w6.heap.size ob false vn (E0 ++ rowE false u (l.take j)) (.slice b m c2)) (fun iv _ => l.length - (intOf iv).toNat)
      case atStart => exact ⟨0, m, b, c2, Nat.zero_le _, rfl, by rw [hmh.out]; simp [rowE], by have := hZh.out; simpa [rowE] using this⟩
      case round =>
        obtain ⟨j, m', b', c', hj, rfl, hm', hZ⟩ := hrel
        clear hZh
        have hm'h := Lib.hid hm'
        have hml' : m' ≤ k * 1000 + 1000 := by
          rw [hm', List.length_append, ← hmh.out]
          have := rowE_len false u (l.take j)
          rw [List.length_take] at this
          omega
        have hZh := Lib.hid hZ
        clear hm'
        by_cases hjl : j < l.length
        · obtain ⟨lb, lo, rfl, _, hlr⟩ := (hL.out wr hZ.zone).at (by rw [ints_length]; omega)
          have x1 := ints_cell hlr hjl
          obtain ⟨v, hv⟩ : ∃ v, v = l[j] := ⟨_, rfl⟩
          rw [← hv] at x1
          have htj := rowE_succ false u l hjl
          rw [← hv] at htj
          have htjh := Lib.hid htj
          clear hv hlr htj
          by_cases hpos : v < u
          · have hdec : decide (v < u) = true := decide_eq_true hpos
            have hdec2 : Hid ((false || decide (u ≤ v)) = false) := by unfold Hid; rw [Bool.false_or]; exact decide_eq_false (by omega)
            clear hZ
            go_wp2_with fail
            go_roundw
            case rel => exact ⟨j + 1, m', b', c', by omega, by go_num, by rw [htjh.out, if_neg (by rw [hdec2.out]; simp), List.append_nil]; exact hm'h.out, by rw [htjh.out, if_neg (by rw [hdec2.out]; simp), List.append_nil]; exact hZh.out⟩
            case measure => simp [intOf]; omega
          · have hdec : decide (v < u) = false := decide_eq_false hpos
            have hdec2 : Hid ((false || decide (u ≤ v)) = true) := by unfold Hid; rw [Bool.false_or]; exact decide_eq_true (by omega)
            have hZ7 := hZ.keep (alloc_below wr (.cells #[.int .i64 u, .int .i64 v, .int .i64 0] 55))
            have e2 := hZ.eg.at2
            have hzw := lt_of_block hZ.eg.blk
            have ho := Lib.hid (fun o => hZ7.eg.e.alloc o)
            have hZ7h := Lib.hid hZ7
            have hz4 : w4.heap.size ≤ wr.heap.size := hZ.eg.fr.size
            obtain ⟨es, hes⟩ : ∃ es, es = E0 ++ rowE false u (l.take j) := ⟨_, rfl⟩
            rw [← hes] at hZ7h ho hm'h
            rw [← hm'h.out] at ho
            have hesh := Lib.hid hes
            have hkl : k * 1000 + 1000 ≤ 1000000 := by omega
            clear hZ hZ7 hes hZh
            have hneq := nil_func
            go_wp2_with (at_builtin; refine append_law 23 55 (.agg #[.int .i64 0, .int .i64 0, .int .i64 0]) 3 24 Tryz.underlying23 info_edge rfl (by omega) (by omega) rfl _ _ rfl w4.heap.size b' m' c' (edgeCells es) rfl (unhide ho _) ⟨wr.heap.size + 1, 0, none⟩ 1 1 [.int .i64 u, .int .i64 v, .int .i64 0] rfl rfl (new_three_at _ _ _ _ _ (by simp)) (one_edge _ _ _) (by omega) (by simp; omega) ?_; intro b2 c2 w7 hown2 hg2 hat2; obtain ⟨s1, s2, s3⟩ := hZ7h.out.add (x := (u, v, 0)) hm'h.out hg2 hown2 hat2; clear hown2 hg2 hat2 ho hZ7h)
            go_roundw
            case rel => exact ⟨j + 1, m' + 1, b2, c2, by omega, by go_num, by rw [htjh.out, if_pos hdec2.out, ← List.append_assoc, ← hesh.out, List.length_append, ← hm'h.out]; rfl, by rw [htjh.out, if_pos hdec2.out, ← List.append_assoc, ← hesh.out]; exact s3.out⟩
            case measure => simp [intOf]; omega
        · have hjn : j = l.length := by omega
          subst hjn
          clear hZ
          go_wp2_with fail
          go_roundw
          case rel => exact ⟨k + 1, m', b', c', by omega, by go_num, by rw [htk.out, hm'h.out, List.take_length], by have := hZh.out.eg; rw [List.take_length, ← htk.out] at this; exact this⟩
          case measure => simp [intOf]; omega
    · have hkn : k = ids.length := by omega
      subst hkn
      rw [List.take_length] at hm hE
      have o0 := hE.at0
      have o1 := hE.at1
      have o2 := hE.at2
      obtain ⟨y0, y1, y2, y3, y4, y5, y6, y7, y8⟩ := ebox3 hkz (.bool false) vn (.slice b m c2)
      have hfin := Lib.hid (seen_done hbw.out hm hE hcn hbw' hanb.out hnone.out hvnh.out)
      obtain rfl : vn = Value.slice an ids.length cn := hvnh.out
      clear hm hE hkz hbw' hp hcn hmh hEh
      go_wp2_with fail
      (try simp only [Exit.inBlock, Exit.then])
      refine bodyPost_ret (v := .agg #[.bool false, .slice an ids.length cn, .slice b m c2]) (by simp [results, show Tryz.func19.results = #[.cell 6 25] from rfl, go_sem, y6, y7, y8]) rfl ?_
      have hr := hfin.out
      rw [hSh.out] at hr
      exact hr
end Go.Proofs.YtanbhibllilccaaGreat
