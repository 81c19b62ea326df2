/- topo.tarjanSCCstabilized with the order by numbers (topo.lexical as a function value): the walk. -/
import Derived.Test.YthpjmjohdliohaaGreatSortB
namespace Go.Proofs.YthpjmjohdliohaaGreat
open Go.RowKit

/-- The order by numbers as a value. -/
def lexv : Value := .func (.func 40) #[] #[]
theorem lex_not_nil (w : World) : (binOp .eql 83 lexv .nilFunc).run Tryz.prog w = .ok (.bool false) w := by unfold lexv; kernel_rfl

/-- The successors in the order of their numbers, as the closure turns them. -/
def succAs (ids : List Int) (outs : List (List Arc)) (x : Int) : List Int := (asc (succOf ids outs x)).reverse
theorem succAs_length (ids : List Int) (outs : List (List Arc)) (x : Int) : (succAs ids outs x).length = (succOf ids outs x).length := by unfold succAs; rw [List.length_reverse, asc_length]

set_option maxHeartbeats 1000000 in
theorem succClo3_any (gb pb : Nat) (ids : List Int) (outs ins : List (List Arc)) (x : Int) (W : World) (hids : ids.length ≤ 1000) (hg : W.cell? ⟨gb, 0, none⟩ = some (.iface 47 (.agg #[.pointer (some ⟨pb, 0, none⟩)]))) (hq : W.cell? ⟨gb + 1, 0, none⟩ = some (lexv))
    (hp : PlainAt W pb ids outs ins) (hx : x ∈ ids) :
    Calls Tryz.prog 68 #[.int .i64 x, .pointer (some ⟨gb, 0, none⟩), .pointer (some ⟨gb + 1, 0, none⟩)] W
      fun e w' => ∃ a c, e = .returned (.slice a (succAs ids outs x).length c) ∧ w'.ownsRow W.heap.size 85 1 (.slice a (succAs ids outs x).length c) (succAs ids outs x).length (nodes (succAs ids outs x)) ∧ Below W.heap.size W w' := by
  have hfrom := Lib.hid (fromDir_any pb ids outs ins x W (by omega) hp hx)
  have hl := succ_len hp x
  have hb : Hid (succOf ids outs x = endsOf ids (outs.getD (posOf ids x) [])) := rfl
  have hq2 : Hid (∀ w2, Below W.heap.size W w2 → w2.cell? ⟨gb + 1, 0, none⟩ = some (.func (.func 40) #[] #[])) := fun w2 hw => cell_below hw hq
  have hlen := succAs_length ids outs x
  have hrv : Hid (succAs ids outs x = (asc (succOf ids outs x)).reverse) := rfl
  clear hp hx hq
  go_enter Tryz.func68, Tryz.ntmps68
  go_wp2_with (go_at_call 166; refine (unhide hfrom).mono ?_; rintro e w1 ⟨ib, rfl, hit, hb1⟩)
  rw [← hb.out] at hit
  have hno := Lib.hid (nodesOf_any W.heap.size w1.heap.size ib (succOf ids outs x) w1 (by omega) hit)
  have hib : W.heap.size ≤ ib := hit.1
  have hb1h := Lib.hid hb1
  clear hit hb1 hfrom
  refine (unhide hno).mono ?_
  rintro e w2 ⟨a, c, rfl, hown, _, hg2⟩
  have hb2 : Below W.heap.size W w2 := hb1h.out.grown hg2 hb1h.out.size (fun k hk => by injection hk with hk; omega)
  obtain ⟨n, hn⟩ : ∃ n, n = (succOf ids outs x).length := ⟨_, rfl⟩
  have hlenh : Hid ((succAs ids outs x).length = n) := hlen.trans hn.symm
  have q2 := hq2.out w2 hb2
  have hord := Lib.hid (lexical_any W.heap.size (succOf ids outs x).length c a (succOf ids outs x) w2 (by omega) hown)
  rw [← hn] at hord ⊢
  have hn1 : n ≤ 1000 := by omega
  have hb2h := Lib.hid hb2
  have hnh := Lib.hid hn
  clear hno hown hg2 hb2 hq2 hn hlen
  go_wp2_with fail
  refine (unhide hord).mono ?_
  rintro e w3 ⟨rfl, own3, hg3⟩
  have hrev := Lib.hid (revNodes_any W.heap.size n c a _ w3 (by omega) own3)
  have hb3 : Hid (Below W.heap.size W w3) := hb2h.out.grown hg3 hb2h.out.size (fun k hk => (own3.lt k hk).1)
  clear own3 hg3 hord q2
  go_wp2_with fail
  refine (unhide hrev).mono ?_
  rintro e w4 ⟨rfl, own4, hg4⟩
  have hfin : Hid (Below W.heap.size W w4) := hb3.out.grown hg4 hb3.out.size (fun k hk => (own4.lt k hk).1)
  rw [← hrv.out] at own4
  have hownh := Lib.hid own4
  clear hrev own4 hg4
  go_wp2_with fail
  go_ret
  exact ⟨a, c, by rw [hlenh.out]; rfl, by rw [hlenh.out]; exact hownh.out, hfin.out⟩

set_option maxRecDepth 100000 in
set_option maxHeartbeats 4000000 in
theorem stab3_any (pb : Nat) (aids : List Int) (outs ins : List (List Arc)) (w : World) (hidsA : aids.length ≤ 1000) (h64A : ∀ x ∈ aids, In64 x) (hp : PlainAt w pb aids outs ins) :
    Calls Tryz.prog 42 #[.iface 47 (.agg #[.pointer (some ⟨pb, 0, none⟩)]), lexv] w (SccPost w (sccsOf (succAs aids outs) (asc aids).reverse)) := by
  have hon := lex_not_nil
  have hmk := @run_makeMap Tryz.prog
  have hmh := fun (n : Int) (W : World) => run_makeMap_hint (P := Tryz.prog) 141 2 3 Tryz.underlying141 n W
  obtain ⟨w1, hw1⟩ : ∃ w1, w1 = (w.alloc (.cells #[.iface 47 (.agg #[.pointer (some ⟨pb, 0, none⟩)])] 81)).alloc (.cells #[lexv] 83) := ⟨_, rfl⟩
  have hb1 : Below w.heap.size w w1 := by rw [hw1]; exact (alloc_below w _).trans ((alloc_below _ _).mono (by simp))
  have hz1 : w1.heap.size = w.heap.size + 2 := by rw [hw1]; simp
  have hp1 := hp.below hb1
  have hg1 : w1.cell? ⟨w.heap.size, 0, none⟩ = some (.iface 47 (.agg #[.pointer (some ⟨pb, 0, none⟩)])) := by rw [hw1]; simp
  have hq1 : w1.cell? ⟨w.heap.size + 1, 0, none⟩ = some (lexv) := by rw [hw1]; simp
  have hK : Hid (∀ wr, Below w1.heap.size w1 wr → Below w.heap.size w wr ∧ PlainAt wr pb aids outs ins ∧ wr.cell? ⟨w.heap.size, 0, none⟩ = some (.iface 47 (.agg #[.pointer (some ⟨pb, 0, none⟩)])) ∧ wr.cell? ⟨w.heap.size + 1, 0, none⟩ = some (lexv)) :=
    fun wr h => ⟨hb1.trans (h.mono (by omega)), hp1.below h, cell_below h hg1, cell_below h hq1⟩
  have hnod := nodesDir_any pb aids outs ins w1 hidsA hp1
  rw [hw1] at hnod
  have hnodh := Lib.hid hnod
  have hw1h := Lib.hid hw1
  have hz1h := Lib.hid hz1
  obtain ⟨ids, hidse⟩ : ∃ ids, ids = (asc aids).reverse := ⟨_, rfl⟩
  have hmi : ∀ {x : Int}, x ∈ ids ↔ x ∈ aids := fun {x} => by rw [hidse, List.mem_reverse, asc_mem]
  have hil : ids.length = aids.length := by rw [hidse, List.length_reverse, asc_length]
  have hids : ids.length ≤ 1000 := by omega
  have h64 : ∀ x ∈ ids, In64 x := fun x hx => h64A x (hmi.1 hx)
  have hids' := Lib.hid (fun x (hx : x ∈ ids) y (hy : y ∈ succAs aids outs x) => hmi.2 (succ_mem hp x y (by unfold succAs at hy; rw [List.mem_reverse, asc_mem] at hy; exact hy)))
  have hslen := Lib.hid (fun x (_ : x ∈ ids) => show (succAs aids outs x).length ≤ ids.length by rw [succAs_length, hil]; exact succ_len hp x)
  have hidsh := Lib.hid hidse
  have hmih : Hid (∀ x, x ∈ ids → x ∈ aids) := fun x hx => hmi.1 hx
  have hbw1 : Hid (Below w.heap.size w w1) := hb1
  rw [← hidse]
  clear hw1 hz1 hb1 hp1 hg1 hq1 hnod hp hidse hmi hil h64A
  go_enter Tryz.func42, Tryz.ntmps42
  go_wp2_with (go_at_call 170; refine (unhide hnodh).mono ?_; rintro e w2 ⟨ib, rfl, hit, hb2⟩)
  rw [← hw1h.out] at hit hb2
  have hno := Lib.hid (nodesOf_any w1.heap.size w2.heap.size ib aids w2 (by omega) hit)
  have hib : w1.heap.size ≤ ib := hit.1
  have hb2h := Lib.hid hb2
  clear hit hb2 hnodh
  refine (unhide hno).mono ?_
  rintro e w3a ⟨an, cn, rfl, hown, _, hg3⟩
  have hb3a : Below w1.heap.size w1 w3a := hb2h.out.grown hg3 hb2h.out.size (fun k hk => by injection hk with hk; omega)
  obtain ⟨_, _, k0, k1⟩ := hK.out w3a hb3a
  have hord := Lib.hid (lexical_any w1.heap.size aids.length cn an aids w3a (by omega) hown)
  have hb3ah := Lib.hid hb3a
  clear hno hown hg3 hib hb2h hb3a
  unfold lexv at k1 hon
  go_wp2_with fail
  refine (unhide hord).mono ?_
  rintro e w3b ⟨rfl, own3b, hg3b⟩
  have hb3b : Hid (Below w1.heap.size w1 w3b) := hb3ah.out.grown hg3b hb3ah.out.size (fun k hk => (own3b.lt k hk).1)
  have hrev := Lib.hid (revNodes_any w1.heap.size aids.length cn an _ w3b (by omega) own3b)
  clear own3b hg3b hord k0 k1 hon
  go_wp2_with fail
  refine (unhide hrev).mono ?_
  rintro e w3 ⟨rfl, hown, hg3⟩
  rw [← hidsh.out] at hown
  have hb3 : Below w1.heap.size w1 w3 := hb3b.out.grown hg3 hb3b.out.size (fun k hk => (hown.lt k hk).1)
  have hlen : aids.length = ids.length := by rw [hidsh.out, List.length_reverse, asc_length]
  rw [hlen] at hown ⊢
  have hb3h := Lib.hid hb3
  have hownh := Lib.hid hown
  obtain ⟨_, _, k0, k1⟩ := hK.out w3 hb3
  clear hown hg3 hb3 hrev hlen
  go_wp2_with fail
  go_cut [7] (fun s7 wx => TarNew2 w3 w.heap.size s7 wx)
  case first =>
    go_region_held3 (fun _ => True) (trivial) (fail)
    all_goals go_wp2_with fail
    all_goals go_meet
    all_goals
      apply tar_ex2
      all_goals first
        | with_reducible exact (four_new _ _ _ _ _).1 | with_reducible exact (four_new _ _ _ _ _).2.1 | with_reducible exact (four_new _ _ _ _ _).2.2.1 | with_reducible exact (four_new _ _ _ _ _).2.2.2.1 | with_reducible exact (four_new _ _ _ _ _).2.2.2.2
        | omega
  case rest =>
  obtain ⟨tb, m1, m2, m3, rfl, g0, g1, g2, g3, q0, q1, q2, q3, n1, n2, n3, hbc⟩ := hcut
  have hT0 := tar_new (ids := ids) (A := w3.heap.size) g0 g1 g2 g3 q0 q1 q2 q3 n1 n2 n3
  have hb3c : Below w1.heap.size w1 wc := hb3h.out.trans (hbc.mono hb3h.out.size)
  have hnode : Hid (∀ wr, Below w3.heap.size w3 wr → Cells wr an (nodes ids)) := fun wr hbr => by
    have hown := hownh.out
    obtain ⟨aa, cc, e', _, hc, _⟩ := owns_cells hown
    injection e' with e1' _ _
    rw [e1']; exact hc.below hbr
  have hsucc : SuccAt2 w3 w3.heap.size ids (succAs aids outs) w.heap.size := fun W x hb hx => by
    have hb' : Below w1.heap.size w1 W := hb3h.out.trans (hb.mono hb3h.out.size)
    obtain ⟨hbW, hpW, hgW, hqW⟩ := hK.out W hb'
    exact succClo3_any w.heap.size pb aids outs ins x W hidsA hgW hqW hpW (hmih.out x hx)
  have hT0h := Lib.hid hT0
  have hbch := Lib.hid hbc
  have hsuch := Lib.hid hsucc
  have h64h := Lib.hid h64
  obtain ⟨BB, hBB⟩ : ∃ BB, BB = wc.heap.size := ⟨_, rfl⟩
  have hBBh := Lib.hid hBB
  have hBl : Hid (w.heap.size ≤ BB) := by unfold Hid; rw [hBB]; have := hb3c.size; have := hz1h.out; omega
  rw [← hBB] at hT0
  have hT00 : Hid (TarAt wc ids w3.heap.size BB tb m1 m2 m3 (fnv2 w.heap.size) (tAll (succAs aids outs) ids.length (ids.take 0) tStart).tm (.slice none 0 0) (.slice none 0 0) []) := hT0
  clear g0 g1 g2 g3 q0 q1 q2 q3 n1 n2 n3 hT0 hT0h hb3c hsucc hbc h64 hBB k0 k1 hmk hmh
  go_wp2_with fail
  go_loopw [9, 33] (fun _ i wr => ∃ (k : Nat) (sa sv : Value) (vs : List Value), k ≤ ids.length ∧ i = .int .i64 k ∧ TarAt wr ids w3.heap.size BB tb m1 m2 m3 (fnv2 w.heap.size) (tAll (succAs aids outs) ids.length (ids.take k) tStart).tm sa sv vs ∧ Below w3.heap.size w3 wr) (fun _ i _ => ids.length - (intOf i).toNat)
  case atStart => exact ⟨0, _, _, _, Nat.zero_le _, rfl, hT00.out, hbch.out⟩
  case round =>
    obtain ⟨k, sa, sv, vs, hk, rfl, hT, hb⟩ := hrel
    have hinv := (tAll_part hids'.out k).1
    by_cases hlt : k < ids.length
    · have hstep := tAll_succ (succAs aids outs) ids.length ids hlt
      obtain ⟨nb, no, rfl, _, hr⟩ := (hnode.out wr hb).at (by rw [nodes_length]; omega)
      have hnd := hr _ _ (nodes_get ids k hlt)
      obtain ⟨x, hx⟩ : ∃ x, x = ids[k] := ⟨_, rfl⟩
      have hxm : x ∈ ids := by rw [hx]; exact List.getElem_mem hlt
      have hx64 := h64h.out x hxm
      rw [← hx] at hnd hstep
      unfold nodev at hnd
      obtain ⟨S, hS⟩ : ∃ S, S = tAll (succAs aids outs) ids.length (ids.take k) tStart := ⟨_, rfl⟩
      rw [← hS] at hstep hinv hT
      have c2 := hT.blk.c2
      have hlook : (Instr.lookup 141 (.map (some m1)) (.int .i64 x) false).run Tryz.prog wr.drew = .ok (.int .i64 (S.tm.idx x)) wr.drew := imap_look (w := wr.drew) (hT.i1.same rfl) hx64
      have hstepx := Lib.hid hstep
      have hTh := Lib.hid hT
      have hbh := Lib.hid hb
      have hinvh := Lib.hid hinv
      have hxmh := Lib.hid hxm
      obtain ⟨y, hy⟩ : ∃ y, y = S.tm.idx x := ⟨_, rfl⟩
      rw [← hy] at hlook
      have hyh : Hid (y = S.idx x) := hy
      clear hr hx hxm hS hstep hinv hT hb hy
      by_cases hz : y = 0
      · subst hz
        have hz' : S.idx x = 0 := hyh.out.symm
        have hst2 : Hid (tAll (succAs aids outs) ids.length (ids.take (k + 1)) tStart = sc (succAs aids outs) ids.length S x) := by unfold Hid; rw [hstepx.out, if_pos hz']
        have hrec := Lib.hid (fun W (hTW : TarAt W ids w3.heap.size BB tb m1 m2 m3 (fnv2 w.heap.size) S.tm sa sv vs) (hbW : Below w3.heap.size w3 W) => scon2_any hids'.out h64h.out hids hslen.out w3.heap.size BB tb m1 m2 m3 w.heap.size w3 hsuch.out ids.length S x W sa sv vs hinvh.out hxmh.out hz' (by omega) hTW hbW)
        clear hstepx hz'
        go_wp2_with fail
        go_region_held3 (fun w' => w'.cell? ⟨tb, 2, none⟩ = some (.map (some m1))) (go_keep) (first | (go_at_call 184; refine (id_any _ _).mono ?_; rintro e w' ⟨rfl, rfl⟩))
        go_wp2_with fail
        refine (hrec.out _ (hTh.out.below (drew_below _)) hbh.out.drew).mono ?_
        rintro e w8 ⟨rfl, sa2, sv2, vs2, hT8, hm8⟩
        have hT8h := Lib.hid hT8
        have hb8 := Lib.hid (hm8.below hbh.out.drew (hTh.out.footlow) (hbh.out.size))
        clear hT8 hm8 hrec hlook
        go_wp2_with fail
        go_roundw
        case rel => exact ⟨k + 1, sa2, sv2, vs2, by omega, by go_num, by rw [hst2.out]; exact hT8h.out, hb8.out⟩
        case measure => simp [intOf]; omega
      · have hy0 : ((y : Int) == 0) = false := by simp; omega
        have hst2 : Hid (tAll (succAs aids outs) ids.length (ids.take (k + 1)) tStart = S) := by unfold Hid; rw [hstepx.out, if_neg (by rw [← hyh.out]; exact hz)]
        clear hstepx hz
        go_wp2_with fail
        go_region_held3 (fun w' => w'.cell? ⟨tb, 2, none⟩ = some (.map (some m1))) (go_keep) (first | (go_at_call 184; refine (id_any _ _).mono ?_; rintro e w' ⟨rfl, rfl⟩))
        go_wp2_with fail
        go_roundw
        case rel => exact ⟨k + 1, sa, sv, vs, by omega, by go_num, by rw [hst2.out]; exact hTh.out.below (drew_below _), hbh.out.drew⟩
        case measure => simp [intOf]; omega
    · have hkn : k = ids.length := by omega
      subst hkn
      rw [List.take_length] at hT
      obtain ⟨av, cv, rfl, _⟩ := owns_cells hT.ov
      have c6 := hT.blk.c6
      have hfin : Hid (SccPost w (sccsOf (succAs aids outs) ids) (.returned (.slice av (sccsOf (succAs aids outs) ids).length cv)) wr) := by
        have hbw : Below w.heap.size w wr := (hK.out wr (hb3h.out.trans (hb.mono hb3h.out.size))).1
        exact ⟨av, cv, BB, vs, rfl, hBl.out, hT.ov, hT.rows, fun j hj => (hT.rs j hj).2, hT.nd, hT.lts.2.2.2.2, hbw⟩
      clear hT hb hinv
      go_wp2_with fail
      go_ret
      exact hfin.out
end Go.Proofs.YthpjmjohdliohaaGreat
