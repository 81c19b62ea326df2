/- topo.DegeneracyOrdering, topo.KCore. -/
import Derived.Test.YtfihclhceakmdaaDeg
import Derived.Test.YtfihclhceakmdaaPeelLaw
import Derived.Test.YtfihclhceakmdaaRevN
import Derived.Test.YtfihclhceakmdaaPeel
import Derived.Laws.CopyOwn
import Derived.StillTailTactics
namespace Go.Proofs.Ytfihclhceakmdaa
open Go.RowKit Go.Lib

/-- That there is a core of degree K - 1 at least. -/
def TopOk (s : Int → List Int) (ids : List Int) (K : Nat) : Prop := K ≤ 1 ∨ ∃ S : List Int, S ≠ [] ∧ ∀ x ∈ S, x ∈ ids ∧ K - 1 ≤ degIn s S x

theorem top_le {s : Int → List Int} {ids L : List Int} {k K : Nat} {c : List Nat} (h : KInv s ids L k c) (hall : ∀ x ∈ ids, x ∈ L) (hT : TopOk s ids K) : K ≤ k + 1 := by
  rcases hT with h1 | ⟨S, hne, hS⟩
  · omega
  · have := h.top hall hne hS
    omega

theorem sum_take_succ (c : List Nat) (i : Nat) (hi : i < c.length) : (c.take (i + 1)).sum = (c.take i).sum + c[i] := by
  rw [List.take_succ_eq_append_getElem hi, List.sum_append]
  simp

theorem k_le {s : Int → List Int} {ids L : List Int} {k : Nat} {c : List Nat} (h : KInv s ids L k c) (hall : ∀ x ∈ ids, x ∈ L) (hs : ∀ x ∈ ids, ∀ y ∈ s x, y ∈ ids) (hl : ∀ x, (s x).length ≤ 1000) : k ≤ 1000 := by
  rcases h.pos with ⟨_, h2⟩ | h2
  · omega
  · have hk : k < c.length := by have := h.len; omega
    have h3 := sum_take_succ c k hk
    have h4 : c.getD k 0 = c[k] := by simp [hk]
    have h5 := sum_take_le c (k + 1)
    have h6 := h.sum
    have hlt : (c.take k).sum < L.length := by omega
    have hx := List.getElem_mem (l := L.drop (c.take k).sum) (n := 0) (by rw [List.length_drop]; omega)
    have h7 := (h.core hall hs (t := k) (by omega)).1 _ hx
    have h8 : degIn s (L.drop (c.take k).sum) ((L.drop (c.take k).sum)[0]'(by rw [List.length_drop]; omega)) ≤ (s ((L.drop (c.take k).sum)[0]'(by rw [List.length_drop]; omega))).length := List.length_filter_le _ _
    have h9 := hl ((L.drop (c.take k).sum)[0]'(by rw [List.length_drop]; omega))
    omega

/-- What DegeneracyOrdering gives. -/
def CoresPost (w : World) (s : Int → List Int) (ids : List Int) (e : Ending) (w' : World) : Prop :=
  ∃ (a : Option Addr) (na ca : Nat) (b : Option Addr) (kk cb : Nat), e = .returned (.tuple #[.slice a na ca, .slice b kk cb]) ∧ kk ≤ 1001 ∧ (∀ K, TopOk s ids K → K ≤ kk) ∧ Below w.heap.size w w'

theorem nodes_cells (zs : List Int) : ∀ u ∈ nodes zs, u.oneCell' = true := by
  intro u hu
  unfold nodes at hu
  obtain ⟨x, _, rfl⟩ := List.mem_map.1 hu
  rfl

theorem nat_ints_get (c : List Nat) (i : Nat) (hi : i < c.length) : (ints (c.map fun (n : Nat) => (n : Int)))[i]? = some (.int .i64 (c[i] : Nat)) := by
  unfold ints
  simp [hi]

set_option maxRecDepth 100000 in
set_option maxHeartbeats 4000000 in
theorem cores_any (gb : Nat) (ids : List Int) (outs ins : List (List Arc)) (w : World) (hids : ids.length ≤ 1000) (h64 : ∀ y ∈ ids, In64 y) (hp : PlainAt w gb ids outs ins) (hsym : ∀ x ∈ ids, ∀ y ∈ succOf ids outs x, x ∈ succOf ids outs y) (hnd : ∀ x ∈ ids, (succOf ids outs x).Nodup) :
    Calls Try.prog 13 #[.iface 44 (.agg #[.pointer (some ⟨gb, 0, none⟩)])] w (CoresPost w (succOf ids outs) ids) := by
  have hdeg := Lib.hid (degOrd_any gb ids outs ins w hids h64 hp hsym hnd)
  have hsl : Hid (∀ x, (succOf ids outs x).length ≤ 1000) := fun x => by have := succ_len hp x; omega
  have hsm : Hid (∀ x ∈ ids, ∀ y ∈ succOf ids outs x, y ∈ ids) := fun x _ => succ_mem hp x
  obtain ⟨s, hs⟩ : ∃ s, s = succOf ids outs := ⟨_, rfl⟩
  rw [← hs] at hdeg hsl hsm ⊢
  clear hp h64 hsym hnd hs
  go_enter Try.func13, Try.ntmps13
  go_wp2_with fail
  refine (unhide hdeg).mono ?_
  rintro e w1 ⟨L, k, c, la, sa, lc, sc, rfl, ownL, ownS, hne, hI, hall, hb1⟩
  have hk := k_le hI hall hsm.out hsl.out
  have hlen := hI.len
  have hsum := hI.sum
  have hLl : L.length ≤ 1000 := by have := nodup_len hI.nd hI.sub; omega
  have htop : Hid (∀ K, TopOk s ids K → K ≤ k + 1) := fun K hT => top_le hI hall hT
  have hbh := Lib.hid hb1
  obtain ⟨l, hl⟩ : ∃ l, l = L.length := ⟨_, rfl⟩
  rw [← hl] at ownL hsum hLl hne ⊢
  have hrev := Lib.hid (reverse_own rvNLays w.heap.size 67 l lc la (nodes L) w1 (nodes_cells L) (by omega) ownL)
  have hcap : l ≤ lc ∨ (la = none ∧ l = 0 ∧ lc = 0) := by
    obtain ⟨_, h | ⟨g, cap, _, hv, _, _, hn, _⟩⟩ := ownL
    · obtain ⟨h1, h2⟩ := h
      injection h1 with h1 h3 h4
      exact .inr ⟨h1, h2, h4⟩
    · injection hv with _ _ h3
      subst h3
      exact .inl hn
  have hlow : Hid (∀ j, (Value.slice la l lc).ownBlock = some j → w.heap.size ≤ j) := fun j hj => (ownL.lt j hj).1
  have hownS : Hid (∀ W, w1.grownBy W (Value.slice la l lc).ownBlock → W.ownsRow w.heap.size 3 1 (.slice sa (k + 1) sc) (k + 1) (ints (c.map fun (n : Nat) => (n : Int)))) := fun W hW =>
    owns_same ownS fun j hj => hW.block j (ownS.lt j hj).2 fun e => hne j e.symm hj
  have hlenh := Lib.hid hlen
  have hsumh := Lib.hid hsum
  have hstep := Lib.hid (sum_take_succ c)
  have hstl := Lib.hid (sum_take_le c)
  have hlelc : l ≤ lc := by omega
  have hmk : ∀ W : World, (Instr.makeSlice 48 (.int .i64 ((k : Int) + 1)) (.int .i64 ((k : Int) + 1))).run Try.prog W = .ok (.slice (some ⟨W.heap.size, 0, none⟩) (k + 1) (k + 1)) (W.alloc (.cells (madeCells #[.slice none 0 0] (k + 1)) 47)) := fun W => by
    have := run_make_row' (P := Try.prog) 48 47 (.slice none 0 0) 24 Try.underlying48 info_nrow rfl .i64 .i64 (k + 1) (by omega) (by omega) W
    rwa [show ((k + 1 : Nat) : Int) = (k : Int) + 1 from by omega] at this
  clear hI hall hb1 hl ownL ownS hne hlen hsum hcap hdeg hsl hsm
  go_wp2_with fail
  refine (unhide hrev).mono ?_
  rintro e w2 ⟨rfl, ownL2, hg2⟩
  have hb2 : Hid (Below w.heap.size w w2) := hbh.out.grown hg2 hbh.out.size hlow.out
  have hS2 := hownS.out w2 hg2
  obtain ⟨gs, rfl, hgs1, hgs2, _⟩ := owns_at hS2 (by omega)
  have hcc : Hid (∀ i (hi : i < c.length), w2.cell? ⟨gs, i, none⟩ = some (.int .i64 (c[i] : Nat))) := fun i hi => owns_cell hS2 (nat_ints_get c i hi)
  have hmr := Lib.hid (made_row w2 (.slice none 0 0) 47 (k + 1) (by omega))
  obtain ⟨w3, hw3⟩ : ∃ w3, w3 = w2.alloc (.cells (madeCells #[.slice none 0 0] (k + 1)) 47) := ⟨_, rfl⟩
  have hb3 : Hid (Below w2.heap.size w2 w3) := by unfold Hid; rw [hw3]; exact alloc_below _ _
  rw [← hw3] at hmr
  have hw3h := Lib.hid hw3
  obtain ⟨db, hdb⟩ : ∃ db, db = w2.heap.size := ⟨_, rfl⟩
  have hdbh := Lib.hid hdb
  rw [← hdb] at hmr
  clear hw3 ownL2 hg2 hS2 hdb hrev hlow hownS hbh
  go_wp2_with fail
  rw [← hw3h.out, ← hdbh.out]
  clear hmk hw3h
  go_loopw [5, 6, 7, 22] (fun ov _ _ iv wr => ∃ (i o : Nat) (vs : List Value), i ≤ k + 1 ∧ iv = .int .i64 i ∧ ov = .int .i64 o ∧ o + (c.take i).sum = l ∧ wr.ownsRow db 47 1 (.slice (some ⟨db, 0, none⟩) (k + 1) (k + 1)) (k + 1) vs ∧ Below w2.heap.size w2 wr) (fun _ _ _ iv _ => k + 1 - (intOf iv).toNat)
  case atStart => exact ⟨0, l, _, Nat.zero_le _, rfl, rfl, by simp, hmr.out, hb3.out⟩
  case round =>
    clear hmr hb3
    obtain ⟨i, o, vs, hi, rfl, rfl, ho, hown, hb⟩ := hrel
    have hb5 := Lib.hid hb
    have ownh := Lib.hid hown
    by_cases hlt : i < k + 1
    · have hic : i < c.length := by have := hlenh.out; omega
      have hst := hstep.out i hic
      have hle := hstl.out (i + 1)
      have x1 := cell_below hb (hcc.out i hic)
      obtain ⟨m, hm⟩ : ∃ m, m = c[i] := ⟨_, rfl⟩
      rw [← hm] at hst x1
      have hmo : m ≤ o := by have := hsumh.out; omega
      have ho1 : o ≤ 1000 := by omega
      obtain ⟨a', n', c', hsl⟩ : ∃ a' n' c', ∀ W, (Instr.slice 47 (.slice la l lc) (some (.int .i64 ((o : Int) - (m : Int)))) (some (.int .i64 (o : Int))) none).run Try.prog W = .ok (.slice a' n' c') W :=
        ⟨_, _, _, fun W => (run_slice_lh (P := Try.prog) (w := W) 47 la l lc (by kernel_rfl) .i64 .i64 _ _ (by omega) (by omega) (by omega)).trans (by rw [show Try.prog.elem 47 = 67 from by kernel_rfl, Try.sizeOf67]; rfl)⟩
      have x2 : ∃ u, wr.cell? ⟨db, i, none⟩ = some u := by
        have hvl : vs.length = k + 1 := by have := hown.1; omega
        exact ⟨_, owns_cell hown (List.getElem?_eq_getElem (by omega))⟩
      obtain ⟨u, x2⟩ := x2
      have x3 := owns_free hown i
      have hset := Lib.hid (owns_set hown (j := i) (.slice a' n' c'))
      have hset2 : Hid (Below w2.heap.size w2 (wr.setCell ⟨db, i, none⟩ (.slice a' n' c'))) := hb5.out.setCell (by rw [hdbh.out]; exact Nat.le_refl _) _
      have hnx : Hid (o - m + (c.take (i + 1)).sum = l) := by unfold Hid; omega
      have hcast : Hid (((o : Int) - (m : Int)) = ((o - m : Nat) : Int)) := by unfold Hid; omega
      clear hst hle hm hown hb hic ho
      go_wp2_with fail
      go_roundw
      case rel => exact ⟨i + 1, o - m, _, by omega, by go_num, by rw [← hcast.out], hnx.out, hset.out, hset2.out⟩
      case measure => simp [intOf]; omega
    · have hik : i = k + 1 := by omega
      have hfin : Hid (CoresPost w s ids (.returned (.tuple #[.slice la l lc, .slice (some ⟨db, 0, none⟩) (k + 1) (k + 1)])) wr) :=
        ⟨la, l, lc, some ⟨db, 0, none⟩, k + 1, k + 1, rfl, by omega, htop.out, hb2.out.trans (hb5.out.mono hb2.out.size)⟩
      clear hown hb ho
      go_wp2_with fail
      go_ret2
      exact hfin.out

/-- copy of a row of nodes into one that was just made for it. -/
theorem copy_fresh (w : World) (sp : Option Addr) (m c' : Nat) (cs : List Value) (hm : m ≤ 1000) (hl : cs.length = m) (h1 : ∀ v ∈ cs, v.oneCell' = true)
    (hp : 0 < m → ∃ ad, sp = some ad ∧ ∀ j v, cs[j]? = some v → (w.alloc (.cells (madeCells #[.nilIface] m) 67)).cell? (ad.add j) = some v) :
    ∃ w9, (Builtin.copy_ #[47, 47] 3 #[.slice (some ⟨w.heap.size, 0, none⟩) m m, .slice sp m c']).run Try.prog (w.alloc (.cells (madeCells #[.nilIface] m) 67)) = .ok (.int .i64 (m : Nat)) w9 ∧
      w9.heap[w.heap.size]? = some (.cells cs.toArray 67 (0, 0)) ∧ Below w.heap.size w w9 := by
  have hz9 : (Try.prog.info? 67).map (·.size) = some 1 := by kernel_rfl
  have hg9 : (w.alloc (.cells (madeCells #[.nilIface] m) 67)).heap[w.heap.size]? = some (.cells (List.replicate m (.nilIface : Value)).toArray 67 (0, 0)) := by rw [← made_repl]; exact heap_alloc_new _ _
  by_cases h0 : m = 0
  · subst h0
    have hc : cs = [] := List.eq_nil_of_length_eq_zero hl
    subst hc
    exact ⟨_, run_copy_none (P := Try.prog) _ 47 47 3 67 (some ⟨w.heap.size, 0, none⟩) sp 0 0 0 c' Try.underlying47 hz9 rfl, hg9, alloc_below _ _⟩
  · obtain ⟨ad, rfl, hsrc⟩ := hp (by omega)
    have hrun := run_copy_row (P := Try.prog) (w.alloc (.cells (madeCells #[.nilIface] m) 67)) 47 47 3 67 w.heap.size 0 m m ad m c' (List.replicate m (.nilIface : Value)).toArray 67 cs Try.underlying47 hz9 hg9 (by rw [hl]; exact (Nat.min_self _).symm) hsrc (by rw [hl]; simp) h1
    refine ⟨_, hrun.trans (by rw [hl]; rfl), ?_, below_setRow (alloc_below _ _) (Nat.le_refl _) _⟩
    have hcs : (List.take 0 (List.replicate m (.nilIface : Value)).toArray.toList ++ cs ++ List.drop (0 + m) (List.replicate m (.nilIface : Value)).toArray.toList).toArray = cs.toArray := by simp
    rw [hcs]
    unfold World.setRow
    simp only [Array.getElem?_modify, if_true]
    rw [hg9]; rfl

/-- What KCore gives. -/
def KCorePost (w : World) (s : Int → List Int) (ids : List Int) (K : Nat) (e : Ending) (w' : World) : Prop :=
  ∃ (S : List Int) (a : Option Addr) (c : Nat), e = .returned (.slice a S.length c) ∧ Cells w' a (nodes S) ∧ Below w.heap.size w w' ∧ S.Nodup ∧ S.length ≤ 1000 ∧ (∀ x ∈ S, x ∈ ids ∧ K ≤ degIn s S x) ∧
    (∀ T : List Int, (∀ x ∈ T, x ∈ ids ∧ K ≤ degIn s T x) → ∀ x ∈ T, x ∈ S)

set_option maxRecDepth 100000 in
set_option maxHeartbeats 4000000 in
theorem kcore_any (K gb : Nat) (ids : List Int) (outs ins : List (List Arc)) (w : World) (hids : ids.length ≤ 1000) (h64 : ∀ y ∈ ids, In64 y) (hp : PlainAt w gb ids outs ins) (hsym : ∀ x ∈ ids, ∀ y ∈ succOf ids outs x, x ∈ succOf ids outs y) (hnd : ∀ x ∈ ids, (succOf ids outs x).Nodup) (hT : TopOk (succOf ids outs) ids K) :
    Calls Try.prog 15 #[.int .i64 (K : Nat), .iface 44 (.agg #[.pointer (some ⟨gb, 0, none⟩)])] w (KCorePost w (succOf ids outs) ids K) := by
  have hdeg := Lib.hid (degOrd_any gb ids outs ins w hids h64 hp hsym hnd)
  have hsl : Hid (∀ x, (succOf ids outs x).length ≤ 1000) := fun x => by have := succ_len hp x; omega
  have hsm : Hid (∀ x ∈ ids, ∀ y ∈ succOf ids outs x, y ∈ ids) := fun x _ => succ_mem hp x
  obtain ⟨s, hs⟩ : ∃ s, s = succOf ids outs := ⟨_, rfl⟩
  rw [← hs] at hdeg hsl hsm hT ⊢
  have hTh := Lib.hid hT
  clear hp h64 hsym hnd hs hT
  go_enter Try.func15, Try.ntmps15
  go_wp2_with fail
  refine (unhide hdeg).mono ?_
  rintro e w1 ⟨L, k, c, la, sa, lc, sc, rfl, ownL, ownS, hne, hI, hall, hb1⟩
  have hk := k_le hI hall hsm.out hsl.out
  have hlen := hI.len
  have hsum := hI.sum
  have hLl : L.length ≤ 1000 := by have := nodup_len hI.nd hI.sub; omega
  have hK1 : K ≤ k + 1 := top_le hI hall hTh.out
  have hcore := Lib.hid (hI.core hall hsm.out hK1)
  have hLn : Hid L.Nodup := hI.nd
  have hLs : Hid (∀ x ∈ L, x ∈ ids) := hI.sub
  have hbh := Lib.hid hb1
  have hstl := sum_take_le c K
  have hstep := Lib.hid (sum_take_succ c)
  have hmono := Lib.hid (sum_take_le c)
  have hsumh : Hid (c.sum = L.length) := hsum
  obtain ⟨q, hq⟩ : ∃ q, q = (c.take K).sum := ⟨_, rfl⟩
  rw [← hq] at hcore hstl
  obtain ⟨l, hl⟩ : ∃ l, l = L.length := ⟨_, rfl⟩
  rw [← hl] at ownL hsum hLl hne hsumh ⊢
  have hql : q ≤ l := by omega
  have hcells : Hid (0 < l - q → ∃ gl, la = some ⟨gl, 0, none⟩ ∧ l ≤ lc ∧ ∀ W, Below w1.heap.size w1 W → ∀ j v, (nodes (L.drop q))[j]? = some v → W.cell? ((⟨gl, q, none⟩ : Addr).add j) = some v) := fun hpos => by
    obtain ⟨gl, rfl, _, _, hcp⟩ := owns_at ownL (by omega)
    refine ⟨gl, rfl, hcp, fun W hW j v hj => ?_⟩
    have hj2 : (nodes L)[q + j]? = some v := by
      unfold nodes at hj ⊢
      rw [List.map_drop, List.getElem?_drop] at hj
      exact hj
    rw [Addr.add_mid]
    exact cell_below hW (owns_cell ownL hj2)
  have hcap : l ≤ lc ∨ (l = 0 ∧ lc = 0) := by
    obtain ⟨_, h | ⟨g, cap, _, hv, _, _, hn, _⟩⟩ := ownL
    · obtain ⟨h1, h2⟩ := h
      injection h1 with h1 h3 h4
      exact .inr ⟨h2, h4⟩
    · injection hv with _ _ h3
      subst h3
      exact .inl hn
  have hlelc : l ≤ lc := by omega
  obtain ⟨gs, rfl, hgs1, hgs2, hsc⟩ := owns_at ownS (by omega)
  have hcc : Hid (∀ i (hi : i < c.length), w1.cell? ⟨gs, i, none⟩ = some (.int .i64 (c[i] : Nat))) := fun i hi => owns_cell ownS (nat_ints_get c i hi)
  have hlenh := Lib.hid hlen
  have hqh := Lib.hid hq
  have hlh := Lib.hid hl
  have hdl : Hid ((nodes (L.drop q)).length = l - q) := by unfold Hid; rw [nodes_length, List.length_drop, hl]
  obtain ⟨cs, hcs⟩ : ∃ cs, cs = nodes (L.drop q) := ⟨_, rfl⟩
  have hone : Hid (∀ v ∈ cs, v.oneCell' = true) := by rw [hcs]; exact nodes_cells _
  rw [← hcs] at hcells hdl
  have hcsh := Lib.hid hcs
  have hmk : ∀ W : World, (Instr.makeSlice 47 (.int .i64 ((l : Int) - (q : Int))) (.int .i64 ((l : Int) - (q : Int)))).run Try.prog W = .ok (.slice (some ⟨W.heap.size, 0, none⟩) (l - q) (l - q)) (W.alloc (.cells (madeCells #[.nilIface] (l - q)) 67)) := fun W => by
    have := run_make_row' (P := Try.prog) 47 67 .nilIface 16 Try.underlying47 info_node rfl .i64 .i64 (l - q) (by omega) (by omega) W
    rwa [show ((l - q : Nat) : Int) = (l : Int) - (q : Int) from by omega] at this
  obtain ⟨sp, n', c', hn', hsp, hsl⟩ : ∃ sp n' c', n' = l - q ∧ (lc ≠ q → sp = la.map (·.add (q * 1))) ∧ ∀ W, (Instr.slice 47 (.slice la l lc) (some (.int .i64 (q : Nat))) none none).run Try.prog W = .ok (.slice sp n' c') W :=
    ⟨_, _, _, rfl, fun h => if_neg h, fun W => (run_slice_l (P := Try.prog) (w := W) 47 la l lc (by kernel_rfl) .i64 _ (by omega) (by omega)).trans (by rw [show Try.prog.elem 47 = 67 from by kernel_rfl, Try.sizeOf67]; rfl)⟩
  have hsph := Lib.hid hsp
  have hn'h := Lib.hid hn'
  have hslh := Lib.hid hsl
  have hmkh := Lib.hid hmk
  clear hI hall hb1 hl ownL ownS hne hlen hsum hcap hdeg hsl hsm hq hstl hcs hsp hn' hmk hTh
  go_wp2_with fail
  go_loopw [7, 9, 20] (fun ov _ iv wr => ∃ i : Nat, i ≤ K ∧ iv = .int .i64 i ∧ ov = .int .i64 ((c.take i).sum : Nat) ∧ wr = w1) (fun _ _ iv _ => K - (intOf iv).toNat)
  case atStart => exact ⟨0, Nat.zero_le _, rfl, by simp, rfl⟩
  case round =>
    obtain ⟨i, hi, rfl, rfl, rfl⟩ := hrel
    by_cases hlt : i < K
    · have hic : i < c.length := by have := hlenh.out; omega
      have x1 := hcc.out i hic
      have hst := hstep.out i hic
      obtain ⟨m, hm⟩ : ∃ m, m = c[i] := ⟨_, rfl⟩
      rw [← hm] at hst x1
      obtain ⟨t, ht⟩ : ∃ t, t = (c.take i).sum := ⟨_, rfl⟩
      rw [← ht] at hst ⊢
      have hsb : t + m ≤ 1000 := by
        have h1 := hmono.out (i + 1)
        have h2 := hsumh.out
        omega
      have hst2 := Lib.hid hst
      clear hst hm ht hic
      go_wp2_with fail
      go_roundw
      case rel => exact ⟨i + 1, by omega, by go_num, by rw [hst2.out]; go_num, trivial⟩
      case measure => simp [intOf]; omega
    · have hiK : i = K := by omega
      subst hiK
      rw [← hqh.out]
      have hmk := hmkh.out
      have hsl := hslh.out
      have hmr := Lib.hid (heap_alloc_new wr (.cells (madeCells #[.nilIface] (l - q)) 67))
      obtain ⟨w9, hcp, hh9, hb9⟩ := copy_fresh wr sp (l - q) c' cs (by omega) hdl.out hone.out fun hp => by
        obtain ⟨gl, e1, e2, h3⟩ := hcells.out hp
        refine ⟨⟨gl, q, none⟩, ?_, fun j v hj => h3 _ (alloc_below _ _) j v hj⟩
        rw [hsph.out (by omega), e1, Nat.mul_one]
        show some (Addr.add ⟨gl, 0, none⟩ q) = _
        rw [Addr.add_mid, Nat.zero_add]
      rw [hn'h.out] at hsl
      have hfin : Hid (KCorePost w s ids i (.returned (.slice (some ⟨wr.heap.size, 0, none⟩) (l - q) (l - q))) w9) := by
        have hlq : (L.drop q).length = l - q := by rw [List.length_drop, hlh.out]
        refine ⟨L.drop q, some ⟨wr.heap.size, 0, none⟩, l - q, by rw [hlq], ?_, hbh.out.trans (hb9.mono hbh.out.size), hLn.out.sublist (List.drop_sublist _ _), by omega, fun x hx => ⟨hLs.out x (List.mem_of_mem_drop hx), hcore.out.1 x hx⟩, hcore.out.2⟩
        rw [← hcsh.out]
        refine .mk (lt_of_block hh9) fun j v hj => ?_
        simp [World.cell?, hh9, hj]
      clear hh9 hb9
      go_wp2_with fail
      go_ret
      exact hfin.out
end Go.Proofs.Ytfihclhceakmdaa
