/- impl.SortBy: the walk. -/
import Derived.Test.YtagnmdhdogaijaaGreatSortBy1
import Derived.Deep.DeepCutAuto
import Derived.Deep.RegionHeld3
import Derived.Deep.RegionLaw
import Derived.Handy
namespace Go.Proofs.YtagnmdhdogaijaaGreat
open Go.RowKit

/-- What impl.SortBy does not refuse. -/
def goodBy (g : Gr) (pl : List Int) : Bool := okGraph g && g.dir && (decide pl.Nodup && decide (pl.length = g.nodes.length) && pl.all fun z => decide (z ∈ g.nodes))

def outsT (g : Gr) : List (List Arc) := (tabs bitsOf (asc g.nodes) g.dir g.edges).1
def gBy (g : Gr) (pl : List Int) : List (List Int) := byComps pl (asc g.nodes) (outsT g)

/-- What impl.SortBy gives. -/
def SortByPost (g : Gr) (pl : List Int) (w : World) (e : Ending) (w' : World) : Prop :=
  Below w.heap.size w w' ∧ (goodBy g pl = false → e = .returned (.tuple #[.slice none 0 0, .slice none 0 0, .bool false, .bool true])) ∧
  (goodBy g pl = true → ∃ (a1 : Option Addr) (c1 : Nat) (a2 : Option Addr) (c2 B : Nat) (vs : List Value), e = .returned (.tuple #[.slice a1 (gBy g pl).length c1, .slice a2 (cycBy pl (gBy g pl) (gBy g pl).length).length c2, .bool (decide (cycBy pl (gBy g pl) (gBy g pl).length = [])), .bool false]) ∧
    w'.ownsRow B 48 2 (.slice a1 (gBy g pl).length c1) (gBy g pl).length (slotCells ((gBy g pl).map topO).reverse) ∧ IRows w' B vs (cycBy pl (gBy g pl) (gBy g pl).length).reverse ∧ w.heap.size ≤ B ∧
    w'.ownsRow B 22 1 (.slice a2 (cycBy pl (gBy g pl) (gBy g pl).length).length c2) (cycBy pl (gBy g pl) (gBy g pl).length).length vs)

theorem beq_nat (a b : Nat) : ((a : Int) == (b : Int)) = decide (a = b) := by
  rw [Bool.eq_iff_iff, beq_iff_eq, decide_eq_true_iff]
  omega

theorem cover {pl ns : List Int} (hnd : pl.Nodup) (hl : pl.length = ns.length) (hs : ∀ z ∈ pl, z ∈ ns) : ∀ z ∈ ns, z ∈ pl := fun z hz => by
  by_cases h : z ∈ pl
  · exact h
  · have h1 : (z :: pl).Nodup := List.nodup_cons.2 ⟨h, hnd⟩
    have h2 := nodup_len h1 (m := ns) (fun x hx => by
      rcases List.mem_cons.1 hx with rfl | hx
      · exact hz
      · exact hs x hx)
    rw [List.length_cons] at h2
    omega

theorem cycBy_le (pl : List Int) (M : List (List Int)) : ∀ k, (cycBy pl M k).length ≤ k
  | 0 => Nat.le_refl _
  | k + 1 => by
    have := cycBy_le pl M k
    unfold cycBy
    split
    · omega
    · rw [List.length_append, List.length_singleton]; omega
theorem cycBy_mem {pl : List Int} {M : List (List Int)} {c : List Int} : ∀ {k : Nat}, c ∈ cycBy pl M k → ∃ d, (d = [] ∨ d ∈ M) ∧ c = srtBy pl d
  | 0, h => by cases h
  | k + 1, h => by
    unfold cycBy at h
    split at h
    · exact cycBy_mem h
    · rcases List.mem_append.1 h with h | h
      · exact cycBy_mem h
      · refine ⟨M.getD k [], ?_, List.mem_singleton.1 h⟩
        by_cases hk : k < M.length
        · right; simp [hk]
        · left; simp [Nat.le_of_not_lt hk]

theorem byComps_ok {w : World} {pb : Nat} {pl aids : List Int} {outs ins : List (List Arc)} (hp : PlainAt w pb aids outs ins) : SccOk (srtBy pl aids).reverse (succBy pl aids outs) (byComps pl aids outs) := by
  refine sccs_ok fun x hx y hy => ?_
  rw [List.mem_reverse, srtBy_mem] at hx ⊢
  unfold succBy at hy
  rw [List.mem_reverse, srtBy_mem] at hy
  exact succ_mem hp x y hy

set_option maxRecDepth 100000 in
set_option maxHeartbeats 60000000 in
theorem sortByI_any (g : Gr) (an : Option Addr) (cn : Nat) (ae : Option Addr) (ce : Nat) (ap : Option Addr) (cp : Nat) (pl : List Int) (w : World) (hn : g.nodes.length ≤ 1000) (he : g.edges.length ≤ 1048576) (hg : GrAt w g an cn ae) (h64 : ∀ x ∈ g.nodes, In64 x)
    (hpl : pl.length ≤ 1000) (hcp : Cells w ap (ints pl)) (h0 : ap = none → cp = 0) :
    Calls Tryz.prog 15 #[.agg #[.bool g.dir, .slice an g.nodes.length cn, .slice ae g.edges.length ce], .slice ap pl.length cp] w (SortByPost g pl w) := by
  obtain ⟨w1, hw1⟩ : ∃ w1, w1 = (w.alloc (.cells #[.bool g.dir, .slice an g.nodes.length cn, .slice ae g.edges.length ce] 25)).alloc (.cells #[.slice ap pl.length cp] 22) := ⟨_, rfl⟩
  have hb1 : Below w.heap.size w w1 := by rw [hw1]; exact (alloc_below w _).trans ((alloc_below _ _).mono (by simp))
  have hz1 : w1.heap.size = w.heap.size + 2 := by rw [hw1]; simp
  have hq1 : w1.cell? ⟨w.heap.size + 1, 0, none⟩ = some (.slice ap pl.length cp) := by rw [hw1]; simp
  have hcp1 := hcp.below hb1
  have how := oneWay_any g an cn ae ce w1 (by omega) he (hg.below hb1)
  rw [hw1] at how
  have howh := Lib.hid how
  have hw1h := Lib.hid hw1
  have hb1h := Lib.hid hb1
  have hQ : Hid (∀ W, Below w1.heap.size w1 W → W.cell? ⟨w.heap.size + 1, 0, none⟩ = some (.slice ap pl.length cp) ∧ Cells W ap (ints pl) ∧ Below w.heap.size w W) := fun W hW =>
    ⟨cell_below hW hq1, hcp1.below hW, hb1.trans (hW.mono (by omega))⟩
  have h64h := Lib.hid h64
  have hgB : Hid (goodBy g pl = (okGraph g && g.dir && (decide pl.Nodup && decide (pl.length = g.nodes.length) && pl.all fun z => decide (z ∈ g.nodes)))) := rfl
  clear how hw1 hb1 hq1 hcp1 hcp hg h64
  go_enter Tryz.func15, Tryz.ntmps15
  go_wp2_with fail
  refine (unhide howh).mono ?_
  rintro e w2 ⟨pb, rfl, hb2, hp⟩
  rw [← hw1h.out] at hb2
  obtain ⟨q2, hcq2, hbw2⟩ := hQ.out w2 hb2
  have hb2h := Lib.hid hb2
  have hph := Lib.hid hp
  obtain ⟨is, his⟩ : ∃ is, is = (okGraph g && g.dir) := ⟨_, rfl⟩
  rw [← his] at hgB ⊢
  have hish := Lib.hid his
  clear his hcq2 hb2 hp howh
  cases is
  · have hbad : Hid (goodBy g pl = false) := hgB.out
    have hfin : Hid (∀ W, Below w2.heap.size w2 W → SortByPost g pl w (.returned (.tuple #[.slice none 0 0, .slice none 0 0, .bool false, .bool true])) W) := fun W hW =>
      ⟨hbw2.trans (hW.mono hbw2.size), fun _ => rfl, fun h => by rw [hbad.out] at h; cases h⟩
    clear hbw2 hgB
    go_wp2_with fail
    go_quiet (fail)
    go_wp2_with fail
    go_returns
    exact hfin.out _ (below_draws (alloc_below w2 _) _)
  · have hokd : okGraph g = true ∧ g.dir = true := by have := hish.out.symm; rwa [Bool.and_eq_true] at this
    have hp2 := hph.out hokd.1
    obtain ⟨ai, ci, i0, ic⟩ := hp2.row
    obtain ⟨n, hnn⟩ : ∃ n, n = (asc g.nodes).length := ⟨_, rfl⟩
    have hng : Hid (n = g.nodes.length) := by unfold Hid; rw [hnn, asc_length]
    have hn1000 : n ≤ 1000 := by have := hng.out; omega
    rw [← hnn] at i0
    obtain ⟨w3, hw3⟩ : ∃ w3, w3 = w2.alloc (.cells #[.pointer (some ⟨pb, 0, none⟩)] 53) := ⟨_, rfl⟩
    have hb3 : Below w2.heap.size w2 w3 := by rw [hw3]; exact alloc_below _ _
    have i3 := cell_below hb3 i0
    have j3 : w3.cell? ⟨w2.heap.size, 0, none⟩ = some (.pointer (some ⟨pb, 0, none⟩)) := by rw [hw3]; simp
    have hb13 : Below w1.heap.size w1 w3 := hb2h.out.trans (hb3.mono hb2h.out.size)
    obtain ⟨q3, hcq3, hbw3⟩ := hQ.out w3 hb13
    have hR : Hid (∀ W, Below w3.heap.size w3 W → W.cell? ⟨w.heap.size + 1, 0, none⟩ = some (.slice ap pl.length cp) ∧ W.cell? ⟨w2.heap.size, 0, none⟩ = some (.pointer (some ⟨pb, 0, none⟩)) ∧ W.cell? ⟨pb, 0, none⟩ = some (.slice ai n ci)) := fun W hW =>
      ⟨cell_below hW q3, cell_below hW j3, cell_below hW i3⟩
    have hX : Hid (∀ W, Below w3.heap.size w3 W → PlainAt W pb (asc g.nodes) (tabs bitsOf (asc g.nodes) g.dir g.edges).1 (tabs bitsOf (asc g.nodes) g.dir g.edges).2 ∧ PlAt W (w.heap.size + 1) pl ∧ Cells W ap (ints pl) ∧ Below w.heap.size w W) := fun W hW =>
      ⟨(hp2.below hb3).below hW, ⟨ap, cp, cell_below hW q3, hcq3.below hW⟩, hcq3.below hW, hbw3.trans (hW.mono hbw3.size)⟩
    have hI : Hid (∀ W, Below w3.heap.size w3 W → ∀ x, Calls Tryz.prog 35 #[.pointer (some ⟨pb, 0, none⟩), .int .i64 x] W fun e w' => e = .returned (.tuple #[.int .i64 (posOf (asc g.nodes) x : Nat), .bool (decide (x ∈ asc g.nodes))]) ∧ W = w') := fun W hW x =>
      pindex_any pb ai n ci (asc g.nodes) x W (cell_below hW i3) hnn (by omega) ((ic.below hb3).below hW) hp2.up
    obtain ⟨tw, htw⟩ : ∃ tw, tw = !decide pl.Nodup := ⟨_, rfl⟩
    have hTw : Hid (∀ W, Below w3.heap.size w3 W → Calls Tryz.prog 34 #[.slice ap pl.length cp] W fun e w' => e = .returned (.bool tw) ∧ Below w3.heap.size w3 w' ∧ w'.cell? ⟨w.heap.size + 1, 0, none⟩ = some (.slice ap pl.length cp) ∧ w'.cell? ⟨w2.heap.size, 0, none⟩ = some (.pointer (some ⟨pb, 0, none⟩)) ∧ w'.cell? ⟨pb, 0, none⟩ = some (.slice ai n ci)) := fun W hW =>
      (twice_any ap _ cp pl W rfl (by omega) (hX.out W hW).2.2.1 h0).mono fun e w' ⟨h1, h2⟩ => by
        have h3 := hW.trans (h2.mono hW.size)
        exact ⟨by rw [htw]; exact h1, h3, hR.out w' h3⟩
    have hbadf : Hid (goodBy g pl = false → ∀ W, Below w3.heap.size w3 W → SortByPost g pl w (.returned (.tuple #[.slice none 0 0, .slice none 0 0, .bool false, .bool true])) W) := fun hbad W hW =>
      ⟨hbw3.trans (hW.mono hbw3.size), fun _ => rfl, fun h => by rw [hbad] at h; cases h⟩
    have htwh := Lib.hid htw
    have hokdh := Lib.hid hokd
    have hnnh := Lib.hid hnn
    rw [Bool.true_and] at hgB
    have hw3h := Lib.hid hw3
    clear hokd hp2 i0 ic hb3 hb13 hcq3 hbw2 hbw3 q2 hw3 hnn htw hQ
    go_wp2_with fail
    rw [← hw3h.out]
    go_cut [37] from 16 (fun s37 wx => s37 = .bool (tw || !decide (pl.length = n)) ∧ Below w3.heap.size w3 wx)
    case first =>
      cases tw
      · go_region_held3 (fun w' => w'.cell? ⟨w.heap.size + 1, 0, none⟩ = some (.slice ap pl.length cp) ∧ w'.cell? ⟨w2.heap.size, 0, none⟩ = some (.pointer (some ⟨pb, 0, none⟩)) ∧ w'.cell? ⟨pb, 0, none⟩ = some (.slice ai n ci)) (go_keep) (first
          | (go_at_call 34; ((with_reducible refine (hTw.out _ (by repeat (first | exact Below.refl _ _ | refine Below.drew ?_))).mono ?_)); rintro e w5 ⟨rfl, hb5, s1, s2, s3⟩))
        all_goals go_wp2_with fail
        all_goals go_meet
        all_goals exact ⟨by simp [bne, beq_nat], hb5⟩
      · first
          | (go_region_law (go_simp; go_at_call 34; ((with_reducible refine (hTw.out _ (by repeat (first | exact Below.refl _ _ | refine Below.drew ?_))).mono ?_)); rintro e w5 ⟨rfl, hb5, s1, s2, s3⟩))
          | fail
        all_goals go_wp2_with fail
        all_goals go_meet
        all_goals exact ⟨rfl, hb5⟩
    case rest =>
    obtain ⟨rfl, hbc⟩ := hcut
    have hbch := Lib.hid hbc
    clear hbc
    rcases hS : (tw || !decide (pl.length = n)) with _ | _
    · rw [Bool.or_eq_false_iff] at hS
      have hnd : pl.Nodup := by
        have := htwh.out.symm.trans hS.1
        simpa using this
      have hlen : pl.length = n := by simpa using hS.2
      have hndh := Lib.hid hnd
      have hlenh : Hid (pl.length = g.nodes.length) := hlen.trans hng.out
      clear hS hnd hlen
      obtain ⟨q4, j4, i4⟩ := hR.out wc hbch.out
      go_wp2_with fail
      clear q4 j4 i4 i3 j3 q3
      go_loopw [11, 12, 13, 40] (fun _ _ _ iv wr => ∃ (k : Nat), k ≤ pl.length ∧ iv = .int .i64 k ∧ Below w3.heap.size w3 wr ∧ ∀ j (hj : j < pl.length), j < k → pl[j] ∈ g.nodes) (fun _ _ _ iv _ => pl.length - (intOf iv).toNat)
      case atStart => exact ⟨0, Nat.zero_le _, rfl, hbch.out, fun j _ h => absurd h (Nat.not_lt_zero j)⟩
      case round =>
        obtain ⟨k, hk, rfl, hb, hall⟩ := hrel
        obtain ⟨q4, j4, i4⟩ := hR.out wr hb
        obtain ⟨hpW, hplW, hcW, hbW⟩ := hX.out wr hb
        by_cases hlt : k < pl.length
        · obtain ⟨b, off, rfl, _, hr⟩ := hcW.at (by rw [ints_length]; omega)
          have x0 := hr _ _ (ints_get pl k hlt)
          obtain ⟨x, hx⟩ : ∃ x, x = pl[k] := ⟨_, rfl⟩
          rw [← hx] at x0
          have hi := Lib.hid (hI.out wr hb x)
          obtain ⟨t, ht⟩ : ∃ t, t = decide (x ∈ asc g.nodes) := ⟨_, rfl⟩
          rw [← ht] at hi
          obtain ⟨ps, hps⟩ : ∃ ps, ps = posOf (asc g.nodes) x := ⟨_, rfl⟩
          rw [← hps] at hi
          have htx : Hid (t = true → ∀ j (hj : j < pl.length), j < k + 1 → pl[j] ∈ g.nodes) := fun h j hj hjk => by
            by_cases hjk2 : j = k
            · subst hjk2
              rw [ht] at h
              have := of_decide_eq_true h
              rw [hx] at this
              exact asc_mem.1 this
            · exact hall j hj (by omega)
          have hbad : Hid (t = false → goodBy g pl = false) := fun h => by
            rw [ht] at h
            have h1 := of_decide_eq_false h
            have h2 : (pl.all fun z => decide (z ∈ g.nodes)) = false := List.all_eq_false.2 ⟨x, by rw [hx]; exact List.getElem_mem hlt, by
              simp only [decide_eq_true_eq]
              exact fun h3 => h1 (asc_mem.2 h3)⟩
            rw [hgB.out, h2, Bool.and_false]
          have hbh := Lib.hid hb
          clear hr hx ht hps hpW hplW hcW hbW hall hb
          cases t
          · have hf := hbadf.out (hbad.out rfl)
            have hfh := Lib.hid hf
            clear hf
            go_wp2_with fail
            refine (unhide hi).mono ?_
            rintro e w5 ⟨rfl, rfl⟩
            clear hi
            go_wp2_with fail
            go_returns
            exact hfh.out _ hbh.out
          · go_wp2_with fail
            refine (unhide hi).mono ?_
            rintro e w5 ⟨rfl, rfl⟩
            clear hi
            go_wp2_with fail
            go_roundw
            case rel => exact ⟨k + 1, by omega, by go_num, hbh.out, htx.out (by trivial)⟩
            case measure => simp [intOf]; omega
        · have hallz : ∀ z ∈ pl, z ∈ g.nodes := fun z hz => by
            obtain ⟨j, hj, rfl⟩ := List.mem_iff_getElem.1 hz
            exact hall j hj (by omega)
          have hgood : goodBy g pl = true := by
            rw [hgB.out, decide_eq_true hndh.out, decide_eq_true hlenh.out, Bool.true_and, Bool.true_and, List.all_eq_true]
            exact fun z hz => decide_eq_true (hallz z hz)
          have hcov : ∀ z ∈ asc g.nodes, z ∈ pl := fun z hz => cover hndh.out hlenh.out hallz z (asc_mem.1 hz)
          have hsok := byComps_ok (pl := pl) hpW
          have hfl : (gBy g pl).flatten.length ≤ 1000 := by
            have h2 := nodup_len hsok.nd (fun x hx => (hsok.mem x).1 hx)
            rw [List.length_reverse, srtBy_length, asc_length] at h2
            exact Nat.le_trans h2 hn
          have hM : (gBy g pl).length ≤ 1000 := Nat.le_trans (flatten_len hsok.ne) hfl
          have hMl : ∀ c ∈ gBy g pl, c.length ≤ 1000 := fun c hc => by have := mem_len hc; omega
          have hMm : ∀ c ∈ gBy g pl, ∀ z ∈ c, z ∈ asc g.nodes := fun c hc z hz => by
            have := (hsok.mem z).1 (List.mem_flatten.2 ⟨c, hc, hz⟩)
            rwa [List.mem_reverse, srtBy_mem] at this
          have hts := Lib.hid (tsort2_any pb (w.heap.size + 1) pl (asc g.nodes) _ _ wr (by rw [asc_length]; exact hn) (fun x hx => h64h.out x (asc_mem.1 hx)) hpW (by omega) hcov hplW hM hMl hMm)
          obtain ⟨M, hMe⟩ : ∃ M, M = gBy g pl := ⟨_, rfl⟩
          have hMe2 : byComps pl (asc g.nodes) (tabs bitsOf (asc g.nodes) g.dir g.edges).1 = M := by rw [hMe]; rfl
          rw [hMe2] at hts
          have hcl2 : Hid (∀ k (hk : k < (cycBy pl M M.length).reverse.length), (cycBy pl M M.length).reverse[k].length ≤ 1000) := fun k hk => by
            have hm := List.mem_reverse.1 (List.getElem_mem hk)
            obtain ⟨d, hd', e⟩ := cycBy_mem hm
            rw [e, srtBy_length]
            rcases hd' with rfl | hd'
            · exact Nat.zero_le _
            · rw [hMe] at hd'; exact hMl d hd'
          have hMlen : M.length ≤ 1000 := by rw [hMe]; exact hM
          have hMeh := Lib.hid hMe
          have hgoodh := Lib.hid hgood
          have hbWh := Lib.hid hbW
          clear hallz hcov hsok hfl hM hMl hMm hMe2 hMe hpW hplW hcW hbW hall hb hgood
          go_wp2_with fail
          refine (unhide hts).mono ?_
          rintro e w6 ⟨a, c, S, B, er, rfl, hcs, her, hb6⟩
          have hcy := cycBy_le pl M M.length
          have hsl := Lib.hid (slots_any a M.length c S B (M.map topO).reverse er (cycBy pl M M.length).reverse w6 (by rw [List.length_reverse, List.length_map]) (by rw [List.length_reverse, List.length_map]; exact hMlen) (by rw [List.length_reverse]; omega) hcl2.out hcs her)
          have hbw6 : Hid (Below w.heap.size w w6) := hbWh.out.trans (hb6.mono hbWh.out.size)
          clear hts hcs her hb6 hcl2 hcy
          go_wp2_with fail
          refine (unhide hsl).mono ?_
          rintro e w7 ⟨a1, c1, a2, c2, vs, rfl, ho7, hv7, hr7, _, hb7⟩
          have e1 : ((M.map topO).reverse).length = M.length := by rw [List.length_reverse, List.length_map]
          have e2 : (cycBy pl M M.length).reverse.length = (cycBy pl M M.length).length := List.length_reverse
          have e3 : decide ((cycBy pl M M.length).reverse = []) = decide (cycBy pl M M.length = []) := by simp
          rw [e1] at ho7 ⊢
          rw [e2, e3]
          have hfin : Hid (SortByPost g pl w (.returned (.tuple #[.slice a1 M.length c1, .slice a2 (cycBy pl M M.length).length c2, .bool (decide (cycBy pl M M.length = [])), .bool false])) w7) := by
            refine ⟨hbw6.out.trans (hb7.mono hbw6.out.size), fun h => ?_, fun _ => ?_⟩
            · rw [hgoodh.out] at h; cases h
            · rw [← hMeh.out]
              exact ⟨a1, c1, a2, c2, w6.heap.size, vs, rfl, ho7, hr7, hbw6.out.size, by rw [← e2]; exact hv7⟩
          obtain ⟨n2, hn2⟩ : ∃ n2, n2 = (cycBy pl M M.length).length := ⟨_, rfl⟩
          obtain ⟨q, hq⟩ : ∃ q, q = decide (cycBy pl M M.length = []) := ⟨_, rfl⟩
          rw [← hn2, ← hq] at hfin ⊢
          clear ho7 hv7 hr7 hb7 hsl e1 e2 e3 hn2 hq
          go_wp2_with fail
          go_returns
          exact hfin.out
    · have hbad : goodBy g pl = false := by
        rw [hgB.out]
        rw [Bool.or_eq_true] at hS
        rcases hS with h | h
        · have h1 : decide pl.Nodup = false := by have := htwh.out; rw [h] at this; simpa using this
          rw [h1]; rfl
        · have h1 : decide (pl.length = g.nodes.length) = false := by
            have := hng.out
            rw [← this]
            simpa using h
          rw [h1, Bool.and_false]; rfl
      have hf := Lib.hid (hbadf.out hbad wc hbch.out)
      clear hS hbad
      go_wp2_with fail
      go_returns
      exact hf.out
end Go.Proofs.YtagnmdhdogaijaaGreat
