/- slices.Sort at []int; impl.numbers.
   impl.oneWay.
   One row of numbers more.
   impl.SCC. -/
import Derived.Test.YthpjmjohdliohaaGreatIntsA
import Derived.Test.YthpjmjohdliohaaGreatIter
import Derived.Test.YthpjmjohdliohaaGreatOpenA
import Derived.Handy
import Derived.Test.YthpjmjohdliohaaGreatRead
import Derived.Test.YthpjmjohdliohaaGreatTabsS
import Derived.StillTailTactics
import Derived.BigRegion
import Derived.Test.YthpjmjohdliohaaGreatScc
namespace Go.Proofs.YthpjmjohdliohaaGreat
open Go.RowKit Go.Sort Go.Lib

theorem sortInt_any (base n cap : Nat) (a : Option Addr) (zs : List Int) (w : World) (hn : n ≤ 1048576) (hown : w.ownsRow base 3 1 (.slice a n cap) n (ints zs)) :
    Calls Tryz.prog 25 #[.slice a n cap] w fun e w' => e = .returned (.tuple #[]) ∧ w'.ownsRow base 3 1 (.slice a n cap) n (ints (asc zs)) ∧ w.grownBy w' (Value.slice a n cap).ownBlock := by
  have hl : zs.length = n := by have := hown.1; simpa [ints] using this
  by_cases h0 : n = 0
  · subst h0
    have hz : zs = [] := List.eq_nil_of_length_eq_zero hl
    subst hz
    refine Calls.mono (P := Tryz.prog) (by first | exact Tryz.slices_Sort_int_none_f25 a cap w | exact Tryz.slices_Sort_int_none a cap w) ?_
    rintro e w' ⟨rfl, rfl⟩
    exact ⟨rfl, by simpa [asc] using hown, World.grownBy.refl _ _⟩
  · obtain ⟨g, rfl, _, hg, _⟩ := owns_at hown (by omega)
    subst hl
    refine Calls.mono (P := Tryz.prog) (by first | exact Tryz.slices_Sort_int_f25 g 0 cap zs w (holds_owns hown) hg (by omega) | exact Tryz.slices_Sort_int g 0 cap zs w (holds_owns hown) hg (by omega)) ?_
    rintro e w' ⟨rfl, k, os, rfl⟩
    exact ⟨rfl, owns_put (ys := asc zs) hown (asc_length zs), grown_put _⟩

theorem number_any (x : Int) (w : World) : Calls Tryz.prog 41 #[.iface 127 (.int .i64 x)] w fun e w' => e = .returned (.int .i64 x) ∧ w = w' := by
  go_enter Tryz.func41, Tryz.ntmps41
  go_wp2_with (go_at_call 184; refine (id_any _ _).mono ?_; rintro e w' ⟨rfl, rfl⟩)
  go_ret
  exact ⟨rfl, rfl⟩

set_option maxHeartbeats 1000000 in
theorem numbers_any (a : Option Addr) (n c : Nat) (zs : List Int) (w : World) (hl : n = zs.length) (hn : n ≤ 1000000) (hc : Cells w a (nodes zs)) :
    Calls Tryz.prog 24 #[.slice a n c] w fun e w' => ∃ a1 c1, e = .returned (.slice a1 zs.length c1) ∧ w'.ownsRow w.heap.size 3 1 (.slice a1 zs.length c1) zs.length (ints zs) ∧ Below w.heap.size w w' := by
  subst hl
  have hch := Lib.hid hc
  clear hc
  go_enter Tryz.func24, Tryz.ntmps24
  go_wp2
  go_loopw [3, 5, 8] (fun s _ i wr => ∃ (k : Nat) (b : Option Addr) (cb : Nat), k ≤ zs.length ∧ i = .int .i64 k ∧ s = .slice b k cb ∧ wr.ownsRow w.heap.size 3 1 (.slice b k cb) k (ints (zs.take k)) ∧ Below w.heap.size w wr) (fun _ _ i _ => zs.length - (intOf i).toNat)
  case atStart => exact ⟨0, none, 0, Nat.zero_le _, rfl, rfl, World.ownsRow_nil _ _ _ _, Below.refl _ _⟩
  case round =>
    obtain ⟨k, b, cb, hk, rfl, rfl, hown, hb⟩ := hrel
    by_cases hlt : k < zs.length
    · obtain ⟨nb, no, rfl, _, hr⟩ := (hch.out.below hb).at (by rw [nodes_length]; omega)
      have hnd := hr _ _ (nodes_get zs k hlt)
      obtain ⟨x, hx⟩ : ∃ x, x = zs[k] := ⟨_, rfl⟩
      rw [← hx] at hnd
      unfold nodev at hnd
      have htk : Hid (ints (zs.take (k + 1)) = ints (zs.take k) ++ [.int .i64 x]) := by
        unfold Hid; rw [List.take_succ_eq_append_getElem hlt, ← hx]; unfold ints; rw [List.map_append]; rfl
      have hBs := hb.size
      have ho := Lib.hid (fun o => hown.alloc o)
      have hfin := Lib.hid (fun o b2 c2 w2 (h2 : w2.ownsRow w.heap.size 3 1 (.slice b2 (k + 1) c2) (k + 1) (ints (zs.take k) ++ [.int .i64 x])) (hg : (wr.alloc o).grownBy w2 (Value.slice b k cb).ownBlock) =>
        show w2.ownsRow w.heap.size 3 1 (.slice b2 (k + 1) c2) (k + 1) (ints (zs.take (k + 1))) ∧ Below w.heap.size w w2 from
          ⟨by rw [htk.out]; exact h2, (hb.alloc hBs o).grown hg (by simp; omega) (fun j e => (hown.lt j e).1)⟩)
      clear hx hr hown hb htk
      go_wp2_with (first
        | (go_at_call 41; refine (number_any _ _).mono ?_; rintro e w' ⟨rfl, rfl⟩)
        | (at_builtin; refine append_law 22 3 (.int .i64 0) 1 8 Tryz.underlying22 info_int rfl (by omega) (by omega) rfl _ _ rfl w.heap.size b k cb (ints (zs.take k)) rfl (unhide ho _) ⟨wr.heap.size, 0, none⟩ 1 1 [.int .i64 x] rfl rfl (new_one wr _ _) (one_int _) (by omega) (by simp; omega) ?_; intro b2 c2 w2 hown2 hg2 hat2; have hf := Lib.hid (unhide hfin _ _ _ _ hown2 hg2); clear hown2 hg2 hat2))
      go_roundw
      case rel => exact ⟨k + 1, b2, c2, by omega, by go_num, rfl, hf.out.1, hf.out.2⟩
      case measure => simp [intOf]; omega
    · have hkn : k = zs.length := by omega
      subst hkn
      rw [List.take_length] at hown
      have hf : Hid (wr.ownsRow w.heap.size 3 1 (.slice b zs.length cb) zs.length (ints zs) ∧ Below w.heap.size w wr) := ⟨hown, hb⟩
      clear hown hb
      go_wp2_with fail
      go_ret
      exact ⟨b, cb, rfl, hf.out.1, hf.out.2⟩
end Go.Proofs.YthpjmjohdliohaaGreat

namespace Go.Proofs.YthpjmjohdliohaaGreat
open Go.RowKit

/-- What oneWay gives. -/
def OneWayPost (w : World) (g : Gr) (e : Ending) (w' : World) : Prop :=
  ∃ pb, e = .returned (.tuple #[.agg #[.pointer (some ⟨pb, 0, none⟩)], .bool (okGraph g && g.dir)]) ∧ Below w.heap.size w w' ∧
    (okGraph g = true → PlainAt w' pb (asc g.nodes) (tabs bitsOf (asc g.nodes) g.dir g.edges).1 (tabs bitsOf (asc g.nodes) g.dir g.edges).2)

set_option maxRecDepth 100000 in
set_option maxHeartbeats 1000000 in
theorem oneWay_any (g : Gr) (an : Option Addr) (cn : Nat) (ae : Option Addr) (ce : Nat) (w : World) (hn : g.nodes.length ≤ 1048575) (he : g.edges.length ≤ 1048576) (hg : GrAt w g an cn ae) :
    Calls Tryz.prog 19 #[.agg #[.bool g.dir, .slice an g.nodes.length cn, .slice ae g.edges.length ce]] w (OneWayPost w g) := by
  obtain ⟨w1, hw1⟩ : ∃ w1, w1 = (w.alloc (.cells #[.bool g.dir, .slice an g.nodes.length cn, .slice ae g.edges.length ce] 25)).alloc (.cells #[.pointer none] 47) := ⟨_, rfl⟩
  have hb1 : Below w.heap.size w w1 := by rw [hw1]; exact (alloc_below w _).trans ((alloc_below _ _).mono (by simp))
  have hz1 : w1.heap.size = w.heap.size + 2 := by rw [hw1]; simp
  have hk1 : w1.cell? ⟨w.heap.size, 0, none⟩ = some (.bool g.dir) := by rw [hw1]; simp
  have hr1 : w1.heap[w.heap.size + 1]? = some (.cells #[.pointer none] 47 (0, 0)) := by
    rw [hw1]
    have := heap_alloc_new (w.alloc (.cells #[.bool g.dir, .slice an g.nodes.length cn, .slice ae g.edges.length ce] 25)) (.cells #[.pointer none] 47)
    rwa [show (w.alloc (.cells #[.bool g.dir, .slice an g.nodes.length cn, .slice ae g.edges.length ce] 25)).heap.size = w.heap.size + 1 by simp] at this
  have hr := read_any g an cn ae ce w1 hn he (hg.below hb1)
  rw [hw1] at hr
  have hrh := Lib.hid hr
  have hw1h := Lib.hid hw1
  have hb1h := Lib.hid hb1
  have hz1h := Lib.hid hz1
  have hk1h := Lib.hid hk1
  have hr1h := Lib.hid hr1
  clear hw1 hb1 hz1 hk1 hr1 hr hg
  go_enter Tryz.func19, Tryz.ntmps19
  go_wp2_with fail
  refine (unhide hrh).mono ?_
  rintro e w2 ⟨b, rfl, hbb, hb2, hlt, hp⟩
  rw [← hw1h.out] at hb2 hlt hp ⊢
  have k0 := cell_below hb2 hk1h.out
  have hr2 : w2.heap[w.heap.size + 1]? = some (.cells #[.pointer none] 47 (0, 0)) := (hb2.block _ (by have := hz1h.out; omega)).trans hr1h.out
  have r0 : w2.cell? ⟨w.heap.size + 1, 0, none⟩ = some (.pointer none) := by simp [World.cell?, hr2]
  have rf : w2.frozen? ⟨w.heap.size + 1, 0, none⟩ = false := by simp [World.frozen?, hr2]
  have hset : ∀ u, (w2.setCell ⟨w.heap.size + 1, 0, none⟩ u).cell? ⟨w.heap.size + 1, 0, none⟩ = some u := fun u => by have := heap_set_self hr2 0 u; simp [World.cell?, this]
  have hlate : Hid (∀ u, Below w.heap.size w (w2.setCell ⟨w.heap.size + 1, 0, none⟩ u) ∧ (okGraph g = true → PlainAt (w2.setCell ⟨w.heap.size + 1, 0, none⟩ u) (w1.heap.size + 1) (asc g.nodes) (tabs bitsOf (asc g.nodes) g.dir g.edges).1 (tabs bitsOf (asc g.nodes) g.dir g.edges).2)) := fun u =>
    ⟨(hb1h.out.trans (hb2.mono (by have := hz1h.out; omega))).setCell (by simp) u, fun h => (hp h).plain.keep r0 u⟩
  obtain ⟨ok, hok⟩ : ∃ ok, ok = okGraph g := ⟨_, rfl⟩
  obtain ⟨q, hq⟩ : ∃ q, q = w1.heap.size + 1 := ⟨_, rfl⟩
  rw [← hq]
  rw [← hok] at hbb
  have hokh := Lib.hid hok
  have hqh := Lib.hid hq
  clear hb2 hlt hp hr2 hok hq hrh
  subst hbb
  cases b
  · go_wp2_with fail
    go_region
    all_goals go_wp2_with fail
    all_goals
     refine bodyPost_ret (v := .tuple #[.agg #[.pointer (some ⟨q, 0, none⟩)], .bool false]) (by simp [results, Tryz.results19, go_sem, hset]) rfl ?_
     refine ⟨q, by rw [← hokh.out]; rfl, (hlate.out _).1.drew, fun h => ?_⟩
     rw [hqh.out]
     exact ((hlate.out _).2 h).below (drew_below _)
  · go_wp2_with fail
    go_region
    all_goals go_wp2_with fail
    all_goals
     refine bodyPost_ret (v := .tuple #[.agg #[.pointer (some ⟨q, 0, none⟩)], .bool g.dir]) (by simp [results, Tryz.results19, go_sem, hset]) rfl ?_
     refine ⟨q, by rw [← hokh.out]; rfl, (hlate.out _).1.drew, fun h => ?_⟩
     rw [hqh.out]
     exact ((hlate.out _).2 h).below (drew_below _)
end Go.Proofs.YthpjmjohdliohaaGreat

namespace Go.Proofs.YthpjmjohdliohaaGreat
open Go.RowKit

/-- One row more: what stands behind numbers, Sort and the append. -/
theorem irow_step {wr w5 w6 : World} {D k n : Nat} {b ax : Option Addr} {cb cx : Nat} {vs2 : List Value} {l : List (List Int)} {c : List Int} {o : Obj} (hn : n = c.length) (hown : wr.ownsRow D 22 1 (.slice b k cb) k vs2) (hrows : IRows wr D vs2 l)
    (hdis : ∀ j ∈ blks vs2, (Value.slice b k cb).ownBlock ≠ some j) (hb5 : Below wr.heap.size wr w5) (own6 : w6.ownsRow wr.heap.size 3 1 (.slice ax n cx) n (ints c)) (hg6 : w5.grownBy w6 (Value.slice ax n cx).ownBlock) (hD : D ≤ wr.heap.size) :
    w6.ownsRow D 22 1 (.slice b k cb) k vs2 ∧ D ≤ w6.heap.size ∧ Hid (∀ w7 b2 c2, (w6.alloc o).grownBy w7 (Value.slice b k cb).ownBlock → w7.ownsRow D 22 1 (.slice b2 (k + 1) c2) (k + 1) (vs2 ++ [.slice ax n cx]) → (b2 = b ∨ b2 = some ⟨(w6.alloc o).heap.size, 0, none⟩) →
      IRows w7 D (vs2 ++ [.slice ax n cx]) (l ++ [c]) ∧ (∀ j ∈ blks (vs2 ++ [.slice ax n cx]), (Value.slice b2 (k + 1) c2).ownBlock ≠ some j) ∧ Below D wr w7) := by
  subst hn
  have hz5 := hb5.size
  have hz6 := hg6.size
  have hold : ∀ j, j < wr.heap.size → w6.heap[j]? = wr.heap[j]? := fun j hj => by
    rw [hg6.block j (by omega) (fun e => by have := (own6.lt j e.symm).1; omega), hb5.block j hj]
  have hown6 : w6.ownsRow D 22 1 (.slice b k cb) k vs2 := owns_same hown fun j hj => hold j (hown.lt j hj).2
  refine ⟨hown6, by omega, fun w7 b2 c2 hg7 ho7 hat => ?_⟩
  have hsz : (w6.alloc o).heap.size = w6.heap.size + 1 := by simp
  have h7 : ∀ j, j < w6.heap.size → (Value.slice b k cb).ownBlock ≠ some j → w7.heap[j]? = w6.heap[j]? := fun j hj hne => by
    rw [hg7.block j (by omega) (fun e => hne e.symm), Below.heap_alloc _ _ _ hj]
  have hr7 : IRows w7 D vs2 l := hrows.same fun j hj => by
    have := hrows.lt j hj
    rw [h7 j (by omega) (hdis j hj), hold j this.2]
  have hx7 : w7.ownsRow D 3 1 (.slice ax c.length cx) c.length (ints c) := by
    have h1 : w7.ownsRow wr.heap.size 3 1 (.slice ax c.length cx) c.length (ints c) := owns_same own6 fun j hj => h7 j (own6.lt j hj).2 (fun e => by
      have h1 := (own6.lt j hj).1
      have h2 := (hown.lt j e).2
      omega)
    exact owns_base h1 hD
  have hnew : ∀ j, (Value.slice b2 (k + 1) c2).ownBlock = some j → (Value.slice b k cb).ownBlock = some j ∨ w6.heap.size ≤ j := by
    intro j hj
    rcases hat with rfl | rfl
    · left; cases b2 <;> exact hj
    · right
      simp only [Value.ownBlock] at hj
      injection hj with hj
      omega
  refine ⟨hr7.more hx7, fun j hj e => ?_, ⟨(hg7.os.trans rfl).trans (hg6.os.trans hb5.os), (hg7.tape.trans rfl).trans (hg6.tape.trans hb5.tape), (hg7.output.trans rfl).trans (hg6.output.trans hb5.output), by have := hg7.size; omega, fun j hj => ?_⟩⟩
  · have hbl : blks (vs2 ++ [.slice ax c.length cx]) = blks vs2 ++ (Value.slice ax c.length cx).ownBlock.toList := by
      unfold blks; rw [List.filterMap_append]; congr 1
    rw [hbl] at hj
    rcases List.mem_append.1 hj with hj | hj
    · have h1 := hrows.lt j hj
      rcases hnew j e with e' | e'
      · exact hdis j hj e'
      · omega
    · rw [Option.mem_toList] at hj
      have h1 := own6.lt j hj
      rcases hnew j e with e' | e'
      · have := (hown.lt j e').2; omega
      · omega
  · rw [h7 j (by omega) (fun e => by have := (hown.lt j e).1; omega), hold j (by omega)]

theorem one_irow (a : Option Addr) (n c : Nat) : ∀ u ∈ [Value.slice a n c], u.oneCell' = true := fun u hu => by rw [List.mem_singleton.1 hu]; rfl
end Go.Proofs.YthpjmjohdliohaaGreat

namespace Go.Proofs.YthpjmjohdliohaaGreat
open Go.RowKit

theorem tarjanScc_any (pb : Nat) (ids : List Int) (outs ins : List (List Arc)) (w : World) (hids : ids.length ≤ 1000) (h64 : ∀ x ∈ ids, In64 x) (hp : PlainAt w pb ids outs ins) :
    Calls Tryz.prog 23 #[.iface 47 (.agg #[.pointer (some ⟨pb, 0, none⟩)])] w (SccPost w (sccsOf (succOf ids outs) ids)) := by
  have hs := Lib.hid (stab_any pb ids outs ins w hids h64 hp)
  clear hp h64
  go_enter Tryz.func23, Tryz.ntmps23
  go_wp2_with fail
  refine (unhide hs).mono ?_
  rintro e w1 hpost
  obtain ⟨a, c, B, vs, rfl, h1⟩ := hpost
  have hfin : Hid (SccPost w (sccsOf (succOf ids outs) ids) (.returned (.slice a (sccsOf (succOf ids outs) ids).length c)) w1) := ⟨a, c, B, vs, rfl, h1⟩
  clear h1 hs
  go_wp2_with fail
  go_ret
  exact hfin.out

/-- What impl.SCC gives of a graph that is none too bad. -/
def SccRes (w : World) (l : List (List Int)) (e : Ending) (w' : World) : Prop :=
  ∃ (a : Option Addr) (c B : Nat) (vs : List Value), e = .returned (.tuple #[.slice a l.length c, .bool false]) ∧ w'.ownsRow B 22 1 (.slice a l.length c) l.length vs ∧ IRows w' B vs l ∧ B ≤ w'.heap.size ∧ Below w.heap.size w w'


theorem mem_len {c : List Int} {l : List (List Int)} (h : c ∈ l) : c.length ≤ l.flatten.length := by
  induction l with
  | nil => cases h
  | cons d l ih =>
    rw [List.flatten_cons, List.length_append]
    rcases List.mem_cons.1 h with e | e
    · rw [e]; omega
    · have := ih e; omega

/-- The components of a graph, each ascending. -/
def gSccs (g : Gr) : List (List Int) := (sccsOf (gSucc g) (asc g.nodes)).map asc

set_option maxRecDepth 100000 in
set_option maxHeartbeats 2000000 in
theorem scc_any (g : Gr) (an : Option Addr) (cn : Nat) (ae : Option Addr) (ce : Nat) (w : World) (hn : g.nodes.length ≤ 1000) (he : g.edges.length ≤ 1048576) (hg : GrAt w g an cn ae) (hok : okGraph g = true) (hd : g.dir = true) (h64 : ∀ x ∈ g.nodes, In64 x) :
    Calls Tryz.prog 9 #[.agg #[.bool g.dir, .slice an g.nodes.length cn, .slice ae g.edges.length ce]] w (SccRes w (gSccs g)) := by
  have how := oneWay_any g an cn ae ce (w.alloc (.cells #[.bool g.dir, .slice an g.nodes.length cn, .slice ae g.edges.length ce] 25)) (by omega) he (hg.below (alloc_below w _))
  have howh := Lib.hid how
  have hokh := Lib.hid hok
  have hdh := Lib.hid hd
  have h64h := Lib.hid h64
  have hids : (asc g.nodes).length ≤ 1000 := by rw [asc_length]; exact hn
  have hsok := Lib.hid (sccs_ok (ids := asc g.nodes) (succ := gSucc g) (fun x hx y hy => by
    have := (gSucc_mem hok (asc_mem.1 hx)).1 hy
    exact asc_mem.2 this.1))
  clear how hok hd h64 hg
  go_enter Tryz.func9, Tryz.ntmps9
  go_wp2_with fail
  refine (unhide howh).mono ?_
  rintro e w1 ⟨pb, rfl, hb1, hp⟩
  rw [hokh.out, hdh.out]
  have hp1 := hp hokh.out
  have hb1' : Below w.heap.size w w1 := (alloc_below w _).trans (hb1.mono (by simp))
  have hts := Lib.hid (fun o => tarjanScc_any pb (asc g.nodes) _ _ (w1.alloc o) hids (fun x hx => h64h.out x (asc_mem.1 hx)) (hp1.below (alloc_below w1 o)))
  have hb1h := Lib.hid hb1'
  clear hb1 hp hp1 hb1' howh
  go_wp2_with fail
  refine (hts.out _).mono ?_
  rintro e w4 ⟨a4, c4, B4, vs4, rfl, hB4, hov, hrows, _, _, _, hb4⟩
  obtain ⟨L, hL⟩ : ∃ L, L = sccsOf (gSucc g) (asc g.nodes) := ⟨_, rfl⟩
  have hov' : w4.ownsRow B4 50 1 (.slice a4 L.length c4) L.length vs4 := by rw [hL]; exact hov
  have hrows' : NRows w4 B4 vs4 L := by rw [hL]; exact hrows
  have hLs : sccsOf (succOf (asc g.nodes) (tabs bitsOf (asc g.nodes) g.dir g.edges).1) (asc g.nodes) = L := by rw [hL]; rfl
  rw [hLs]
  have hfl : L.flatten.length ≤ 1000 := by
    have h1 := hsok.out.nd
    have h2 := nodup_len h1 (fun x hx => (hsok.out.mem x).1 hx)
    rw [hL]
    show (sccsOf (gSucc g) (asc g.nodes)).flatten.length ≤ 1000
    omega
  have hLl : L.length ≤ 1000 := by
    have h1 := flatten_len hsok.out.ne
    rw [hL] at hfl ⊢
    have h2 : (sccsOf (gSucc g) (asc g.nodes)).length ≤ (sccsOf (gSucc g) (asc g.nodes)).flatten.length := h1
    omega
  have hcl : Hid (∀ k (hk : k < L.length), L[k].length ≤ 1000) := fun k hk => by have := mem_len (List.getElem_mem hk); omega
  have hbw4 : Hid (Below w.heap.size w w4) := hb1h.out.trans (((alloc_below w1 _).trans (hb4.mono (by simp))).mono (hb1h.out.size))
  have hovh := Lib.hid hov'
  have hrowsh := Lib.hid hrows'
  have hLh : Hid (gSccs g = L.map asc) := by unfold Hid gSccs; rw [hL]
  obtain ⟨D, hD⟩ : ∃ D, D = w4.heap.size := ⟨_, rfl⟩
  have hDh := Lib.hid hD
  clear hov hrows hov' hrows' hL hLs hb4 hts hsok hB4 hD
  go_wp2_with fail
  go_loopw [2, 7, 8, 20] (fun s _ _ i wr => ∃ (k : Nat) (b : Option Addr) (cb : Nat) (vs2 : List Value), k ≤ L.length ∧ i = .int .i64 k ∧ s = .slice b k cb ∧ wr.ownsRow D 22 1 (.slice b k cb) k vs2 ∧ IRows wr D vs2 ((L.take k).map asc) ∧
    (∀ j ∈ blks vs2, (Value.slice b k cb).ownBlock ≠ some j) ∧ Below D w4 wr) (fun _ _ _ i _ => L.length - (intOf i).toNat)
  case atStart => exact ⟨0, none, 0, [], Nat.zero_le _, rfl, rfl, World.ownsRow_nil _ _ _ _, ⟨rfl, fun k v c hv => by simp at hv⟩, by simp [blks], Below.refl _ _⟩
  case round =>
    obtain ⟨k, b, cb, vs2, hk, rfl, rfl, hown, hir, hdis, hb⟩ := hrel
    have hbw : Below w4.heap.size w4 wr := by rw [← hDh.out]; exact hb
    by_cases hlt : k < L.length
    · have hvl : vs4.length = L.length := hrowsh.out.1
      have hv : vs4[k]? = some (vs4[k]'(by omega)) := List.getElem?_eq_getElem _
      have hrow := hrowsh.out.2 k _ _ hv (List.getElem?_eq_getElem hlt)
      obtain ⟨cl, hcle⟩ : ∃ cl, cl = L[k] := ⟨_, rfl⟩
      obtain ⟨v4, hv4⟩ : ∃ v4, v4 = vs4[k]'(by omega) := ⟨_, rfl⟩
      rw [← hcle, ← hv4] at hrow
      rw [← hv4] at hv
      have hcl1 : cl.length ≤ 1000 := by rw [hcle]; exact hcl.out k hlt
      have htk : Hid ((L.take (k + 1)).map asc = (L.take k).map asc ++ [asc cl]) := by
        unfold Hid; rw [List.take_succ_eq_append_getElem hlt, List.map_append, hcle]; rfl
      obtain ⟨g4, rfl, _⟩ := owns_at hovh.out (by omega)
      have hcell := cell_below hbw (owns_cell hovh.out hv)
      obtain ⟨ag, cg, rfl, _, hcs, _⟩ := owns_cells hrow
      have hnum := Lib.hid (numbers_any ag cl.length cg cl wr rfl (by omega) (hcs.below hbw))
      have hDw : D ≤ wr.heap.size := by rw [hDh.out]; exact hbw.size
      have hownh := Lib.hid hown
      have hirh := Lib.hid hir
      have hdish := Lib.hid hdis
      have hbh := Lib.hid hb
      clear hvl hv hrow hcle hv4 hcs hown hir hdis hb hbw
      go_wp2_with fail
      refine (unhide hnum).mono ?_
      rintro e w5 ⟨ax, cx, rfl, own5, hb5⟩
      have hsort := Lib.hid (sortInt_any wr.heap.size cl.length cx ax cl w5 (by omega) own5)
      have hb5h := Lib.hid hb5
      clear own5 hb5 hnum hcell
      go_wp2_with fail
      refine (unhide hsort).mono ?_
      rintro e w6 ⟨rfl, own6, hg6⟩
      obtain ⟨o6, hD6, hst⟩ := irow_step (o := .cells #[.slice ax cl.length cx] 22) (c := asc cl) (asc_length cl).symm hownh.out hirh.out hdish.out hb5h.out own6 hg6 hDw
      have ho6 := Lib.hid (fun o => o6.alloc o)
      clear own6 hg6 o6 hsort
      go_wp2_with (at_builtin; refine append_law 28 22 (.slice none 0 0) 1 24 Tryz.underlying28 info_irow rfl (by omega) (by omega) rfl _ _ rfl D b k cb vs2 rfl (ho6.out _) ⟨w6.heap.size, 0, none⟩ 1 1 [.slice ax cl.length cx] rfl rfl (new_one w6 _ _) (one_row _ _ _) (by omega) (by simp; omega) ?_; intro b2 c2 w7 hown7 hg7 hat7; have hq := Lib.hid (hst.out w7 b2 c2 hg7 hown7 hat7); have hown7h := Lib.hid hown7; clear hown7 hg7 hat7 ho6)
      go_roundw
      case rel => exact ⟨k + 1, b2, c2, _, by omega, by go_num, rfl, hown7h.out, by rw [htk.out]; exact hq.out.1, hq.out.2.1, hbh.out.trans hq.out.2.2⟩
      case measure => simp [intOf]; omega
    · have hkn : k = L.length := by omega
      subst hkn
      rw [List.take_length] at hir
      have hfin : Hid (SccRes w (gSccs g) (.returned (.tuple #[.slice b L.length cb, .bool false])) wr) := by
        have h1 : (gSccs g).length = L.length := by rw [hLh.out, List.length_map]
        refine ⟨b, cb, D, vs2, by rw [h1], by rw [h1]; exact hown, by rw [hLh.out]; exact hir, by rw [hDh.out]; exact hbw.size, hbw4.out.trans (hbw.mono hbw4.out.size)⟩
      clear hown hir hdis hb hbw
      go_wp2_with fail
      go_ret2
      exact hfin.out
end Go.Proofs.YthpjmjohdliohaaGreat
