/- DepthFirst.Walk as ConnectedComponents calls it: each visit noted. -/
import Derived.Test.YthpjmjohdliohaaGreatCmpA
import Derived.Test.YthpjmjohdliohaaGreatBothWays
import Derived.Test.YthpjmjohdliohaaGreatTabsS
import Derived.Test.YthpjmjohdliohaaGreatNodesT
import Derived.Deep.LoopGhost
import Derived.Deep.CutBlock
import Derived.Deep.DeepCutAuto
import Derived.WalkSpells
namespace Go.Proofs.YthpjmjohdliohaaGreat
open Go.RowKit

theorem dfs_nil1 (w : World) : (binOp .neq 99 .nilFunc .nilFunc).run Tryz.prog w = .ok (.bool false) w := by kernel_rfl
theorem dfs_nil2 (w : World) : (binOp .neq 100 .nilFunc .nilFunc).run Tryz.prog w = .ok (.bool false) w := by kernel_rfl
theorem dfs_nil3 (f : Fn) (a b : Array Value) (w : World) : (binOp .neq 159 (.func f a b) .nilFunc).run Tryz.prog w = .ok (.bool true) w := by kernel_rfl

/-- Before a walk: nothing was visited yet, or there is a set of what was. -/
def DStart (w : World) (ids : List Int) (A tb pb : Nat) (O : List Int) (F0 : List Nat) (x : Option Nat) : Prop :=
  (x = none ∧ O = [] ∧ F0 = [tb, pb] ∧ DBlk w tb .nilFunc .nilFunc (.slice none 0 0) (.map none) ∧ VBlk w pb 50 (.slice none 0 0) ∧ A ≤ tb ∧ A ≤ pb ∧ tb ≠ pb) ∨
  ∃ mb B a c ap cp, x = some mb ∧ DfsAt w ids A B tb mb pb .nilFunc .nilFunc 50 85 nodev O [] [] (.slice a 0 c) (.slice ap 0 cp) ∧ F0 = dfoot tb mb pb (.slice a 0 c) (.slice ap 0 cp)

theorem DStart.c3 {w : World} {ids : List Int} {A tb pb : Nat} {O : List Int} {F0 : List Nat} {x : Option Nat} (h : DStart w ids A tb pb O F0 x) : w.cell? ⟨tb, 3, none⟩ = some (.map x) ∧ w.frozen? ⟨tb, 3, none⟩ = false := by
  rcases h with ⟨rfl, _, _, h, _⟩ | ⟨mb, B, a, c, ap, cp, rfl, h, _⟩
  · exact ⟨h.c3, h.free 3⟩
  · exact ⟨h.blk.c3, h.blk.free 3⟩

/-- The set is made. -/
theorem DStart.made {w : World} {ids : List Int} {A tb pb : Nat} {O : List Int} {F0 : List Nat} (h : DStart w ids A tb pb O F0 none) :
    ∃ mb B a c ap cp, DfsAt ((w.alloc (.map #[] 0)).setCell ⟨tb, 3, none⟩ (.map (some w.heap.size))) ids A B tb mb pb .nilFunc .nilFunc 50 85 nodev O [] [] (.slice a 0 c) (.slice ap 0 cp) ∧
      Moves F0 w (dfoot tb mb pb (.slice a 0 c) (.slice ap 0 cp)) ((w.alloc (.map #[] 0)).setCell ⟨tb, 3, none⟩ (.map (some w.heap.size))) := by
  rcases h with ⟨_, rfl, rfl, h1, h2, l1, l2, hne⟩ | ⟨_, _, _, _, _, _, h, _⟩
  · have z1 := h1.lt
    have z2 := h2.lt
    have hz : (w.alloc (.map #[] 0)).heap.size = w.heap.size + 1 := by simp
    have b1 : DBlk (w.alloc (.map #[] 0)) tb .nilFunc .nilFunc (.slice none 0 0) (.map none) := (Below.heap_alloc _ _ _ z1).trans h1
    have hh : ∀ j, j ≠ tb → ((w.alloc (.map #[] 0)).setCell ⟨tb, 3, none⟩ (.map (some w.heap.size))).heap[j]? = (w.alloc (.map #[] 0)).heap[j]? := fun j hj => Below.heap_setCell _ _ _ _ hj
    refine ⟨w.heap.size, w.heap.size + 1, none, 0, none, 0, ⟨b1.set3 _, World.ownsRow_nil _ _ _ _, (iset_new w ids).same (hh _ (by omega)), ?_, World.ownsRow_nil _ _ _ _, ⟨by omega, by omega, by omega, by simp [World.setCell]⟩, ⟨l1, by omega, l2⟩, ⟨by omega, hne, by omega⟩, fun j hj => by simp [Value.ownBlock] at hj⟩, ?_⟩
    · exact (hh pb (fun e => hne e.symm)).trans ((Below.heap_alloc _ _ _ z2).trans h2)
    · refine ((Moves.of_alloc [tb, pb] w _).trans (Moves.of_setCell _ _ (by simp))).sub fun k hk => ?_
      rcases mem_dfoot.1 hk with e | e | e | e | e
      · exact .inl (by simp [e])
      · exact .inr (.inr (by omega))
      · exact .inl (by simp [e])
      · simp [Value.ownBlock] at e
      · simp [Value.ownBlock] at e
  · cases h

theorem DStart.had {w : World} {ids : List Int} {A tb pb : Nat} {O : List Int} {F0 : List Nat} {mb : Nat} (h : DStart w ids A tb pb O F0 (some mb)) :
    ∃ mb B a c ap cp, DfsAt w ids A B tb mb pb .nilFunc .nilFunc 50 85 nodev O [] [] (.slice a 0 c) (.slice ap 0 cp) ∧ Moves F0 w (dfoot tb mb pb (.slice a 0 c) (.slice ap 0 cp)) w := by
  rcases h with ⟨h, _⟩ | ⟨mb, B, a, c, ap, cp, _, h, rfl⟩
  · cases h
  · exact ⟨mb, B, a, c, ap, cp, h, Moves.refl _ _⟩

set_option maxRecDepth 100000 in
set_option maxHeartbeats 8000000 in
theorem dwalkC_any (gb lo hi : Nat) (ids : List Int) (outs ins : List (List Arc)) (A tb pb db : Nat) (O : List Int) (F0 : List Nat) (x0 : Option Nat) (u : Int) (w : World) (hids : ids.length ≤ 1000) (h64 : ∀ x ∈ ids, In64 x)
    (hap : ∀ x, Reach (succOf ids outs) u x → x ∈ ids ∧ x ∉ O) (hst : DStart w ids A tb pb O F0 x0) (hF : FarIn lo hi w gb ids outs ins) (hF0 : ∀ k ∈ F0, k < lo ∨ hi ≤ k)
    (hdb : VBlk w db 99 (noteC pb)) (hdF : db ∉ F0) :
    Calls Tryz.prog 85
      #[.pointer (some ⟨tb, 0, none⟩), .iface 62 (.agg #[.pointer (some ⟨gb, 0, none⟩)]), .iface 127 (.int .i64 u), .func (.func 86) #[] #[.pointer (some ⟨db, 0, none⟩)]] w
      fun e w' => e = .returned .nilIface ∧ ∃ (mb B : Nat) (V : List Int) (a : Option Addr) (c : Nat) (ap : Option Addr) (cp : Nat), DWalk (succOf ids outs) u V ∧
        DfsAt w' ids A B tb mb pb .nilFunc .nilFunc 50 85 nodev (V.reverse ++ O) [] V (.slice a 0 c) (.slice ap V.length cp) ∧ Moves F0 w (dfoot tb mb pb (.slice a 0 c) (.slice ap V.length cp)) w' := by
  have hmm := @run_makeMap Tryz.prog
  have hme := fun w => run_eql_map_nil (P := Tryz.prog) w 103 2 162 x0 Tryz.underlying103
  have hf1 := dfs_nil1
  have hf2 := dfs_nil2
  have hf3 := dfs_nil3
  obtain ⟨c3, f3⟩ := hst.c3
  have c31 : ∀ o, (w.alloc o).cell? ⟨tb, 3, none⟩ = some (.map x0) := fun o => cell_alloc c3 o
  have f31 : ∀ o, (w.alloc o).frozen? ⟨tb, 3, none⟩ = false := fun o => free_below (alloc_below w o) c3 f3
  have hsth := Lib.hid hst
  have hFh := Lib.hid hF
  have hdbh := Lib.hid hdb
  have hdFh := Lib.hid hdF
  have hF0h := Lib.hid hF0
  have haph := Lib.hid hap
  have h64h := Lib.hid h64
  clear hst hF hdb hdF hF0 hap h64
  go_enter Tryz.func85, Tryz.ntmps85
  go_upto_if 18 with fail
  go_cut [] from 14 (fun wx => ∃ mb B a c ap cp, DfsAt wx ids A B tb mb pb .nilFunc .nilFunc 50 85 nodev O [] [] (.slice a 0 c) (.slice ap 0 cp) ∧ Moves F0 w (dfoot tb mb pb (.slice a 0 c) (.slice ap 0 cp)) wx)
  case first =>
    rcases x0 with _ | m0
    · have hmade := Lib.hid hsth.out.made
      go_wp2_with fail
      go_meet
      exact hmade.out
    · have hhad := Lib.hid hsth.out.had
      go_wp2_with fail
      go_meet
      exact hhad.out
  case rest =>
  obtain ⟨mb, B, a, c, ap, cp, hD, hM⟩ := hcut
  have hpush := Lib.hid (spush_any a 0 c u wc rfl (by omega) hD)
  have hMh := Lib.hid hM
  clear hD hM c3 f3 c31 f31 hme hmm hsth
  go_wp2_with fail
  refine (unhide hpush).mono ?_
  rintro e w2 ⟨rfl, b1, c1, hD2, hM2⟩
  have hM2' := hMh.out.trans hM2
  have hD2h := Lib.hid hD2
  have hM2h := Lib.hid hM2'
  clear hD2 hM2 hM2' hMh hpush
  go_wp2_with fail
  go_loopg [] (1 + 1001 * ids.length) (fun gk wr => ∃ (S V : List Int) (a : Option Addr) (n c : Nat) (ap : Option Addr) (cp : Nat), n = S.length ∧ n ≤ 1100000 - 1001 * (ids.length - V.length) ∧ gk = n + 1001 * (ids.length - V.length) ∧ DInv (succOf ids outs) u V S ∧
    DfsAt wr ids A B tb mb pb .nilFunc .nilFunc 50 85 nodev (V.reverse ++ O) S V (.slice a n c) (.slice ap V.length cp) ∧ Moves F0 w (dfoot tb mb pb (.slice a n c) (.slice ap V.length cp)) wr)
  case atStart => exact ⟨[u], [], b1, 1, c1, ap, cp, rfl, by simp; omega, by simp, DInv.start _ u, hD2h.out, hM2h.out⟩
  case round =>
    obtain ⟨S, V, a, n, c, ap, cp, hn, hnb, hgk, hI, hD, hM⟩ := hrel
    have hlen := Lib.hid (slen_any n c a wr hD.blk.c2)
    have hnh := Lib.hid hn
    have hnbh := Lib.hid hnb
    have hgkh := Lib.hid hgk
    have hIh := Lib.hid hI
    have hDh := Lib.hid hD
    have hMh := Lib.hid hM
    clear hn hnb hgk hI hD hM hD2h hM2h
    rcases S with _ | ⟨y, S⟩
    · have hn0 : n = 0 := hnh.out
      subst hn0
      go_wp2_with fail
      refine (unhide hlen).mono ?_
      rintro e w3 ⟨rfl, rfl⟩
      go_wp2_with fail
      go_ret
      exact ⟨rfl, mb, B, V, a, c, ap, cp, hIh.out.done, hDh.out, hMh.out⟩
    · obtain ⟨m, rfl⟩ : ∃ m, n = m + 1 := ⟨S.length, hnh.out⟩
      have hm : m = S.length := by have := hnh.out; simp only [List.length_cons] at this; omega
      have hpos : ¬ (((m + 1 : Nat) : Int) = 0) := by omega
      have hyr := hIh.out.reachS y List.mem_cons_self
      obtain ⟨hyi, hyO⟩ := haph.out y hyr
      have h64y := h64h.out y hyi
      have hVl : V.length ≤ ids.length := by
        have := nodup_len hIh.out.nd (fun x hx => (haph.out x (hIh.out.reach x hx)).1)
        exact this
      have hpop := Lib.hid (spop_any a m c y wr hm (by have := hnbh.out; omega) hDh.out)
      have hmh := Lib.hid hm
      clear hyr hm
      go_wp2_with fail
      refine (unhide hlen).mono ?_
      rintro e w3 ⟨rfl, rfl⟩
      go_wp2_with fail
      refine (unhide hpop).mono ?_
      rintro e w4 ⟨rfl, a4, c4, hD4, hM4⟩
      have hM4' := hMh.out.trans hM4
      have c3 := hD4.blk.c3
      have hhas := Lib.hid (isetHas_any ids mb (V.reverse ++ O) y w4 h64y hD4.set)
      have hdec : decide (y ∈ V.reverse ++ O) = decide (y ∈ V) := by
        rw [Bool.eq_iff_iff, decide_eq_true_iff, decide_eq_true_iff, List.mem_append, List.mem_reverse]
        exact ⟨fun h => h.resolve_right hyO, .inl⟩
      rw [hdec] at hhas
      have hD4h := Lib.hid hD4
      have hM4h := Lib.hid hM4'
      clear hD4 hM4 hM4' hpop hlen hDh hMh hdec
      go_wp2_with (go_at_call 184; refine (id_any _ _).mono ?_; rintro e w' ⟨rfl, rfl⟩)
      refine (unhide hhas).mono ?_
      rintro e w5 ⟨rfl, o5, hw5⟩
      have hb5 : Below w4.heap.size w4 w5 := by rw [hw5]; exact alloc_below _ _
      have hD5 := hD4h.out.below hb5
      have hM5 := hM4h.out.trans (Moves.of_below _ hb5)
      clear hw5 hb5 hhas hD4h hM4h c3
      by_cases hyV : y ∈ V
      · have hyd : decide (y ∈ V) = true := decide_eq_true hyV
        rw [hyd]
        have hskip := hIh.out.skip _ hyV
        have hD5h := Lib.hid hD5
        have hM5h := Lib.hid hM5
        have hskh := Lib.hid hskip
        clear hD5 hM5 hskip hyd
        go_wp2_with fail
        go_roundg (m + 1001 * (ids.length - V.length))
        case measure => have := hgkh.out; omega
        case rel => exact ⟨S, V, a4, m, c4, ap, cp, hmh.out, by have := hnbh.out; omega, rfl, hskh.out, hD5h.out, hM5h.out⟩
      · have hyd : decide (y ∈ V) = false := decide_eq_false hyV
        rw [hyd]
        have hvis := hIh.out.visit _ hyV
        have hVl2 : V.length + 1 ≤ ids.length := by
          have := nodup_len hvis.nd (fun x hx => (haph.out x (hvis.reach x hx)).1)
          rw [List.length_append, List.length_singleton] at this
          exact this
        have d3 := hD5.blk.c3
        have hadd := Lib.hid (isetAdd_any ids mb (V.reverse ++ O) y w5 h64y hyi (by omega) hD5.set)
        have hD5h := Lib.hid hD5
        have hM5h := Lib.hid hM5
        have hvish := Lib.hid hvis
        clear hD5 hM5 hvis hyd
        go_wp2_with fail
        refine (unhide hadd).mono ?_
        rintro e w6 ⟨rfl, hi6, hg6⟩
        have hD6 := hD5h.out.put hg6 hi6
        have hM6 := hM5h.out.trans (Moves.of_grown hg6 (mem_dfoot.2 (by simp)))
        have e0 := hD6.blk.c0
        have hdb6 : w6.cell? ⟨db, 0, none⟩ = some (noteC pb) := hM6.cell hdbh.out.c0 hdFh.out
        have hunt := Lib.hid (duntilC_any (P := V) ap V.length cp db y w6 rfl (by omega) hdb6 hD6)
        have hM6h := Lib.hid hM6
        clear hi6 hg6 hD6 hM6 hadd hD5h hM5h d3
        go_wp2_with fail
        refine (unhide hunt).mono ?_
        rintro e w7 ⟨rfl, a7, c7, hD7, hM7⟩
        have hM7' := hM6h.out.trans hM7
        have hF7 := hFh.out.moves hM7' hF0h.out
        have hfr := Lib.hid (fromUnd_any gb ids outs ins y w7 (by omega) hF7.plain hyi)
        have hnl := succ_len hF7.plain y
        have hfl7 := hD7.footlt
        have hD7h := Lib.hid hD7
        have hM7h := Lib.hid hM7'
        clear hD7 hM7 hM7' hF7 hunt hM6h e0 hdb6
        go_wp2_with fail
        refine (unhide hfr).mono ?_
        rintro e w8 ⟨ib, rfl, hit, hb8⟩
        obtain ⟨ns, hns⟩ : ∃ ns, ns = endsOf ids (outs.getD (posOf ids y) []) := ⟨_, rfl⟩
        have hsucc : Hid (succOf ids outs y = ns) := hns.symm
        obtain ⟨B2, hB2⟩ : ∃ B2, B2 = w7.heap.size := ⟨_, rfl⟩
        obtain ⟨E, hE⟩ : ∃ E, E = w8.heap.size := ⟨_, rfl⟩
        have hD8 := hD7h.out.below hb8
        have hM8 := hM7h.out.trans (Moves.of_below _ hb8)
        have hfl8 : ∀ k ∈ dfoot tb mb pb (.slice a4 m c4) (.slice a7 (V.length + 1) c7), k < B2 ∨ E ≤ k := fun k hk => .inl (by rw [hB2]; exact hfl7 k hk)
        have hE8 : E ≤ w8.heap.size := by rw [hE]; exact Nat.le_refl _
        have hw0 : w.heap.size ≤ B2 := by rw [hB2]; exact hM7h.out.size
        rw [← hB2, ← hE, ← hns] at hit
        rw [hsucc.out] at hnl
        have hnl' : ns.length ≤ 1000 := by omega
        clear hB2 hE hns hfl7 hb8 hfr hD7h hM7h
        go_wp2_with fail
        go_loopg [] (ns.length) (fun gi wi => ∃ (k : Nat) (a : Option Addr) (n c : Nat), k ≤ ns.length ∧ gi = ns.length - k ∧ n = ((ns.take k).reverse ++ S).length ∧ n = m + k ∧
          DfsAt wi ids A B tb mb pb .nilFunc .nilFunc 50 85 nodev (y :: (V.reverse ++ O)) ((ns.take k).reverse ++ S) (V ++ [y]) (.slice a n c) (.slice a7 (V.length + 1) c7) ∧
          Moves F0 w (dfoot tb mb pb (.slice a n c) (.slice a7 (V.length + 1) c7)) wi ∧ (∀ k ∈ dfoot tb mb pb (.slice a n c) (.slice a7 (V.length + 1) c7), k < B2 ∨ E ≤ k) ∧ IterAt wi B2 E ib k ns ∧ E ≤ wi.heap.size)
        case atStart => exact ⟨0, a4, m, c4, Nat.zero_le _, rfl, by have := hmh.out; simpa using this, rfl, by simpa using hD8, hM8, hfl8, hit, hE8⟩
        case round =>
          clear hD8 hM8 hfl8 hit hE8
          obtain ⟨k, a, n, c, hk, hgi, hn1, hn2, hD, hM, hfl, hit, hEs⟩ := hrel
          have hib1 := hit.1
          have hib2 := hit.2.1
          have hnext := Lib.hid (next_any B2 E ib k ns wr hk (by omega) hit)
          have hgih := Lib.hid hgi
          have hn1h := Lib.hid hn1
          have hn2h := Lib.hid hn2
          have hDh := Lib.hid hD
          have hMh := Lib.hid hM
          have hflh := Lib.hid hfl
          clear hgi hn1 hn2 hD hM hfl hit
          by_cases hlt : k < ns.length
          · have hd : decide (k < ns.length) = true := decide_eq_true hlt
            have hltn := hlt
            clear hlt
            go_wp2_with fail
            refine (unhide hnext).mono ?_
            rintro e w9 ⟨rfl, hg9, hit9⟩
            have hit9' := hit9 hltn
            have hibn : ib ∉ dfoot tb mb pb (.slice a n c) (.slice a7 (V.length + 1) c7) := fun h => by have := hflh.out ib h; omega
            have hD9 := hDh.out.same (fun j hj => hg9.block j (hDh.out.footlt j hj) (fun e => by injection e with e; exact hibn (e ▸ hj))) hg9.size
            have hM9 := hMh.out.grown hg9 (fun q e => by injection e with e; omega)
            have hE9 : E ≤ w9.heap.size := Nat.le_trans hEs hg9.size
            have hnode := Lib.hid (node_any B2 E ib k ns w9 hltn (by omega) hit9')
            obtain ⟨x, hxe⟩ : ∃ x, x = ns[k] := ⟨_, rfl⟩
            rw [← hxe] at hnode
            have hxeh := Lib.hid hxe
            have hD9h := Lib.hid hD9
            have hM9h := Lib.hid hM9
            have hit9h := Lib.hid hit9'
            clear hnext hg9 hit9 hit9' hD9 hM9 hxe hDh hMh hEs
            go_wp2_with fail
            refine (unhide hnode).mono ?_
            rintro e w10 ⟨rfl, k10, hw10⟩
            have hb10 : Below w9.heap.size w9 w10 := by rw [hw10]; exact drewN_below _ _
            have hD10 := hD9h.out.below hb10
            have hM10 := hM9h.out.trans (Moves.of_below _ hb10)
            have hit10 : IterAt w10 B2 E ib (k + 1) ns := by rw [hw10]; exact hit9h.out
            have hE10 : E ≤ w10.heap.size := Nat.le_trans hE9 hb10.size
            have g1 := hD10.blk.c1
            have hD10h := Lib.hid hD10
            have hM10h := Lib.hid hM10
            have hit10h := Lib.hid hit10
            clear hw10 hb10 hD10 hM10 hit10 hnode hD9h hM9h hit9h hE9
            go_wp2_with (first
              | (go_at_call 184; refine (id_any _ _).mono ?_; rintro e w' ⟨rfl, rfl⟩))
            go_quiet (fail)
            have hb11 : Below w10.heap.size w10 (w10.drewN nq) := drewN_below _ _
            have hD11 := hD10h.out.below hb11
            have hM11 := hM10h.out.trans (Moves.of_below _ hb11)
            have hit11 : IterAt (w10.drewN nq) B2 E ib (k + 1) ns := hit10h.out
            have hE11 : E ≤ (w10.drewN nq).heap.size := hE10
            obtain ⟨w11, hw11⟩ : ∃ w11, w11 = w10.drewN nq := ⟨_, rfl⟩
            rw [← hw11] at hD11 hM11 hit11 hE11 ⊢
            have hpush := Lib.hid (spush_any a n c x w11 hn1h.out (by have := hn2h.out; have := hnbh.out; omega) hD11)
            have hM11h := Lib.hid hM11
            have hit11h := Lib.hid hit11
            clear hw11 hb11 hD11 hM11 hit11 hD10h hM10h hit10h hE10 g1
            go_wp2_with fail
            refine (unhide hpush).mono ?_
            rintro e w12 ⟨rfl, a12, c12, hD12, hM12⟩
            have hfl12 : ∀ k ∈ dfoot tb mb pb (.slice a12 (n + 1) c12) (.slice a7 (V.length + 1) c7), k < B2 ∨ E ≤ k := fun j hj => by
              rcases hM12.row j hj with h | h
              · exact hflh.out j h
              · exact .inr (Nat.le_trans hE11 h)
            have hit12 : IterAt w12 B2 E ib (k + 1) ns := hit11h.out.same fun j h1 h2 => hM12.block j (by omega) (fun hj => by have := hflh.out j hj; omega)
            have hE12 : E ≤ w12.heap.size := Nat.le_trans hE11 hM12.size
            have hM12' := hM11h.out.trans hM12
            have htk : (ns.take (k + 1)).reverse ++ S = x :: ((ns.take k).reverse ++ S) := by
              rw [List.take_succ_eq_append_getElem hltn, List.reverse_append, ← hxeh.out]; rfl
            have hfin : Hid (n + 1 = ((ns.take (k + 1)).reverse ++ S).length ∧ DfsAt w12 ids A B tb mb pb .nilFunc .nilFunc 50 85 nodev (y :: (V.reverse ++ O)) ((ns.take (k + 1)).reverse ++ S) (V ++ [y]) (.slice a12 (n + 1) c12) (.slice a7 (V.length + 1) c7) ∧
                Moves F0 w (dfoot tb mb pb (.slice a12 (n + 1) c12) (.slice a7 (V.length + 1) c7)) w12 ∧ (∀ k ∈ dfoot tb mb pb (.slice a12 (n + 1) c12) (.slice a7 (V.length + 1) c7), k < B2 ∨ E ≤ k) ∧ IterAt w12 B2 E ib (k + 1) ns ∧ E ≤ w12.heap.size) := by
              unfold Hid
              rw [htk]
              exact ⟨by rw [List.length_cons, ← hn1h.out], hD12, hM12', hfl12, hit12, hE12⟩
            clear hfl12 hit12 hE12 hM12' htk hD12 hM12 hpush hM11h hit11h hE11
            go_wp2_with fail
            go_roundg (ns.length - (k + 1))
            case measure => have := hgih.out; omega
            case rel => exact ⟨k + 1, a12, n + 1, c12, by omega, rfl, hfin.out.1, by have := hn2h.out; omega, hfin.out.2⟩
          · have hd : decide (k < ns.length) = false := decide_eq_false hlt
            have hkn : k = ns.length := by omega
            subst hkn
            go_wp2_with fail
            refine (unhide hnext).mono ?_
            rintro e w9 ⟨rfl, hg9, _⟩
            have hibn : ib ∉ dfoot tb mb pb (.slice a n c) (.slice a7 (V.length + 1) c7) := fun h => by have := hflh.out ib h; omega
            have hD9 := hDh.out.same (fun j hj => hg9.block j (hDh.out.footlt j hj) (fun e => by injection e with e; exact hibn (e ▸ hj))) hg9.size
            have hM9 := hMh.out.grown hg9 (fun q e => by injection e with e; omega)
            have hvs : DInv (succOf ids outs) u (V ++ [y]) (ns.reverse ++ S) := by have := hvish.out; rw [hsucc.out] at this; exact this
            have hl9 : n = (ns.reverse ++ S).length := by have := hn1h.out; rwa [List.take_length] at this
            rw [List.take_length] at hD9
            have hO9 : y :: (V.reverse ++ O) = (V ++ [y]).reverse ++ O := by simp
            have hV9 : (V ++ [y]).length = V.length + 1 := by simp
            rw [hO9] at hD9
            have hfin : Hid (DfsAt w9 ids A B tb mb pb .nilFunc .nilFunc 50 85 nodev ((V ++ [y]).reverse ++ O) (ns.reverse ++ S) (V ++ [y]) (.slice a n c) (.slice a7 (V ++ [y]).length c7) ∧ Moves F0 w (dfoot tb mb pb (.slice a n c) (.slice a7 (V ++ [y]).length c7)) w9) := by
              unfold Hid
              rw [hV9]
              exact ⟨hD9, hM9⟩
            have hvsh := Lib.hid hvs
            have hl9h := Lib.hid hl9
            have hlen9 : Hid ((V ++ [y]).length = V.length + 1) := hV9
            clear hg9 hnext hibn hD9 hM9 hvs hl9 hO9 hV9 hDh hMh
            go_wp2_with fail
            go_roundg (n + 1001 * (ids.length - (V.length + 1)))
            case measure => have := hgkh.out; have := hn2h.out; omega
            case rel => exact ⟨ns.reverse ++ S, V ++ [y], a, n, c, a7, c7, hl9h.out, by have := hnbh.out; have := hn2h.out; have := hlen9.out; omega, by rw [hlen9.out], hvsh.out, hfin.out.1, hfin.out.2⟩
end Go.Proofs.YthpjmjohdliohaaGreat
