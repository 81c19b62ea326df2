/- The definitions (spec): hasInt, reached. -/
import Derived.Test.YtpmphefmmcbpaaaGreatSpec1
import Derived.Test.YtpmphefmmcbpaaaGreatTarjanLaw
import Derived.Deep.LoopGhost
namespace Go.Proofs.YtpmphefmmcbpaaaGreat
open Go.RowKit

set_option maxHeartbeats 400000 in
theorem hasI_any (a : Option Addr) (n cap : Nat) (zs : List Int) (x : Int) (w : World) (hl : n = zs.length) (hbig : zs.length ≤ 1048576) (hc : Cells w a (ints zs)) :
    Calls Tryz.prog 68 #[.slice a n cap, .int .i64 x] w fun e w' => e = .returned (.bool (decide (x ∈ zs))) ∧ w = w' := by
  subst hl
  go_enter Tryz.func68, Tryz.ntmps68
  go_wp2
  go_loopw [6, 9] (fun _ i wr => ∃ k : Nat, k ≤ zs.length ∧ i = .int .i64 k ∧ wr = w ∧ ∀ j (hj : j < zs.length), j < k → zs[j] ≠ x) (fun _ i _ => zs.length - (intOf i).toNat)
  case atStart => exact ⟨0, Nat.zero_le _, rfl, rfl, fun j _ hj => absurd hj (Nat.not_lt_zero _)⟩
  case round =>
    obtain ⟨k, hk, rfl, rfl, H0⟩ := hrel
    have H := Lib.hid H0
    clear H0
    by_cases hlt : k < zs.length
    · obtain ⟨b, off, rfl, _, hr⟩ := hc.at (by simp; omega)
      have hcell := ints_cell hr hlt
      clear hr hc
      by_cases he : zs[k] = x
      · have hfin : Hid (decide (x ∈ zs) = true) := decide_eq_true (by rw [← he]; exact List.getElem_mem hlt)
        have he' : (zs[k] == x) = true := by simpa using he
        clear he
        go_wp2
        go_ret
        exact ⟨ret_bool hfin.out.symm, rfl⟩
      · have hnext : Hid (∀ j (hj : j < zs.length), j < k + 1 → zs[j] ≠ x) := fun j hl hj => by
          rcases Nat.lt_or_eq_of_le (Nat.le_of_lt_succ hj) with h | h
          · exact H.out j hl h
          · subst h; exact he
        have he' : (zs[k] == x) = false := by simpa using he
        clear he
        go_wp2
        go_roundw
        case rel => exact ⟨k + 1, by omega, by go_num, by first | rfl | trivial, hnext.out⟩
        case measure => simp [intOf]; omega
    · have hfin : Hid (decide (x ∈ zs) = false) := decide_eq_false fun hm => by
        obtain ⟨j, hj, e⟩ := List.mem_iff_getElem.1 hm
        exact H.out j hj (by omega) e
      go_wp2
      go_ret
      exact ⟨ret_bool hfin.out.symm, rfl⟩

/-- A row that is read, apart from one that grows. -/
def RdOne (w : World) (lb : Nat) (al : Option Addr) (l : List Int) (sa : Value) : Prop :=
  l = [] ∨ (al = some ⟨lb, 0, none⟩ ∧ w.rangeAt lb 0 (ints l) ∧ lb < w.heap.size ∧ sa.ownBlock ≠ some lb)

theorem RdOne.keep {w w1 : World} {lb : Nat} {al : Option Addr} {l : List Int} {sa : Value} (h : RdOne w lb al l sa) (hb : Below w.heap.size w w1) : RdOne w1 lb al l sa := by
  rcases h with h | ⟨h1, h2, h3, h4⟩
  · exact .inl h
  · exact .inr ⟨h1, rangeAt_below h2 hb h3, Nat.lt_of_lt_of_le h3 hb.size, h4⟩

theorem RdOne.grown {w w1 : World} {lb : Nat} {al : Option Addr} {l : List Int} {sa sa' : Value} (h : RdOne w lb al l sa) (hg : w.grownBy w1 sa.ownBlock) (ha : ∀ j, sa'.ownBlock = some j → sa.ownBlock = some j ∨ w.heap.size ≤ j) : RdOne w1 lb al l sa' := by
  rcases h with h | ⟨h1, h2, h3, h4⟩
  · exact .inl h
  · refine .inr ⟨h1, fun j u hj => ?_, Nat.lt_of_lt_of_le h3 hg.size, fun e => ?_⟩
    · rw [World.cell?_of_block (hg.block lb h3 (fun e => h4 e.symm))]; exact h2 j u hj
    · rcases ha lb e with e' | e'
      · exact h4 e'
      · omega

/-- What has been reached, of which the first i were gone from. -/
structure RS (s : Int → List Int) (u : Int) (i : Nat) (F : List Int) : Prop where
  nd : F.Nodup
  start : u ∈ F
  reach : ∀ x ∈ F, Reach s u x
  shut : ∀ j (hj : j < F.length), j < i → ∀ y ∈ s F[j], y ∈ F

theorem RS.new (s : Int → List Int) (u : Int) : RS s u 0 [u] := ⟨by simp, by simp, fun x hx => by rw [List.mem_singleton.1 hx]; exact .refl, fun j _ h => absurd h (Nat.not_lt_zero j)⟩

theorem RS.more {s : Int → List Int} {u : Int} {i : Nat} {F : List Int} (h : RS s u i F) (hi : i ≤ F.length) {t x : Int} (ht : t ∈ F) (hx : x ∈ s t) (hn : x ∉ F) : RS s u i (F ++ [x]) := by
  refine ⟨?_, List.mem_append_left _ h.start, fun y hy => ?_, fun j hj hji y hy => ?_⟩
  · rw [List.nodup_append]
    exact ⟨h.nd, by simp, fun a ha b hb e => hn (by rw [List.mem_singleton.1 hb] at e; exact e ▸ ha)⟩
  · rcases List.mem_append.1 hy with hy | hy
    · exact h.reach y hy
    · rw [List.mem_singleton.1 hy]; exact (h.reach t ht).step hx
  · rw [List.getElem_append_left (by omega)] at hy
    exact List.mem_append_left _ (h.shut j (by omega) hji y hy)

theorem RS.next {s : Int → List Int} {u : Int} {i : Nat} {F : List Int} (h : RS s u i F) (hi : i < F.length) (hs : ∀ y ∈ s F[i], y ∈ F) : RS s u (i + 1) F :=
  ⟨h.nd, h.start, h.reach, fun j hj hji y hy => by
    rcases Nat.lt_or_eq_of_le (Nat.le_of_lt_succ hji) with e | e
    · exact h.shut j hj e y hy
    · subst e; exact hs y hy⟩

theorem RS.all {s : Int → List Int} {u : Int} {F : List Int} (h : RS s u F.length F) {x : Int} (hx : Reach s u x) : x ∈ F := by
  induction hx with
  | refl => exact h.start
  | step _ hy ih =>
    obtain ⟨j, hj, e⟩ := List.mem_iff_getElem.1 ih
    exact h.shut j hj hj _ (by rw [e]; exact hy)

theorem sReach {g : Gr} {u : Int} (hu : u ∈ g.nodes) : ∀ x, Reach (sFrom g) u x → x ∈ asc g.nodes := fun x r => by
  induction r with
  | refl => exact asc_mem.2 hu
  | step _ hy _ => exact (List.mem_filter.1 hy).1

/-- What reached gives. -/
def ReachedPost (w : World) (g : Gr) (u : Int) (e : Ending) (w' : World) : Prop :=
  ∃ (R : List Int) (a : Option Addr) (c : Nat), R.Nodup ∧ (∀ x, x ∈ R ↔ Reach (sFrom g) u x) ∧ R.length ≤ 1000 ∧ e = .returned (.slice a R.length c) ∧ w'.ownsRow w.heap.size 3 1 (.slice a R.length c) R.length (ints (asc R)) ∧ Below w.heap.size w w'

set_option linter.unusedSimpArgs false in
set_option maxRecDepth 100000 in
set_option maxHeartbeats 4000000 in
theorem reached_any (g : Gr) (an : Option Addr) (cn : Nat) (ae : Option Addr) (ce : Nat) (u : Int) (w : World) (hn : g.nodes.length ≤ 1000) (he : g.edges.length ≤ 1048576) (hg : GrAt w g an cn ae) (hu : u ∈ g.nodes) :
    Calls Tryz.prog 69 #[.agg #[.bool g.dir, .slice an g.nodes.length cn, .slice ae g.edges.length ce], .int .i64 u] w (ReachedPost w g u) := by
  obtain ⟨w1, hw1⟩ : ∃ w1, w1 = w.alloc (.cells #[.bool g.dir, .slice an g.nodes.length cn, .slice ae g.edges.length ce] 25) := ⟨_, rfl⟩
  obtain ⟨w3, hw3⟩ : ∃ w3, w3 = w1.alloc (.cells #[.int .i64 u] 3) := ⟨_, rfl⟩
  have hb1 : Below w.heap.size w w1 := by rw [hw1]; exact alloc_below w _
  have hz1 : w1.heap.size = w.heap.size + 1 := by rw [hw1]; simp
  have k0 : w1.cell? ⟨w.heap.size, 0, none⟩ = some (.bool g.dir) := by rw [hw1]; simp
  have k1 : w1.cell? ⟨w.heap.size, 1, none⟩ = some (.slice an g.nodes.length cn) := by rw [hw1]; simp
  have k2 : w1.cell? ⟨w.heap.size, 2, none⟩ = some (.slice ae g.edges.length ce) := by rw [hw1]; simp
  have hK : Hid (∀ wr, Below (w.heap.size + 1) w1 wr → (Below w.heap.size w wr ∧ GrAt wr g an cn ae) ∧ wr.cell? ⟨w.heap.size, 0, none⟩ = some (.bool g.dir) ∧ wr.cell? ⟨w.heap.size, 1, none⟩ = some (.slice an g.nodes.length cn) ∧ wr.cell? ⟨w.heap.size, 2, none⟩ = some (.slice ae g.edges.length ce)) :=
    fun wr h => by
      have h' : Below w1.heap.size w1 wr := by rw [hz1]; exact h
      exact ⟨⟨hb1.trans (h.mono (by omega)), (hg.below hb1).below h'⟩, cell_below h' k0, cell_below h' k1, cell_below h' k2⟩
  have hF3 : w3.ownsRow (w.heap.size + 1) 3 1 (.slice (some ⟨w.heap.size + 1, 0, none⟩) 1 1) 1 (ints [u]) ∧ Below (w.heap.size + 1) w1 w3 := by
    have ha := World.ownsRow_lit (base := w.heap.size + 1) (e := 3) (size := 1) w1 #[.int .i64 u] 1 (by omega) (by unfold maxLen; omega) rfl
    rw [hz1] at ha
    rw [hw3]
    exact ⟨ha, by rw [← hz1]; exact alloc_below w1 _⟩
  have hw3h : Hid (w3 = (w.alloc (.cells #[.bool g.dir, .slice an g.nodes.length cn, .slice ae g.edges.length ce] 25)).alloc (.cells #[.int .i64 u] 3)) := by unfold Hid; rw [hw3, hw1]
  have hF3h := Lib.hid hF3
  have hreach := Lib.hid (sReach hu)
  have hal := asc_length g.nodes
  obtain ⟨N, hN⟩ : ∃ N, N = g.nodes.length := ⟨_, rfl⟩
  have hlen : Hid (∀ (F : List Int), F.Nodup → (∀ x ∈ F, Reach (sFrom g) u x) → F.length ≤ N) := fun F h1 h2 => by
    have := nodup_len h1 (fun x hx => sReach hu x (h2 x hx))
    omega
  have hN1 : 1 ≤ N := by rw [hN]; exact List.length_pos_of_mem hu
  have hNh := Lib.hid hN
  rw [← hN] at hn
  clear hg hb1 hw1 hw3 k0 k1 k2 hF3 hu hal hN
  go_enter Tryz.func69, Tryz.ntmps69
  go_wp2_with fail
  rw [← hw3h.out]
  go_loopg [5, 6, 8] (N) (fun gk s5 s6 _ wr => ∃ (i : Nat) (F : List Int) (ba : Option Addr) (m ca : Nat), s5 = .slice ba m ca ∧ s6 = .int .i64 i ∧ gk = N - i ∧ m = F.length ∧ m ≤ N ∧ i ≤ m ∧ RS (sFrom g) u i F ∧ wr.ownsRow (w.heap.size + 1) 3 1 (.slice ba m ca) m (ints F) ∧ Below (w.heap.size + 1) w1 wr)
  case atStart => exact ⟨0, [u], _, 1, 1, rfl, rfl, rfl, rfl, hN1, Nat.zero_le _, RS.new _ u, hF3h.out.1, hF3h.out.2⟩
  case round =>
    clear hF3h
    obtain ⟨i, F, ba, m, ca, rfl, rfl, hgk, hm, hmN, him, hI, hF, hb⟩ := hrel
    obtain ⟨⟨hbw, hgr⟩, d0, d1, d2⟩ := hK.out wr hb
    by_cases hlt : i < m
    · obtain ⟨t, ht⟩ : ∃ t, t = F[i]'(by omega) := ⟨_, rfl⟩
      have htF : t ∈ F := by rw [ht]; exact List.getElem_mem _
      obtain ⟨fb, rfl, hfB, _, hfcap⟩ := owns_at hF (by omega)
      have x0 : wr.cell? ⟨fb, i, none⟩ = some (.int .i64 t) := owns_cell hF (by rw [ht]; exact ints_get F i (by omega))
      have hfrom := Lib.hid fun (W : World) (hW : Below wr.heap.size wr W) => specFrom_any g an cn ae ce t W (by rw [← hNh.out]; exact hn) he (hgr.below hW)
      have hIh := Lib.hid hI
      have hFh := Lib.hid hF
      have hbh := Lib.hid hb
      have hmh := Lib.hid hm
      have hgkh := Lib.hid hgk
      have hth : Hid (F[i]? = some t) := by unfold Hid; rw [ht]; exact List.getElem?_eq_getElem _
      clear hgr hbw hI hF hb hm hgk htF ht
      go_wp2_with fail
      go_cut [22, 23, 24] from 17 to 24 (fun s28 s29 s30 wx => ∃ (al : Option Addr) (cl : Nat), s28 = .slice al (sFrom g t).length cl ∧ s29 = .int .i64 ((sFrom g t).length : Nat) ∧ s30 = .int .i64 0 ∧ wx.ownsRow wr.heap.size 3 1 (.slice al (sFrom g t).length cl) (sFrom g t).length (ints (sFrom g t)) ∧ Below wr.heap.size wr wx)
      case first =>
        have hput := Lib.hid fun (w6 : World) (hb : Below wr.drew.heap.size wr.drew w6) => show Below wr.heap.size wr w6 from (drew_below wr).trans hb
        go_region_law (go_simp; go_at_call 47; ((with_reducible refine (hfrom.out _ (by repeat (first | exact Below.refl _ _ | refine Below.drew ?_))).mono ?_)); rintro e w6 ⟨al, cl, rfl, hown6, hb6⟩)
        all_goals
          go_wp2_with fail
          go_meet
          exact ⟨al, cl, rfl, rfl, rfl, hown6, hput.out _ hb6⟩
      case rest =>
      obtain ⟨al, cl, rfl, rfl, rfl, hownl, hbc⟩ := hcut
      obtain ⟨l, hl⟩ : ∃ l, l = sFrom g t := ⟨_, rfl⟩
      have hll : l.length ≤ 1000 := by
        have h1 : (sFrom g t).length ≤ (asc g.nodes).length := List.length_filter_le _ _
        have h2 := asc_length g.nodes
        have h3 := hNh.out
        rw [hl]
        omega
      rw [← hl] at hownl ⊢
      have hlh := Lib.hid hl
      have hRd : ∃ lb, RdOne wc lb al l (.slice (some ⟨fb, 0, none⟩) m ca) := by
        rcases Nat.eq_zero_or_pos l.length with h0 | h0
        · exact ⟨0, .inl (List.eq_nil_of_length_eq_zero h0)⟩
        · obtain ⟨lb, h1, h2, h3, _⟩ := owns_at hownl h0
          refine ⟨lb, .inr ⟨h1, fun j y hj => ?_, h3, fun e => ?_⟩⟩
          · rw [Nat.zero_add]
            subst h1
            exact owns_cell hownl hj
          · have := (hFh.out.lt lb e).2; omega
      obtain ⟨lb, hRd⟩ := hRd
      have hF4 : wc.ownsRow (w.heap.size + 1) 3 1 (.slice (some ⟨fb, 0, none⟩) m ca) m (ints F) := owns_same hFh.out fun j hj => hbc.block j (hFh.out.lt j hj).2
      have hb4 := hbh.out.trans (hbc.mono (by have := (hFh.out.lt fb rfl); omega))
      clear hownl hbc hfrom hFh hbh x0 d0 d1 d2 hl
      go_wp2_with fail
      go_loopg [5, 8, 24] (l.length) (fun gi s5 _ s24 wi => ∃ (k : Nat) (F : List Int) (ba : Option Addr) (m ca : Nat), k ≤ l.length ∧ s5 = .slice ba m ca ∧ s24 = .int .i64 k ∧ gi = l.length - k ∧ m = F.length ∧ m ≤ N ∧ i < m ∧ F[i]? = some t ∧
        RS (sFrom g) u i F ∧ (∀ y ∈ l.take k, y ∈ F) ∧ wi.ownsRow (w.heap.size + 1) 3 1 (.slice ba m ca) m (ints F) ∧ Below (w.heap.size + 1) w1 wi ∧ RdOne wi lb al l (.slice ba m ca))
      case atStart => exact ⟨0, F, _, m, ca, Nat.zero_le _, rfl, rfl, rfl, hmh.out, hmN, hlt, hth.out, hIh.out, by simp, hF4, hb4, hRd⟩
      case round =>
        clear hF4 hb4 hRd hIh hmh hmN hlt hth hfcap hfB him
        obtain ⟨k, F, ba, m, ca, hk, rfl, rfl, hgi, hm, hmN, him, ht, hR, hT, hF, hb, hRd⟩ := hrel
        have hgih := Lib.hid hgi
        have hmh := Lib.hid hm
        have hRh := Lib.hid hR
        have hFh := Lib.hid hF
        have hbh := Lib.hid hb
        have hRdh := Lib.hid hRd
        have hTh := Lib.hid hT
        have hth := Lib.hid ht
        clear hgi hm hR hF hRd hb hT ht
        by_cases hlt : k < l.length
        · obtain ⟨h1, h2, h3, h4⟩ := hRdh.out.resolve_left (fun e => by rw [e] at hlt; simp at hlt)
          have x1 : wr.cell? ⟨lb, k, none⟩ = some (.int .i64 l[k]) := by
            have := h2 _ _ (ints_get l k hlt)
            rwa [Nat.zero_add] at this
          obtain ⟨x, hx⟩ : ∃ x, x = l[k] := ⟨_, rfl⟩
          rw [← hx] at x1
          have hxs : Hid (x ∈ sFrom g t) := by unfold Hid; rw [← hlh.out, hx]; exact List.getElem_mem hlt
          have htk : Hid (l.take (k + 1) = l.take k ++ [x]) := by unfold Hid; rw [List.take_succ_eq_append_getElem hlt, ← hx]
          subst h1
          obtain ⟨fb, rfl, hfB, hfw, hfcap⟩ := owns_at hFh.out (by omega)
          obtain ⟨ax, cx, ex, _, hcx, _⟩ := owns_cells hFh.out
          injection ex with ex1 _ ex2
          subst ex1; subst ex2
          have hhas := Lib.hid (hasI_any (some ⟨fb, 0, none⟩) m ca F x wr hmh.out (by have := hmh.out; omega) hcx)
          obtain ⟨q, hq⟩ : ∃ q, q = decide (x ∈ F) := ⟨_, rfl⟩
          rw [← hq] at hhas
          have hqh := Lib.hid hq
          clear h2 h3 h4 hx hcx hq
          go_wp2_with fail
          refine (unhide hhas).mono ?_
          rintro e w5 ⟨rfl, rfl⟩
          cases q
          · have hin : x ∉ F := of_decide_eq_false hqh.out.symm
            have hiF : i < F.length := by rw [← hmh.out]; exact him
            have htF : t ∈ F := List.mem_of_getElem? hth.out
            have hR2 := hRh.out.more (Nat.le_of_lt hiF) htF hxs.out hin
            have hmN2 : m + 1 ≤ N := by
              have h1 := hlen.out _ hR2.nd hR2.reach
              have h2 := hmh.out
              simp at h1
              omega
            have hwz : w.heap.size + 1 ≤ wr.heap.size := by have := (hFh.out.lt fb rfl); omega
            have ho := Lib.hid (fun o => hFh.out.alloc o)
            have hfin := Lib.hid (fun o b2 c2 w7 (h2 : w7.ownsRow (w.heap.size + 1) 3 1 (.slice b2 (m + 1) c2) (m + 1) (ints F ++ [.int .i64 x])) (hg : (wr.alloc o).grownBy w7 (Value.slice (some ⟨fb, 0, none⟩) m ca).ownBlock) (hat : b2 = some ⟨fb, 0, none⟩ ∨ b2 = some ⟨(wr.alloc o).heap.size, 0, none⟩) =>
              show m + 1 = (F ++ [x]).length ∧ (F ++ [x])[i]? = some t ∧ (∀ y ∈ l.take (k + 1), y ∈ F ++ [x]) ∧ w7.ownsRow (w.heap.size + 1) 3 1 (.slice b2 (m + 1) c2) (m + 1) (ints (F ++ [x])) ∧ Below (w.heap.size + 1) w1 w7 ∧ RdOne w7 lb (some ⟨lb, 0, none⟩) l (.slice b2 (m + 1) c2) from
                ⟨by rw [List.length_append, ← hmh.out]; rfl, by rw [List.getElem?_append_left hiF]; exact hth.out, fun y hy => by
                  rw [htk.out] at hy
                  rcases List.mem_append.1 hy with hy | hy
                  · exact List.mem_append_left _ (hTh.out y hy)
                  · exact List.mem_append_right _ hy, by unfold ints at h2 ⊢; rw [List.map_append]; exact h2, (hbh.out.alloc hwz o).grown hg (by simp; omega) (fun j e => (hFh.out.lt j e).1),
                  (hRdh.out.keep (alloc_below wr o)).grown hg (fun j hj => by
                    rcases hat with rfl | rfl
                    · left; exact hj
                    · right
                      have e : some (wr.alloc o).heap.size = some j := hj
                      injection e with e
                      omega)⟩)
            have hR2h := Lib.hid hR2
            clear hin hqh hhas x1 hR2 htF hiF
            go_wp2_with (at_builtin; refine append_law 22 3 (.int .i64 0) 1 8 Tryz.underlying22 info_int rfl (by omega) (by omega) rfl _ _ rfl (w.heap.size + 1) (some ⟨fb, 0, none⟩) m ca (ints F) rfl (unhide ho _) ⟨wr.heap.size, 0, none⟩ 1 1 [.int .i64 x] rfl rfl (new_one wr _ _) (one_int _) (by omega) (by simp; omega) ?_; intro b2 c2 w7 hown7 hg7 hat7; have hf := Lib.hid (unhide hfin _ _ _ _ hown7 hg7 hat7); clear hown7 hg7 hat7)
            go_roundg (l.length - (k + 1))
            case measure => have := hgih.out; omega
            case rel => exact ⟨k + 1, F ++ [x], b2, m + 1, c2, by omega, rfl, by go_num, rfl, hf.out.1, hmN2, by omega, hf.out.2.1, hR2h.out, hf.out.2.2.1, hf.out.2.2.2⟩
          · have hin : x ∈ F := of_decide_eq_true hqh.out.symm
            have hT2 : Hid (∀ y ∈ l.take (k + 1), y ∈ F) := fun y hy => by
              rw [htk.out] at hy
              rcases List.mem_append.1 hy with hy | hy
              · exact hTh.out y hy
              · rw [List.mem_singleton.1 hy]; exact hin
            clear hin hqh hhas x1
            go_wp2_with fail
            go_roundg (l.length - (k + 1))
            case measure => have := hgih.out; omega
            case rel => exact ⟨k + 1, F, _, m, ca, by omega, rfl, by go_num, rfl, hmh.out, hmN, him, hth.out, hRh.out, hT2.out, hFh.out, hbh.out, hRdh.out⟩
        · have hkl : k = l.length := by omega
          subst hkl
          have hiF : i < F.length := by rw [← hmh.out]; exact him
          have hget : F[i] = t := by have := hth.out; rw [List.getElem?_eq_getElem hiF] at this; injection this
          have hnx : Hid (RS (sFrom g) u (i + 1) F) := hRh.out.next hiF fun y hy => by
            rw [hget, ← hlh.out] at hy
            exact hTh.out y (by rw [List.take_length]; exact hy)
          clear hget hiF
          go_wp2_with fail
          go_roundg (N - (i + 1))
          case measure => have := hgkh.out; omega
          case rel => exact ⟨i + 1, F, ba, m, ca, rfl, by go_num, rfl, hmh.out, hmN, by omega, hnx.out, hFh.out, hbh.out⟩
    · have him2 : i = m := by omega
      obtain ⟨ax, cx, ex, _, hcx, _⟩ := owns_cells hF
      injection ex with ex1 _ ex2
      subst ex1; subst ex2
      have hso := Lib.hid (sortInts_any ba m ca F wr hm (by omega) hcx)
      have hI' : RS (sFrom g) u F.length F := by rw [← hm, ← him2]; exact hI
      have hIh := Lib.hid hI'
      have hmh := Lib.hid hm
      have hbwh := Lib.hid hbw
      clear hI hI' hF hb hbw hgr hcx hm hgk
      go_wp2_with fail
      refine (unhide hso).mono ?_
      rintro e w5 ⟨a1, c1, rfl, hown5, hb5⟩
      have hfin : Hid (ReachedPost w g u (.returned (.slice a1 m c1)) w5) := by
        have hm' := hmh.out
        rw [hm'] at hown5 ⊢
        exact ⟨F, a1, c1, hIh.out.nd, fun x => ⟨fun hx => hIh.out.reach x hx, fun hx => hIh.out.all hx⟩, by omega, rfl, owns_base hown5 hbwh.out.size, hbwh.out.trans (hb5.mono hbwh.out.size)⟩
      clear hown5 hb5
      go_wp2_with fail
      go_ret
      exact hfin.out
end Go.Proofs.YtpmphefmmcbpaaaGreat
