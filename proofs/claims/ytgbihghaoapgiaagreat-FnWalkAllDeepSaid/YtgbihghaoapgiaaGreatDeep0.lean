/- laws.open; what the walks depth first are worth to the law. -/
import Derived.Test.YtgbihghaoapgiaaGreatDfsImpl
import Derived.Test.YtgbihghaoapgiaaGreatLaws2
import Derived.Deep.RegionHeld3
import Derived.Deep.RegionLaw
namespace Go.Proofs.YtgbihghaoapgiaaGreat
open Go.RowKit

/-- Whether a node has an edge to one that is not in a list. -/
def openB (g : Gr) (u : Int) (l : List Int) : Bool := g.nodes.any fun y => arcB g u y && !decide (y ∈ l)

theorem openB_true {g : Gr} {u : Int} {l : List Int} : openB g u l = true ↔ ∃ y ∈ g.nodes, arcB g u y = true ∧ y ∉ l := by
  unfold openB
  simp [List.any_eq_true]

section
variable {g : Gr} {V : List Int}

/-- The place from which a walk depth first goes on. -/
theorem deep_last (hok : okGraph g = true) (hV : DeepL (gSucc g) V) (hnd : V.Nodup) (hm : ∀ x ∈ V, x ∈ g.nodes) {i : Nat} (hi : i < V.length) (h0 : 0 < i) {t : Nat} (hlast : ∀ s (hs : s < i), t ≤ s → openB g (V[s]'(by omega)) (V.take i) = false) :
    V[i] ∉ V.take i ∧ 0 < t ∧ ∀ (h1 : t - 1 < i), openB g (V[t - 1]'(by omega)) (V.take i) = true → arcB g (V[t - 1]'(by omega)) V[i] = true := by
  obtain ⟨j, hj, h1, h2⟩ := hV i hi h0
  have hn : V[i] ∉ V.take i := fun h => by
    obtain ⟨k, hk, e⟩ := List.mem_iff_getElem.1 h
    rw [List.length_take] at hk
    rw [List.getElem_take] at e
    have := (List.getElem_inj hnd).1 e
    omega
  have hjm : V[j]'(by omega) ∈ g.nodes := hm _ (List.getElem_mem _)
  have harc := (gSucc_mem hok hjm).1 h1
  have hjo : openB g (V[j]'(by omega)) (V.take i) = true := openB_true.2 ⟨V[i], harc.1, harc.2, hn⟩
  have hjt : j < t := by
    rcases Nat.lt_or_ge j t with h | h
    · exact h
    · have := hlast j hj h
      rw [hjo] at this; cases this
  refine ⟨hn, by omega, fun h3 h4 => ?_⟩
  have e : j = t - 1 := by
    rcases Nat.lt_or_ge j (t - 1) with h | h
    · exfalso
      obtain ⟨y, hy1, hy2, hy3⟩ := openB_true.1 h4
      exact hy3 (h2 (t - 1) h3 h y ((gSucc_mem hok (hm _ (List.getElem_mem _))).2 ⟨hy1, hy2⟩))
    · omega
  subst e
  exact harc.2
end

theorem cells_take {w : World} {a : Option Addr} {zs : List Int} (h : Cells w a (ints zs)) (i : Nat) : Cells w a (ints (zs.take i)) := by
  rcases Nat.eq_zero_or_pos (zs.take i).length with e | e
  · rw [List.eq_nil_of_length_eq_zero e]; exact .inl rfl
  · have hl : 0 < (ints zs).length := by rw [ints_length]; rw [List.length_take] at e; omega
    obtain ⟨b, off, rfl, hb, hr⟩ := h.at hl
    refine Cells.mk hb fun j u hj => hr j u ?_
    unfold ints at hj ⊢
    rw [List.getElem?_map, List.getElem?_take] at hj
    rw [List.getElem?_map]
    split at hj
    · exact hj
    · cases hj

set_option maxRecDepth 100000 in
set_option maxHeartbeats 4000000 in
theorem lopen_any (g : Gr) (an : Option Addr) (cn : Nat) (ae : Option Addr) (ce : Nat) (u : Int) (al : Option Addr) (n cl : Nat) (l : List Int) (w : World) (hn : g.nodes.length ≤ 1000) (he : g.edges.length ≤ 1048576) (hg : GrAt w g an cn ae) (hl : n = l.length) (hl2 : n ≤ 1000) (hc : Cells w al (ints l)) :
    Calls Tryz.prog 24 #[.agg #[.bool g.dir, .slice an g.nodes.length cn, .slice ae g.edges.length ce], .int .i64 u, .slice al n cl] w fun e w' => e = .returned (.bool (openB g u l)) ∧ Below w.heap.size w w' := by
  obtain ⟨w1, hw1⟩ : ∃ w1, w1 = w.alloc (.cells #[.bool g.dir, .slice an g.nodes.length cn, .slice ae g.edges.length ce] 25) := ⟨_, rfl⟩
  have hb1 : Below w.heap.size w w1 := by rw [hw1]; exact alloc_below w _
  have hz1 : w1.heap.size = w.heap.size + 1 := by rw [hw1]; simp
  have k0 : w1.cell? ⟨w.heap.size, 0, none⟩ = some (.bool g.dir) := by rw [hw1]; simp
  have k1 : w1.cell? ⟨w.heap.size, 1, none⟩ = some (.slice an g.nodes.length cn) := by rw [hw1]; simp
  have k2 : w1.cell? ⟨w.heap.size, 2, none⟩ = some (.slice ae g.edges.length ce) := by rw [hw1]; simp
  have hK : Hid (∀ wr, Below w1.heap.size w1 wr → (Below w.heap.size w wr ∧ GrAt wr g an cn ae ∧ Cells wr al (ints l)) ∧ wr.cell? ⟨w.heap.size, 0, none⟩ = some (.bool g.dir) ∧ wr.cell? ⟨w.heap.size, 1, none⟩ = some (.slice an g.nodes.length cn) ∧ wr.cell? ⟨w.heap.size, 2, none⟩ = some (.slice ae g.edges.length ce)) :=
    fun wr h => ⟨⟨hb1.trans (h.mono (by omega)), (hg.below hb1).below h, (hc.below hb1).below h⟩, cell_below h k0, cell_below h k1, cell_below h k2⟩
  have hw1h := Lib.hid hw1
  have hlh := Lib.hid hl
  clear hg hb1 hw1 k0 k1 k2 hc hl
  go_enter Tryz.func24, Tryz.ntmps24
  go_wp2_with fail
  rw [← hw1h.out]
  go_loopw [7] (fun kv wr => ∃ k : Nat, k ≤ g.nodes.length ∧ kv = .int .i64 k ∧ Below w1.heap.size w1 wr ∧ ∀ j (hj : j < g.nodes.length), j < k → (arcB g u g.nodes[j] && !decide (g.nodes[j] ∈ l)) = false) (fun kv _ => g.nodes.length - (intOf kv).toNat)
  case atStart => exact ⟨0, Nat.zero_le _, rfl, Below.refl _ _, fun j _ h => absurd h (Nat.not_lt_zero j)⟩
  case round =>
    obtain ⟨k, hk, rfl, hb, hno⟩ := hrel
    obtain ⟨⟨hbw, hgr, hcr⟩, d0, d1, d2⟩ := hK.out wr hb
    by_cases hlt : k < g.nodes.length
    · obtain ⟨b, off, rfl, _, hr⟩ := hgr.nodes.at (by rw [ints_length]; omega)
      have x0 := hr _ _ (ints_get g.nodes k hlt)
      obtain ⟨y, hy⟩ : ∃ y, y = g.nodes[k] := ⟨_, rfl⟩
      rw [← hy] at x0
      have hC : Hid (∀ W, Below wr.heap.size wr W → W.cell? ⟨w.heap.size, 0, none⟩ = some (.bool g.dir) ∧ W.cell? ⟨w.heap.size, 1, none⟩ = some (.slice (some ⟨b, off, none⟩) g.nodes.length cn) ∧ W.cell? ⟨w.heap.size, 2, none⟩ = some (.slice ae g.edges.length ce) ∧ W.cell? ⟨b, off + k, none⟩ = some (.int .i64 y)) := fun W hW =>
        ⟨cell_below hW d0, cell_below hW d1, cell_below hW d2, cell_below hW x0⟩
      have harc : Hid (∀ W, Below wr.heap.size wr W → Calls Tryz.prog 25 #[.agg #[.bool g.dir, .slice (some ⟨b, off, none⟩) g.nodes.length cn, .slice ae g.edges.length ce], .int .i64 u, .int .i64 y] W fun e w' => e = .returned (.bool (arcB g u y)) ∧ Below wr.heap.size wr w') := fun W hW =>
        (arc_any g _ cn ae ce u y W he (hgr.below hW)).mono fun e w' ⟨h1, h2⟩ => ⟨h1, hW.trans (h2.mono hW.size)⟩
      have hhas : Hid (∀ W, Below wr.heap.size wr W → Calls Tryz.prog 11 #[.slice al n cl, .int .i64 y] W fun e w' => e = .returned (.bool (decide (y ∈ l))) ∧ W = w') := fun W hW =>
        has_any al n cl l y W hlh.out (by have := hlh.out; omega) (hcr.below hW)
      obtain ⟨t, ht⟩ : ∃ t, t = arcB g u y := ⟨_, rfl⟩
      obtain ⟨s, hs⟩ : ∃ s, s = decide (y ∈ l) := ⟨_, rfl⟩
      rw [← ht] at harc
      rw [← hs] at hhas
      have hnx : Hid ((t && !s) = false → ∀ j (hj : j < g.nodes.length), j < k + 1 → (arcB g u g.nodes[j] && !decide (g.nodes[j] ∈ l)) = false) := fun h j hj hjk => by
        by_cases e : j = k
        · subst e; rw [← hy, ← ht, ← hs]; exact h
        · exact hno j hj (by omega)
      have hye : Hid ((t && !s) = true → openB g u l = true) := fun h => List.any_eq_true.2 ⟨y, by rw [hy]; exact List.getElem_mem hlt, by rw [← ht, ← hs]; exact h⟩
      have hbh := Lib.hid hb
      have hbwh := Lib.hid hbw
      have hbr : Hid (∀ W, Below wr.heap.size wr W → Below w1.heap.size w1 W ∧ Below w.heap.size w W) := fun W hW => ⟨hbh.out.trans (hW.mono hbh.out.size), hbwh.out.trans (hW.mono hbwh.out.size)⟩
      clear hr hy ht hs hno hb hbw hgr hcr
      go_wp2_with fail
      cases t
      · first
          | (go_region_law (go_simp; go_at_call 25; ((with_reducible refine (harc.out _ (by repeat (first | exact Below.refl _ _ | refine Below.drew ?_))).mono ?_)); rintro e w6 ⟨rfl, hb6⟩; obtain ⟨s0, s1, s2, s3⟩ := hC.out w6 hb6))
          | fail
        all_goals
          go_wp2_with fail
          go_roundw
          case rel => exact ⟨k + 1, by omega, by go_num, (hbr.out _ hb6).1, hnx.out rfl⟩
          case measure => simp [intOf]; omega
      · cases s
        · go_region_held3 (fun w' => w'.cell? ⟨w.heap.size, 0, none⟩ = some (.bool g.dir) ∧ w'.cell? ⟨w.heap.size, 1, none⟩ = some (.slice (some ⟨b, off, none⟩) g.nodes.length cn) ∧ w'.cell? ⟨w.heap.size, 2, none⟩ = some (.slice ae g.edges.length ce) ∧ w'.cell? ⟨b, off + k, none⟩ = some (.int .i64 y)) (go_keep) (first
            | (go_at_call 25; ((with_reducible refine (harc.out _ (by repeat (first | exact Below.refl _ _ | refine Below.drew ?_))).mono ?_)); rintro e w6 ⟨rfl, hb6⟩; obtain ⟨s0, s1, s2, s3⟩ := hC.out w6 hb6)
            | (go_at_call 11; ((with_reducible refine (hhas.out _ hb6).mono ?_)); rintro e w7 ⟨rfl, rfl⟩))
          all_goals
            go_wp2_with fail
            go_ret
            exact ⟨by rw [hye.out rfl]; rfl, (hbr.out _ hb6).2⟩
        · go_region_held3 (fun w' => w'.cell? ⟨w.heap.size, 0, none⟩ = some (.bool g.dir) ∧ w'.cell? ⟨w.heap.size, 1, none⟩ = some (.slice (some ⟨b, off, none⟩) g.nodes.length cn) ∧ w'.cell? ⟨w.heap.size, 2, none⟩ = some (.slice ae g.edges.length ce) ∧ w'.cell? ⟨b, off + k, none⟩ = some (.int .i64 y)) (go_keep) (first
            | (go_at_call 25; ((with_reducible refine (harc.out _ (by repeat (first | exact Below.refl _ _ | refine Below.drew ?_))).mono ?_)); rintro e w6 ⟨rfl, hb6⟩; obtain ⟨s0, s1, s2, s3⟩ := hC.out w6 hb6)
            | (go_at_call 11; ((with_reducible refine (hhas.out _ hb6).mono ?_)); rintro e w7 ⟨rfl, rfl⟩))
          all_goals
            go_wp2_with fail
            go_roundw
            case rel => exact ⟨k + 1, by omega, by go_num, (hbr.out _ hb6).1, hnx.out rfl⟩
            case measure => simp [intOf]; omega
    · have hfin : Hid (openB g u l = false) := by
        refine List.any_eq_false.2 fun y hy => ?_
        obtain ⟨j, hj, rfl⟩ := List.mem_iff_getElem.1 hy
        rw [hno j hj (by omega)]; simp
      have hbwh := Lib.hid hbw
      clear hno hb hbw hgr hcr
      go_wp2_with fail
      go_ret
      exact ⟨by rw [hfin.out]; rfl, hbwh.out⟩
end Go.Proofs.YtgbihghaoapgiaaGreat
