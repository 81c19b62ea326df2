/- impl.BreadthFirst: its closures. -/
import Derived.Test.YtpmphefmmcbpaaaGreatBw0
import Derived.Test.YtpmphefmmcbpaaaGreatNumbers
import Derived.Deep.RegionLaw
import Derived.Deep.AppendLies
namespace Go.Proofs.YtpmphefmmcbpaaaGreat
open Go.RowKit

theorem info_visit : (Tryz.prog.info? 37).map (fun i => (i.zero, i.size, i.bytes)) = some (some (.agg #[.int .i64 0, .int .i64 0]), 2, 16) := by kernel_rfl
theorem new_visit (w : World) (x y : Value) (e : TypeId) : ∀ (j : Nat) u, [x, y][j]? = some u → (w.alloc (.cells #[x, y] e)).cell? ((⟨w.heap.size, 0, none⟩ : Addr).add j) = some u := by
  intro j u hj
  rw [Addr.add_mid, Nat.zero_add]
  rcases j with _ | _ | j
  · simp at hj; subst hj; unfold World.cell?; rw [heap_alloc_new]; rfl
  · simp at hj; subst hj; unfold World.cell?; rw [heap_alloc_new]; rfl
  · simp at hj
theorem one_visit (x y : Int) : ∀ u ∈ [Value.int .i64 x, Value.int .i64 y], u.oneCell' = true := by
  intro u hu
  simp at hu
  rcases hu with rfl | rfl <;> rfl

/-- The function that notes a visit of impl.BreadthFirst. -/
def visitB (pb : Nat) : Value := .func (.func 42) #[] #[.pointer (some ⟨pb, 0, none⟩)]
/-- The function that sets a visit's depth, and says where a walk ends. -/
def untilB (pb ub : Nat) : Value := .func (.func 46) #[] #[.pointer (some ⟨pb, 0, none⟩), .pointer (some ⟨ub, 0, none⟩)]
theorem func_visitB (pb : Nat) (w : World) : (binOp .neq 73 (visitB pb) .nilFunc).run Tryz.prog w = .ok (.bool true) w := by unfold visitB; kernel_rfl
theorem func_untilB (pb ub : Nat) (w : World) : (binOp .neq 85 (untilB pb ub) .nilFunc).run Tryz.prog w = .ok (.bool true) w := by unfold untilB; kernel_rfl

section
variable {ids : List Int} {A B tb mb pb N : Nat} {fv ft : Value} {q O : List Int} {L : List (Int × Int)}

set_option maxRecDepth 100000 in
set_option maxHeartbeats 2000000 in
theorem visitB_any (a : Option Addr) (n c : Nat) (x : Int) (w : World) (hn : n = L.length) (hP : n ≤ 2097000) (h : BfsAt w ids A B tb mb pb N fv ft q O L (.slice a n c)) :
    Calls Tryz.prog 42 #[.iface 84 (.int .i64 x), .pointer (some ⟨pb, 0, none⟩)] w
      fun e w' => e = .returned (.tuple #[]) ∧ ∃ b1 c1, BfsAt w' ids A B tb mb pb N fv ft q O (L ++ [(x, -1)]) (.slice b1 (n + 1) c1) ∧ Moves (bfoot w tb mb pb (.slice a n c)) w (bfoot w' tb mb pb (.slice b1 (n + 1) c1)) w' := by
  obtain ⟨hd, hdf⟩ := h.below (drew_below w)
  have c0 := h.pblk.c0
  have c01 : ∀ o, (w.alloc o).cell? ⟨pb, 0, none⟩ = some (.slice a n c) := fun o => cell_alloc c0 o
  have ho : Hid (∀ o, (w.drew.alloc o).ownsRow B 37 2 (.slice a n c) n (visCells L)) := fun o => by have := hd.prow.alloc o; rw [← hn] at this; exact this
  have hBz := h.lts.2.2.2
  have hh := Lib.hid hd
  have hnh := Lib.hid hn
  have hnew : Hid (∀ (j : Nat) u, [Value.int .i64 x, Value.int .i64 (-1)][j]? = some u → (w.drew.alloc (.cells #[.int .i64 x, .int .i64 (-1)] 37)).cell? ((⟨w.heap.size, 0, none⟩ : Addr).add j) = some u) := new_visit w.drew _ _ _
  obtain ⟨i0, hi0, hz0, hz1, hz2⟩ := info_parts info_visit
  have hmw : Hid (Moves (bfoot w tb mb pb (.slice a n c)) w (bfoot w.drew tb mb pb (.slice a n c)) w.drew) := by unfold Hid; rw [hdf]; exact Moves.of_drew _ w
  clear h hn hd hdf
  go_enter Tryz.func42, Tryz.ntmps42
  go_wp2_with fail
  go_region_law (first
    | (go_simp; go_at_call 43; ((with_reducible refine (number_any _ _).mono ?_)); rintro e w6 ⟨rfl, rfl⟩)
    | (refine step_append_lies _ rfl (.tmp 3) (.tmp 7) 30 rfl B 37 i0 (.agg #[.int .i64 0, .int .i64 0]) 2 16 Tryz.underlying30 hi0 hz0 hz1 hz2 rfl (by omega) (.slice a n c) n (visCells L) rfl (ho.out _) ⟨w.heap.size, 0, none⟩ 1 1 [.int .i64 x, .int .i64 (-1)] rfl rfl hnew.out (one_visit _ _) (by omega) (by unfold maxLen; omega) (by omega) (by show _ ≤ (w.drew.alloc _).heap.size; simp; omega) (w.heap.size + 1) (by simp) ?_; intro g2 c3 w6 hown6 hg6 hat6 _; obtain ⟨s1, s2⟩ := hh.out.note x (-1) hnh.out hg6 hown6 (fun j hj => by have hj' : some g2 = some j := hj; injection hj' with hj'; subst hj'; rcases hat6 with h | h; exact .inl h; exact .inr (by rw [h]; simp)); have s3 := s1.c0; have s4 := s1.free 0; clear hown6 hg6 hat6 s1))
  all_goals
    go_wp2_with fail
    go_end0
    exact ⟨rfl, _, _, s2.out.1, hmw.out.trans s2.out.2⟩

theorem setD_step {L : List (Int × Int)} (t d : Int) {k : Nat} (hk : k < L.length) :
    ∃ hl : k < (setD (L.take k) t d ++ L.drop k).length, (setD (L.take k) t d ++ L.drop k)[k] = L[k] ∧
      (L[k].1 = t → (setD (L.take k) t d ++ L.drop k).set k (L[k].1, d) = setD (L.take (k + 1)) t d ++ L.drop (k + 1)) ∧
      (L[k].1 ≠ t → setD (L.take k) t d ++ L.drop k = setD (L.take (k + 1)) t d ++ L.drop (k + 1)) := by
  have h1 : (setD (L.take k) t d).length = k := by unfold setD; rw [List.length_map, List.length_take]; omega
  have h2 : L.drop k = L[k] :: L.drop (k + 1) := List.drop_eq_getElem_cons hk
  have h3 : setD (L.take (k + 1)) t d = setD (L.take k) t d ++ [if L[k].1 = t then (L[k].1, d) else L[k]] := by
    unfold setD; rw [List.take_succ_eq_append_getElem hk, List.map_append]; rfl
  refine ⟨by rw [List.length_append, h1, List.length_drop]; omega, ?_, fun e => ?_, fun e => ?_⟩
  · rw [List.getElem_append_right (by omega)]
    simp only [h1, Nat.sub_self, List.getElem_drop, Nat.add_zero]
  · rw [h3, if_pos e, h2, List.set_append_right _ _ (by omega), h1, Nat.sub_self, List.set_cons_zero, List.append_assoc]; rfl
  · rw [h3, if_neg e, h2, List.append_assoc]; rfl

set_option maxRecDepth 100000 in
set_option maxHeartbeats 4000000 in
theorem untilB_any (a : Option Addr) (n c ub : Nat) (t d v : Int) (w : World) (hn : n = L.length) (hL : n ≤ 1000000) (h : BfsAt w ids A B tb mb pb N fv ft q O L (.slice a n c)) (hu : w.cell? ⟨ub, 0, none⟩ = some (.int .i64 v)) (hnu : ub ∉ bfoot w tb mb pb (.slice a n c)) :
    Calls Tryz.prog 46 #[.iface 84 (.int .i64 t), .int .i64 d, .pointer (some ⟨pb, 0, none⟩), .pointer (some ⟨ub, 0, none⟩)] w
      fun e w' => e = .returned (.bool (t == v)) ∧ BfsAt w' ids A B tb mb pb N fv ft q O (setD L t d) (.slice a n c) ∧ Moves (bfoot w tb mb pb (.slice a n c)) w (bfoot w' tb mb pb (.slice a n c)) w' := by
  have c0 := h.pblk.c0
  have hh := Lib.hid h
  have hnh := Lib.hid hn
  have huh := Lib.hid hu
  have hnuh := Lib.hid hnu
  clear h hn hu hnu
  go_enter Tryz.func46, Tryz.ntmps46
  go_wp2_with fail
  go_loopw [7, 10] (fun _ iv wr => ∃ k : Nat, k ≤ n ∧ iv = .int .i64 k ∧ BfsAt wr ids A B tb mb pb N fv ft q O (setD (L.take k) t d ++ L.drop k) (.slice a n c) ∧ bfoot wr tb mb pb (.slice a n c) = bfoot w tb mb pb (.slice a n c) ∧ Moves (bfoot w tb mb pb (.slice a n c)) w (bfoot w tb mb pb (.slice a n c)) wr) (fun _ iv _ => n - (intOf iv).toNat)
  case atStart => exact ⟨0, Nat.zero_le _, rfl, hh.out, rfl, Moves.refl _ _⟩
  case round =>
    obtain ⟨k, hk, rfl, hB, hbf, hM⟩ := hrel
    by_cases hlt : k < n
    · have hkL : k < L.length := by have := hnh.out; omega
      obtain ⟨hl, hget, hs1, hs2⟩ := setD_step t d hkL
      have d0 := hB.pblk.c0
      have hpr := hB.prow
      have hln : (setD (L.take k) t d ++ L.drop k).length = n := by rw [List.length_append, List.length_drop]; unfold setD; rw [List.length_map, List.length_take]; have := hnh.out; omega
      rw [hln] at hpr
      obtain ⟨g, rfl, hgB, hgw, hcap⟩ := owns_at hpr (by omega)
      have x0 : wr.cell? ⟨g, k * 2, none⟩ = some (.int .i64 L[k].1) := by have := owns_cell hpr (visCells_get _ k hl).1; rwa [hget] at this
      have x1 : wr.cell? ⟨g, k * 2 + 1, none⟩ = some (.int .i64 L[k].2) := by have := owns_cell hpr (visCells_get _ k hl).2; rwa [hget] at this
      have xf : wr.frozen? ⟨g, k * 2 + 1, none⟩ = false := owns_free hpr _
      obtain ⟨x, hx⟩ : ∃ x, x = L[k].1 := ⟨_, rfl⟩
      obtain ⟨y, hy⟩ : ∃ y, y = L[k].2 := ⟨_, rfl⟩
      rw [← hx] at x0
      rw [← hy] at x1
      have hdr := (hB.below (drew_below wr))
      by_cases hxt : x = t
      · have hdeep := hdr.1.deep hln.symm hl d
        rw [hget] at hdeep
        have e1 := hs1 (hx.symm.trans hxt)
        rw [e1] at hdeep
        have hfin : Hid (BfsAt (wr.drew.setCell ⟨g, k * 2 + 1, none⟩ (.int .i64 d)) ids A B tb mb pb N fv ft q O (setD (L.take (k + 1)) t d ++ L.drop (k + 1)) (.slice (some ⟨g, 0, none⟩) n c) ∧ bfoot (wr.drew.setCell ⟨g, k * 2 + 1, none⟩ (.int .i64 d)) tb mb pb (.slice (some ⟨g, 0, none⟩) n c) = bfoot w tb mb pb (.slice (some ⟨g, 0, none⟩) n c) ∧
            Moves (bfoot w tb mb pb (.slice (some ⟨g, 0, none⟩) n c)) w (bfoot w tb mb pb (.slice (some ⟨g, 0, none⟩) n c)) (wr.drew.setCell ⟨g, k * 2 + 1, none⟩ (.int .i64 d))) := by
          have e2 := hdr.2.trans hbf
          have h2 := hdeep.2.1
          have h3 := hdeep.2.2
          rw [e2] at h2 h3
          exact ⟨hdeep.1, h2, (hM.trans (Moves.of_drew _ wr)).trans h3⟩
        have hbt : (x == t) = true := by rw [hxt]; simp
        clear hB hbf hM hs1 hs2 hget hpr hln hdr hdeep e1 hx hy hxt
        go_wp2_with fail
        go_region_law (go_simp; go_at_call 43; ((with_reducible refine (number_any _ _).mono ?_)); rintro e w6 ⟨rfl, rfl⟩)
        all_goals
          go_wp2_with fail
          go_roundw
          case rel => exact ⟨k + 1, by omega, by go_num, hfin.out.1, hfin.out.2.1, hfin.out.2.2⟩
          case measure => simp [intOf]; omega
      · have e1 := hs2 (fun e => hxt (hx.trans e))
        rw [e1] at hdr
        have hfin : Hid (BfsAt wr.drew ids A B tb mb pb N fv ft q O (setD (L.take (k + 1)) t d ++ L.drop (k + 1)) (.slice (some ⟨g, 0, none⟩) n c) ∧ bfoot wr.drew tb mb pb (.slice (some ⟨g, 0, none⟩) n c) = bfoot w tb mb pb (.slice (some ⟨g, 0, none⟩) n c) ∧
            Moves (bfoot w tb mb pb (.slice (some ⟨g, 0, none⟩) n c)) w (bfoot w tb mb pb (.slice (some ⟨g, 0, none⟩) n c)) wr.drew) := ⟨hdr.1, hdr.2.trans hbf, hM.trans (Moves.of_drew _ wr)⟩
        have hbt : (x == t) = false := by simpa using hxt
        clear hB hbf hM hs1 hs2 hget hpr hln hdr e1 hx hy hxt
        go_wp2_with fail
        go_region_law (go_simp; go_at_call 43; ((with_reducible refine (number_any _ _).mono ?_)); rintro e w6 ⟨rfl, rfl⟩)
        all_goals
          go_wp2_with fail
          go_roundw
          case rel => exact ⟨k + 1, by omega, by go_num, hfin.out.1, hfin.out.2.1, hfin.out.2.2⟩
          case measure => simp [intOf]; omega
    · have hkn : k = L.length := by have := hnh.out; omega
      have hu2 : wr.cell? ⟨ub, 0, none⟩ = some (.int .i64 v) := hM.cell huh.out hnuh.out
      have hdr := hB.below (drew_below wr)
      rw [hkn, List.take_length, List.drop_length, List.append_nil] at hdr
      have hfin : Hid (BfsAt wr.drew ids A B tb mb pb N fv ft q O (setD L t d) (.slice a n c) ∧ Moves (bfoot w tb mb pb (.slice a n c)) w (bfoot wr.drew tb mb pb (.slice a n c)) wr.drew) := by
        refine ⟨hdr.1, ?_⟩
        rw [hdr.2, hbf]
        exact hM.trans (Moves.of_drew _ wr)
      clear hB hbf hM hdr
      go_wp2_with fail
      go_region_law (go_simp; go_at_call 43; ((with_reducible refine (number_any _ _).mono ?_)); rintro e w6 ⟨rfl, rfl⟩)
      all_goals
        go_wp2_with fail
        go_ret
        exact ⟨rfl, hfin.out.1, hfin.out.2⟩
end

/-- The set is made. -/
theorem bmade {w : World} {ids : List Int} {A tb pb : Nat} {fv ft : Value} (h1 : TBlock w tb 0 (.slice none 0 0) ⟨fv, ft, .map none⟩) (h2 : VBlk w pb 30 (.slice none 0 0)) (l1 : A ≤ tb) (l2 : A ≤ pb) (hne : tb ≠ pb) :
    ∃ mb B, BfsAt ((w.alloc (.map #[] 0)).setCell ⟨tb, 4, none⟩ (.map (some w.heap.size))) ids A B tb mb pb 0 fv ft [] [] [] (.slice none 0 0) ∧
      Moves [tb, pb] w (bfoot ((w.alloc (.map #[] 0)).setCell ⟨tb, 4, none⟩ (.map (some w.heap.size))) tb mb pb (.slice none 0 0)) ((w.alloc (.map #[] 0)).setCell ⟨tb, 4, none⟩ (.map (some w.heap.size))) := by
  have z1 := h1.lt
  have z2 := h2.lt
  have hz : (w.alloc (.map #[] 0)).heap.size = w.heap.size + 1 := by simp
  have b1 : TBlock (w.alloc (.map #[] 0)) tb 0 (.slice none 0 0) ⟨fv, ft, .map none⟩ := (Below.heap_alloc _ _ _ z1).trans h1
  have b2 : TBlock ((w.alloc (.map #[] 0)).setCell ⟨tb, 4, none⟩ (.map (some w.heap.size))) tb 0 (.slice none 0 0) ⟨fv, ft, .map (some w.heap.size)⟩ := b1.set4 _
  have hh : ∀ j, j ≠ tb → ((w.alloc (.map #[] 0)).setCell ⟨tb, 4, none⟩ (.map (some w.heap.size))).heap[j]? = (w.alloc (.map #[] 0)).heap[j]? := fun j hj => Below.heap_setCell _ _ _ _ hj
  have hq : qblk ((w.alloc (.map #[] 0)).setCell ⟨tb, 4, none⟩ (.map (some w.heap.size))) tb = none := by rw [b2.qblk]; rfl
  refine ⟨w.heap.size, w.heap.size + 1, ⟨⟨0, 0, 0, none, [], b2, World.ownsRow_nil _ _ _ _, rfl, Nat.le_refl _, .inl rfl, Nat.le_refl _, by omega, by simp [World.setCell]⟩, (iset_new w ids).same (hh _ (by omega)), ?_, World.ownsRow_nil _ _ _ _, ⟨by omega, by omega, by omega, by simp [World.setCell]⟩, ⟨l1, by omega, l2⟩, ⟨by omega, hne, by omega⟩, fun j hj => by rw [hq] at hj; cases hj⟩, ?_⟩
  · exact (hh pb (fun e => hne e.symm)).trans ((Below.heap_alloc _ _ _ z2).trans h2)
  · refine ((Moves.of_alloc [tb, pb] w _).trans (Moves.of_setCell _ _ (by simp))).sub fun k hk => ?_
    rcases mem_bfoot.1 hk with e | e | e | e | e
    · exact .inl (by simp [e])
    · exact .inr (.inr (by omega))
    · exact .inl (by simp [e])
    · rw [hq] at e; cases e
    · simp [Value.ownBlock] at e

theorem noted_none (P : List (Int × Int)) : noted P [] = P := by simp [noted]
theorem noted_more (P : List (Int × Int)) (Q : List Int) (x : Int) : noted P (Q ++ [x]) = noted P Q ++ [(x, -1)] := by unfold noted; rw [List.map_append, ← List.append_assoc]; rfl
theorem noted_length (P : List (Int × Int)) (Q : List Int) : (noted P Q).length = P.length + Q.length := by unfold noted; rw [List.length_append, List.length_map]
theorem id_method (n : Nat) (x : Int) (w : World) : (method (n + 1) 84 (.int .i64 x) "ID").run Tryz.prog w = .ok (182, .int .i64 x) w := by kernel_rfl
end Go.Proofs.YtpmphefmmcbpaaaGreat
