/- slices.Insert at []arc of one arc, into a row that is owned. -/
import Derived.Test.YtagnmdhdogaijaaGreatArcs
import Derived.Test.YtagnmdhdogaijaaGreatCopy
import Derived.WalkLawsBesides
namespace Go.Proofs.YtagnmdhdogaijaaGreat
open Go.RowKit

/-- What Insert leaves. -/
def InsPost (w : World) (base : Nat) (a : Option Addr) (n cap : Nat) (l : List Arc) (i : Nat) (z : Arc) (e : Ending) (w' : World) : Prop :=
  ∃ a' cap', e = .returned (.slice a' (n + 1) cap') ∧ w'.ownsRow base 172 2 (.slice a' (n + 1) cap') (n + 1) (arcCells (l.take i ++ z :: l.drop i)) ∧
    w.grownBy w' (Value.slice a n cap).ownBlock ∧ (a' = a ∨ ∃ g, a' = some ⟨g, 0, none⟩ ∧ w.heap.size ≤ g)

theorem owns_kind {w : World} {base e size n cap g : Nat} {xs : List Value} (h : w.ownsRow base e size (.slice (some ⟨g, 0, none⟩) n cap) n xs) (hs : 0 < size) (hc : 0 < cap) :
    ∃ k, w.shape? g = some (e, k) ∧ k ≠ 0 := by
  obtain ⟨_, h | ⟨g', cap', cur, hv, _, hh, _, _, hsz, _⟩⟩ := h
  · simp at h
  · injection hv with hv _ hcap
    injection hv with hv
    injection hv with hv _ _
    subst hv; subst hcap
    exact ⟨cur.size, by simp [World.shape?, hh], by have := Nat.mul_pos hc hs; omega⟩

theorem ins_end (l : List Arc) (z : Arc) {n : Nat} (h : l.length ≤ n) : arcCells (l.take n ++ z :: l.drop n) = arcCells l ++ [.int .i64 z.1, .float .f64 z.2] := by
  rw [List.take_of_length_le h, List.drop_eq_nil_of_le h, arcCells_append]; rfl

set_option maxRecDepth 100000 in
set_option maxHeartbeats 1000000 in
theorem insert_end (base : Nat) (a : Option Addr) (n cap : Nat) (l : List Arc) (z : Arc) (vb : Nat) (w : World) (hn : n ≤ 1048576) (hown : w.ownsRow base 172 2 (.slice a n cap) n (arcCells l)) (hbase : base ≤ w.heap.size)
    (hv : w.heap[vb]? = some (.cells #[.int .i64 z.1, .float .f64 z.2] 172 (0, 0))) :
    Calls Tryz.prog 120 #[.slice a n cap, .int .i64 n, .slice (some ⟨vb, 0, none⟩) 1 1] w (InsPost w base a n cap l n z) := by
  have hnews : Hid (∀ j u, ([.int .i64 z.1, .float .f64 z.2] : List Value)[j]? = some u → w.cell? ((⟨vb, 0, none⟩ : Addr).add j) = some u) := fun j u hj => by
    rw [Addr.add_mid]
    simp only [World.cell?, hv, Nat.zero_add]
    simpa using hj
  have hlen : Hid (l.length = n) := by have := hown.1; rw [arcCells_length] at this; show l.length = n; omega
  have hnc : n ≤ cap := by
    obtain ⟨_, h | ⟨g, cap', cur, hv, _, _, h, _⟩⟩ := hown
    · obtain ⟨h1, h2⟩ := h; injection h1 with _ _ h1; omega
    · injection hv with _ _ hv; omega
  clear hv
  have hcn : cap = n ∨ (¬ (cap = n)) := Decidable.em _
  rcases hcn with rfl | hcn
  all_goals
   go_enter Tryz.func120, Tryz.ntmps120
   go_wp2_with (at_builtin; refine append_law 146 172 _ 2 16 Tryz.underlying146 info_arc rfl (by omega) (by omega) rfl _ _ rfl base a _ cap (arcCells l) rfl hown ⟨vb, 0, none⟩ 1 1 [.int .i64 z.1, .float .f64 z.2] rfl (by simp) hnews.out (by simp [Value.oneCell']) (by omega) hbase ?_; intro b1 cap1 w1 hown1 hg1 hat1)
   go_ret
   refine ⟨b1, cap1, rfl, ?_, hg1, ?_⟩
   · rw [ins_end l z (by rw [hlen.out]; exact Nat.le_refl _)]; exact hown1
   · rcases hat1 with h | h
     · exact .inl h
     · exact .inr ⟨_, h, Nat.le_refl _⟩

theorem overlaps_no {w : World} {vb g cap n off : Nat} {base : Nat} {xs : List Value} {u1 u2 : Value} (hown : w.ownsRow base 172 2 (.slice (some ⟨g, 0, none⟩) n cap) n xs) (hcap : 0 < cap)
    (hv : w.heap[vb]? = some (.cells #[u1, u2] 172 (0, 0))) (hne : vb ≠ g) (lb cb : Nat) :
    (callFunc 126 #[.slice (some ⟨vb, 0, none⟩) 1 1, .slice (some ⟨g, off, none⟩) lb cb]).run Tryz.prog w = .ok (.value (.bool false)) w := by
  obtain ⟨k, hk, hk0⟩ := owns_kind hown (by omega) hcap
  have hz : ∀ w, (Go.sizeOf 172).run Tryz.prog w = .ok 2 w := fun w => by kernel_rfl
  rw [run_callFunc_extern Tryz.func126 (by kernel_rfl) (by kernel_rfl) (by kernel_rfl) (e := Extern.SlicesOverlaps.overlaps #[146, 146] #[4]) (by kernel_rfl),
      Lib.run_overlaps_apart w 146 4 172 Tryz.underlying146 2 hz ⟨vb, 0, none⟩ ⟨g, off, none⟩ 1 1 lb cb hne 172 172 2 k (by simp [World.shape?, hv]) hk hk0 (by simp [World.frozen?, hv]) (by simp [World.frozen?, hv])]
  rfl

theorem ins_mid (l : List Arc) (z : Arc) {i : Nat} {ex : List Value} (hi : i * 2 ≤ (arcCells l).length) (hex : ex.length = 2) :
    splice (splice (arcCells l ++ ex) ((i + 1) * 2) ((arcCells l).drop (i * 2))) (i * 2) [.int .i64 z.1, .float .f64 z.2] = arcCells (l.take i ++ z :: l.drop i) := by
  have e1 : arcCells (l.take i ++ z :: l.drop i) = (arcCells l).take (i * 2) ++ ([.int .i64 z.1, .float .f64 z.2] ++ (arcCells l).drop (i * 2)) := by
    rw [arcCells_append, arcCells_take]
    show _ ++ (([.int .i64 (z.1 : Int), .float .f64 z.2] : List Value) ++ arcCells (l.drop i)) = _
    rw [arcCells_drop]
  rw [e1]
  generalize arcCells l = xs at hi ⊢
  have hA : (splice (xs ++ ex) ((i + 1) * 2) (xs.drop (i * 2))) = (xs ++ ex).take ((i + 1) * 2) ++ xs.drop (i * 2) := by
    have h : (xs ++ ex).drop ((i + 1) * 2 + (xs.drop (i * 2)).length) = [] := List.drop_eq_nil_of_le (by simp; omega)
    unfold splice
    rw [h, List.append_nil]
  have hB : ((xs ++ ex).take ((i + 1) * 2) ++ xs.drop (i * 2)).take (i * 2) = xs.take (i * 2) := by
    rw [List.take_append_of_le_length (by simp; omega), List.take_take, Nat.min_eq_left (by omega), List.take_append_of_le_length hi]
  have hC : ((xs ++ ex).take ((i + 1) * 2) ++ xs.drop (i * 2)).drop (i * 2 + 2) = xs.drop (i * 2) := by
    have hl : ((xs ++ ex).take ((i + 1) * 2)).length = i * 2 + 2 := by simp; omega
    rw [← hl, List.drop_left]
  rw [hA]
  unfold splice
  rw [hB]
  show _ ++ (_ ++ List.drop (i * 2 + 2) _) = _
  rw [hC]

set_option maxRecDepth 100000 in
set_option maxHeartbeats 1000000 in
theorem insert_room (base : Nat) (g : Nat) (n cap i : Nat) (l : List Arc) (z : Arc) (vb : Nat) (w : World) (hi : i < n) (hn : n ≤ 1048576) (hcap : n + 1 ≤ cap) (hown : w.ownsRow base 172 2 (.slice (some ⟨g, 0, none⟩) n cap) n (arcCells l))
    (hv : w.heap[vb]? = some (.cells #[.int .i64 z.1, .float .f64 z.2] 172 (0, 0))) (hne : vb ≠ g) :
    Calls Tryz.prog 120 #[.slice (some ⟨g, 0, none⟩) n cap, .int .i64 i, .slice (some ⟨vb, 0, none⟩) 1 1] w (InsPost w base (some ⟨g, 0, none⟩) n cap l i z) := by
  have hov := fun lb cb off => overlaps_no (off := off) hown (by omega) hv hne lb cb
  have hcm : cap ≤ 9223372036854775807 := by
    obtain ⟨_, h | ⟨g', cap', cur, hv, _, _, _, hm, _⟩⟩ := hown
    · simp at h
    · injection hv with _ _ h3; subst h3; exact hm
  have hz2 : ¬ ((i : Int) = (n : Int)) := by omega
  have hb2 : ¬ (cap = i + 1) := by omega
  have hb4 : ¬ (cap = i) := by omega
  have hl2 : (arcCells l).length = n * 2 := hown.1
  have hsz : (Tryz.prog.info? 172).map (·.size) = some 2 := by kernel_rfl
  obtain ⟨ex, hex, hlong⟩ := owns_longer (w := w.drew) hown hcap
  have hcs : ((arcCells l).drop (i * 2)).length = (n - i) * 2 := by rw [List.length_drop, hl2, Nat.sub_mul]
  obtain ⟨cur, hcur, hfit, hW1, hg1⟩ := owns_copy (cs := (arcCells l).drop (i * 2)) hlong ((i + 1) * 2) (by rw [List.length_append, hex, hl2, hcs]; omega)
  have hsrc : ∀ j v, ((arcCells l).drop (i * 2))[j]? = some v → w.drew.cell? ((⟨g, i * 2, none⟩ : Addr).add j) = some v := fun j v hj => by
    rw [Addr.add_mid]
    rw [List.getElem?_drop] at hj
    exact owns_cell (w := w.drew) hown hj
  have hcp1 : ∀ ty, (Builtin.copy_ #[146, 146] ty #[.slice (some ⟨g, (i + 1) * 2, none⟩) (n - i) (cap - (i + 1)), .slice (some ⟨g, i * 2, none⟩) (n + 1 - i) (cap - i)]).run Tryz.prog w.drew = _ := fun ty =>
    run_copy_sized w.drew _ _ ty 172 g ((i + 1) * 2) (n - i) (cap - (i + 1)) ⟨g, i * 2, none⟩ (n + 1 - i) (cap - i) cur _ ((arcCells l).drop (i * 2)) 2 Tryz.underlying146 hsz hcur (by rw [show Nat.min (n + 1 - i) (n - i) = n - i from Nat.min_eq_right (by omega)]; exact hcs) hsrc hfit (fun v hv => arc_one l v (List.mem_of_mem_drop hv))
  generalize hWe : w.drew.setRow g (cur.toList.take ((i + 1) * 2) ++ (arcCells l).drop (i * 2) ++ cur.toList.drop ((i + 1) * 2 + ((arcCells l).drop (i * 2)).length)).toArray = W1 at hW1 hg1 hcp1
  have hvW : W1.heap[vb]? = some (.cells #[.int .i64 z.1, .float .f64 z.2] 172 (0, 0)) := by rw [hg1.block vb (lt_of_block hv) (by simpa using hne)]; exact hv
  have hlen1 : (splice (arcCells l ++ ex) ((i + 1) * 2) ((arcCells l).drop (i * 2))).length = (n + 1) * 2 := hW1.1
  obtain ⟨cur2, hcur2, hfit2, hW2, hg2⟩ := owns_copy (cs := [.int .i64 z.1, .float .f64 z.2]) hW1 (i * 2) (by rw [hlen1]; show i * 2 + 2 ≤ _; omega)
  have hsrc2 : ∀ j v, ([.int .i64 z.1, .float .f64 z.2] : List Value)[j]? = some v → W1.cell? ((⟨vb, 0, none⟩ : Addr).add j) = some v := fun j v hj => by
    rw [Addr.add_mid]
    simp only [World.cell?, hvW, Nat.zero_add]
    simpa using hj
  have hcp2 : ∀ ty, (Builtin.copy_ #[146, 146] ty #[.slice (some ⟨g, i * 2, none⟩) (n + 1 - i) (cap - i), .slice (some ⟨vb, 0, none⟩) 1 1]).run Tryz.prog W1 = _ := fun ty =>
    run_copy_sized W1 _ _ ty 172 g (i * 2) (n + 1 - i) (cap - i) ⟨vb, 0, none⟩ 1 1 cur2 _ [.int .i64 z.1, .float .f64 z.2] 2 Tryz.underlying146 hsz hcur2 (by rw [show Nat.min 1 (n + 1 - i) = 1 from Nat.min_eq_left (by omega)]; rfl) hsrc2 hfit2 (by simp [Value.oneCell'])
  generalize hWe2 : W1.setRow g (cur2.toList.take (i * 2) ++ ([.int .i64 z.1, .float .f64 z.2] : List Value) ++ cur2.toList.drop (i * 2 + ([.int .i64 z.1, .float .f64 z.2] : List Value).length)).toArray = W2 at hW2 hg2 hcp2
  have H2 := Lib.hid hW2
  have HG := Lib.hid (grown_trans (row_drew hg1) hg2)
  have hc1 := Lib.hid hcp1
  have hc2 := Lib.hid hcp2
  have hL := Lib.hid hl2
  have hE := Lib.hid hex
  have hIn : (i : Int) ≤ (n : Int) + 1 := by omega
  have hIn2 : (i : Int) + 1 ≤ (n : Int) + 1 := by omega
  have hw1 : IntKind.i64.wrap ((i : Int) + 1) = (i : Int) + 1 := by rw [IntKind.wrap_i64]; omega
  have hb1 : (0 : Int) ≤ (i : Int) + 1 := by omega
  have htn : ((i : Int) + 1).toNat = i + 1 := by omega
  clear hWe hWe2 hW2 hg1 hg2 hcp1 hcp2 hown hv hlong hsrc hsrc2 hcur hcur2 hfit hfit2 hvW hlen1 hW1 hcs hl2 hex hsz
  go_enter Tryz.func120, Tryz.ntmps120
  go_wp2_with (simp only [hov])
  go_region_law (refine step_copy_run rfl (.tmp 73) (.tmp 76) 146 146 rfl _ _ (by simp [Act.eval, Act.put]) (by simp [Act.eval, Act.put]) (unhide hc1) ?_)
  clear hw1 hb1 htn
  go_wp2_with (refine wpList_copy_run (o := ⟨some 82, _, _, _, _, _⟩) rfl (.tmp 80) (.tmp 81) 146 146 rfl (.slice (some ⟨g, i * 2, none⟩) (n + 1 - i) (cap - i)) (.slice (some ⟨vb, 0, none⟩) 1 1) rfl rfl (unhide hc2) ?_)
  go_ret
  refine ⟨some ⟨g, 0, none⟩, cap, rfl, ?_, HG.out, .inl rfl⟩
  rw [← ins_mid l z (by rw [hL.out]; omega) hE.out]
  exact H2.out

end Go.Proofs.YtagnmdhdogaijaaGreat
