/- copy at elements of any number of cells, into a row that is owned whole; an owned row lengthened within its capacity. No program in sight.
   slices.Insert at []arc of one arc, into a row that is owned.
   slices.Insert at []arc of one arc, into a full row: a new row. -/
import Derived.Test.YthpjmjohdliohaaGreatBase
import Derived.Laws.CopyRow
import Derived.Laws.CopyOwn
import Derived.Deep.RegionLaw
import Derived.Lib.AppendZerosOnto
import Derived.Laws.Externs
import Derived.Lib.Overlaps
import Derived.Test.YthpjmjohdliohaaGreatArcs
import Derived.WalkLawsBesides
namespace Go.Proofs.YthpjmjohdliohaaGreat
open Go.RowKit

section
variable {P : Program}

theorem run_copy_sized (w : World) (dT sT ty elem : TypeId) (g o dLen dCap : Nat) (a : Addr) (sLen sCap : Nat) (cur : Array Value) (t : TypeId) (cs : List Value) (size : Nat)
    (hu : P.underlying dT = some (.slice elem)) (hs : (P.info? elem).map (·.size) = some size)
    (hg : w.heap[g]? = some (.cells cur t (0, 0))) (hn : cs.length = Nat.min sLen dLen * size)
    (hsrc : ∀ j v, cs[j]? = some v → w.cell? (a.add j) = some v) (hfit : o + cs.length ≤ cur.size) (h1 : ∀ v ∈ cs, v.oneCell' = true) :
    (Builtin.copy_ #[dT, sT] ty #[.slice (some ⟨g, o, none⟩) dLen dCap, .slice (some a) sLen sCap]).run P w =
      .ok (goInt (Nat.min sLen dLen)) (w.setRow g (cur.toList.take o ++ cs ++ cur.toList.drop (o + cs.length)).toArray) := by
  have hl := run_loadCells_list (P := P) w a cs hsrc
  have hst := run_storeCells_at P g o t cs 0 cur w hg (by simpa using hfit) h1
  cases hq : P.info? elem with
  | none => simp [hq] at hs
  | some i =>
    have hi : i.size = size := by simpa [hq] using hs
    rw [hn] at hl
    simp [Builtin.copy_, run_underlying hu, Builtin.lenOf, Builtin.firstCells, sizeOf, typeInfo, hq, hi, hl, hst]

theorem take_splice {α : Type} {L xs cs : List α} {o : Nat} (ht : L.take xs.length = xs) (hfit : o + cs.length ≤ xs.length) :
    (L.take o ++ cs ++ L.drop (o + cs.length)).take xs.length = splice xs o cs := by
  obtain ⟨ys, rfl⟩ : ∃ ys, L = xs ++ ys := ⟨L.drop xs.length, by
    have h := List.take_append_drop xs.length L
    rw [ht] at h
    exact h.symm⟩
  have e1 : (xs ++ ys).take o = xs.take o := List.take_append_of_le_length (by omega)
  have e2 : (xs ++ ys).drop (o + cs.length) = xs.drop (o + cs.length) ++ ys := List.drop_append_of_le_length hfit
  have e3 : (splice xs o cs).length = xs.length := length_splice _ _ _ hfit
  have e4 : xs.take o ++ cs ++ (xs.drop (o + cs.length) ++ ys) = splice xs o cs ++ ys := by simp [splice]
  rw [e1, e2, e4, ← e3]
  exact List.take_left

/-- What copy leaves of an owned row. -/
theorem owns_copy {w : World} {base e size n cap g : Nat} {xs cs : List Value} (h : w.ownsRow base e size (.slice (some ⟨g, 0, none⟩) n cap) n xs) (o : Nat) (hfit : o + cs.length ≤ xs.length) :
    ∃ cur, w.heap[g]? = some (.cells cur e (0, 0)) ∧ o + cs.length ≤ cur.size ∧
      (w.setRow g (cur.toList.take o ++ cs ++ cur.toList.drop (o + cs.length)).toArray).ownsRow base e size (.slice (some ⟨g, 0, none⟩) n cap) n (splice xs o cs) ∧
      w.grownBy (w.setRow g (cur.toList.take o ++ cs ++ cur.toList.drop (o + cs.length)).toArray) (some g) := by
  obtain ⟨hl, h | ⟨g', cap', cur, hv, hg, hh, hn, hm, hs, ht⟩⟩ := h
  · simp at h
  · injection hv with hv _ hcap
    injection hv with hv
    injection hv with hv _ _
    subst hv; subst hcap
    have hle : xs.length ≤ cur.size := by
      have := congrArg List.length ht
      rw [List.length_take, Array.length_toList] at this
      omega
    refine ⟨cur, hh, by omega, ⟨by rw [length_splice _ _ _ hfit]; exact hl, .inr ⟨g, cap, _, rfl, hg, setRow_heap w g cur _ e _ hh, hn, hm, ?_, ?_⟩⟩,
      ⟨rfl, rfl, rfl, by simp, fun k _ hk => setRow_other w g k _ (fun e => hk (by simp [e]))⟩⟩
    · simp only [List.size_toArray, List.length_append, List.length_take, List.length_drop, Array.length_toList]
      omega
    · rw [← hl] at ht ⊢
      exact take_splice ht hfit

/-- An owned row within its capacity: one element more. -/
theorem owns_longer {w : World} {base e size n cap g : Nat} {xs : List Value} (h : w.ownsRow base e size (.slice (some ⟨g, 0, none⟩) n cap) n xs) (hc : n + 1 ≤ cap) :
    ∃ ex : List Value, ex.length = size ∧ w.ownsRow base e size (.slice (some ⟨g, 0, none⟩) (n + 1) cap) (n + 1) (xs ++ ex) := by
  obtain ⟨hl, h | ⟨g', cap', cur, hv, hg, hh, hn, hm, hs, ht⟩⟩ := h
  · simp at h
  · injection hv with hv _ hcap
    injection hv with hv
    injection hv with hv _ _
    subst hv; subst hcap
    have hle : (n + 1) * size ≤ cur.size := by rw [hs]; exact Nat.mul_le_mul_right _ hc
    have h1 : (n + 1) * size = n * size + size := by rw [Nat.add_mul, Nat.one_mul]
    refine ⟨(cur.toList.drop (n * size)).take size, ?_, ?_⟩
    · rw [List.length_take, List.length_drop, Array.length_toList]; omega
    · have e : cur.toList.take ((n + 1) * size) = xs ++ (cur.toList.drop (n * size)).take size := by
        rw [h1, List.take_add, ht]
      refine ⟨?_, .inr ⟨g, cap, cur, rfl, hg, hh, hc, hm, hs, e⟩⟩
      rw [List.length_append, hl, List.length_take, List.length_drop, Array.length_toList]
      omega

/-- An owned row cut to fewer elements. -/
theorem owns_cut {w : World} {base e size n cap g : Nat} {xs : List Value} (h : w.ownsRow base e size (.slice (some ⟨g, 0, none⟩) n cap) n xs) {i : Nat} (hi : i ≤ n) :
    w.ownsRow base e size (.slice (some ⟨g, 0, none⟩) i cap) i (xs.take (i * size)) := by
  obtain ⟨hl, h | ⟨g', cap', cur, hv, hg, hh, hn, hm, hs, ht⟩⟩ := h
  · simp at h
  · injection hv with hv _ hcap
    injection hv with hv
    injection hv with hv _ _
    subst hv; subst hcap
    have hle : i * size ≤ n * size := Nat.mul_le_mul_right _ hi
    refine ⟨by rw [List.length_take, hl]; omega, .inr ⟨g, cap, cur, rfl, hg, hh, by omega, hm, hs, ?_⟩⟩
    rw [← ht, List.take_take, Nat.min_eq_left hle]

theorem row_drew {w w' : World} {row : Option Nat} (h : w.drew.grownBy w' row) : w.grownBy w' row := ⟨h.os, h.tape, h.output, h.size, h.block⟩
theorem grown_trans {a b c : World} {row : Option Nat} (h : a.grownBy b row) (k : b.grownBy c row) : a.grownBy c row :=
  ⟨k.os.trans h.os, k.tape.trans h.tape, k.output.trans h.output, Nat.le_trans h.size k.size, fun i hi hne => (k.block i (Nat.lt_of_lt_of_le hi h.size) hne).trans (h.block i hi hne)⟩

theorem wpList_copy_run {w : World} {ops : Array Oper} {rest : List Oper} {o : Oper} {a : Act} {Q : Exit → Act → World → Prop} (hgd : o.guard = none) (d s : Operand) (t t' : TypeId)
    (ho : o.op = .call { callee := .builtin .copy, args := #[d, s], argTypes := #[t, t'] }) (v u : Value) (hd : a.eval d = v) (hs : a.eval s = u) {v' : Value} {w' : World}
    (hr : ∀ ty, (Builtin.copy_ #[t, t'] ty #[v, u]).run P w = .ok v' w') (h : wpList P ops Q rest (a.put o.dst v') w') : wpList P ops Q (o :: rest) a w :=
  wpList_plain hgd fun K hK => by
    unfold Oper.wp execOp
    simp only [ho, resolve, invoke, builtin, Sem.run_bind, Sem.run_pure, Result.andThen_ok, List.map_toArray, List.map_cons, List.map_nil, hd, hs, hr]
    exact hK _ _ h

theorem step_copy_run {ops : Array Oper} {o : Oper} {a : Act} {w : World} {K : Act → World → Prop} {Q : Exit → Act → World → Prop} {E : Prop}
    (hg : o.guard = none) (d x : Operand) (dT sT : TypeId) (hop : o.op = Op.call { callee := Callee.builtin Builtin.copy, args := #[d, x], argTypes := #[dT, sT] })
    (v u : Value) (hd : a.eval d = v) (hx : a.eval x = u) {v' : Value} {w' : World} (hr : ∀ ty, (Builtin.copy_ #[dT, sT] ty #[v, u]).run P w = .ok v' w') (hK : K (a.put o.dst v') w') :
    if Region.wanted o (yielded ops a.tmps) = true then Oper.wp P o a w K Q else E := by
  have hw : Region.wanted o (yielded ops a.tmps) = true := by simp [Region.wanted, hg]
  rw [if_pos hw]
  unfold Oper.wp
  simp [execOp, hop, resolve, invoke, builtin, hd, hx, hr, Result.andThen]
  exact hK
end
end Go.Proofs.YthpjmjohdliohaaGreat

namespace Go.Proofs.YthpjmjohdliohaaGreat
open Go.RowKit

/-- What Insert leaves. -/
def InsPost (w : World) (base : Nat) (a : Option Addr) (n cap : Nat) (l : List Arc) (i : Nat) (z : Arc) (e : Ending) (w' : World) : Prop :=
  ∃ a' cap', e = .returned (.slice a' (n + 1) cap') ∧ w'.ownsRow base 202 2 (.slice a' (n + 1) cap') (n + 1) (arcCells (l.take i ++ z :: l.drop i)) ∧
    w.grownBy w' (Value.slice a n cap).ownBlock ∧ (a' = a ∨ ∃ g, a' = some ⟨g, 0, none⟩ ∧ w.heap.size ≤ g)

theorem owns_kind {w : World} {base e size n cap g : Nat} {xs : List Value} (h : w.ownsRow base e size (.slice (some ⟨g, 0, none⟩) n cap) n xs) (hs : 0 < size) (hc : 0 < cap) :
    ∃ k, w.shape? g = some (e, k) ∧ k ≠ 0 := by
  obtain ⟨_, h | ⟨g', cap', cur, hv, _, hh, _, _, hsz, _⟩⟩ := h
  · simp at h
  · injection hv with hv _ hcap
    injection hv with hv
    injection hv with hv _ _
    subst hv; subst hcap
    exact ⟨cur.size, by simp [World.shape?, hh], by have := Nat.mul_pos hc hs; omega⟩

theorem ins_end (l : List Arc) (z : Arc) {n : Nat} (h : l.length ≤ n) : arcCells (l.take n ++ z :: l.drop n) = arcCells l ++ [.int .i64 z.1, .float .f64 z.2] := by
  rw [List.take_of_length_le h, List.drop_eq_nil_of_le h, arcCells_append]; rfl

set_option maxRecDepth 100000 in
set_option maxHeartbeats 1000000 in
theorem insert_end (base : Nat) (a : Option Addr) (n cap : Nat) (l : List Arc) (z : Arc) (vb : Nat) (w : World) (hn : n ≤ 1048576) (hown : w.ownsRow base 202 2 (.slice a n cap) n (arcCells l)) (hbase : base ≤ w.heap.size)
    (hv : w.heap[vb]? = some (.cells #[.int .i64 z.1, .float .f64 z.2] 202 (0, 0))) :
    Calls Tryz.prog 122 #[.slice a n cap, .int .i64 n, .slice (some ⟨vb, 0, none⟩) 1 1] w (InsPost w base a n cap l n z) := by
  have hnews : Hid (∀ j u, ([.int .i64 z.1, .float .f64 z.2] : List Value)[j]? = some u → w.cell? ((⟨vb, 0, none⟩ : Addr).add j) = some u) := fun j u hj => by
    rw [Addr.add_mid]
    simp only [World.cell?, hv, Nat.zero_add]
    simpa using hj
  have hlen : Hid (l.length = n) := by have := hown.1; rw [arcCells_length] at this; show l.length = n; omega
  have hnc : n ≤ cap := by
    obtain ⟨_, h | ⟨g, cap', cur, hv, _, _, h, _⟩⟩ := hown
    · obtain ⟨h1, h2⟩ := h; injection h1 with _ _ h1; omega
    · injection hv with _ _ hv; omega
  clear hv
  have hcn : cap = n ∨ (¬ (cap = n)) := Decidable.em _
  rcases hcn with rfl | hcn
  all_goals
   go_enter Tryz.func122, Tryz.ntmps122
   go_wp2_with (at_builtin; refine append_law 174 202 _ 2 16 Tryz.underlying174 info_arc rfl (by omega) (by omega) rfl _ _ rfl base a _ cap (arcCells l) rfl hown ⟨vb, 0, none⟩ 1 1 [.int .i64 z.1, .float .f64 z.2] rfl (by simp) hnews.out (by simp [Value.oneCell']) (by omega) hbase ?_; intro b1 cap1 w1 hown1 hg1 hat1)
   go_ret
   refine ⟨b1, cap1, rfl, ?_, hg1, ?_⟩
   · rw [ins_end l z (by rw [hlen.out]; exact Nat.le_refl _)]; exact hown1
   · rcases hat1 with h | h
     · exact .inl h
     · exact .inr ⟨_, h, Nat.le_refl _⟩

theorem overlaps_no {w : World} {vb g cap n off : Nat} {base : Nat} {xs : List Value} {u1 u2 : Value} (hown : w.ownsRow base 202 2 (.slice (some ⟨g, 0, none⟩) n cap) n xs) (hcap : 0 < cap)
    (hv : w.heap[vb]? = some (.cells #[u1, u2] 202 (0, 0))) (hne : vb ≠ g) (lb cb : Nat) :
    (callFunc 138 #[.slice (some ⟨vb, 0, none⟩) 1 1, .slice (some ⟨g, off, none⟩) lb cb]).run Tryz.prog w = .ok (.value (.bool false)) w := by
  obtain ⟨k, hk, hk0⟩ := owns_kind hown (by omega) hcap
  have hz : ∀ w, (Go.sizeOf 202).run Tryz.prog w = .ok 2 w := fun w => by kernel_rfl
  rw [run_callFunc_extern Tryz.func138 (by kernel_rfl) (by kernel_rfl) (by kernel_rfl) (e := Extern.SlicesOverlaps.overlaps #[174, 174] #[4]) (by kernel_rfl),
      Lib.run_overlaps_apart w 174 4 202 Tryz.underlying174 2 hz ⟨vb, 0, none⟩ ⟨g, off, none⟩ 1 1 lb cb hne 202 202 2 k (by simp [World.shape?, hv]) hk hk0 (by simp [World.frozen?, hv]) (by simp [World.frozen?, hv])]
  rfl

theorem ins_mid (l : List Arc) (z : Arc) {i : Nat} {ex : List Value} (hi : i * 2 ≤ (arcCells l).length) (hex : ex.length = 2) :
    splice (splice (arcCells l ++ ex) ((i + 1) * 2) ((arcCells l).drop (i * 2))) (i * 2) [.int .i64 z.1, .float .f64 z.2] = arcCells (l.take i ++ z :: l.drop i) := by
  have e1 : arcCells (l.take i ++ z :: l.drop i) = (arcCells l).take (i * 2) ++ ([.int .i64 z.1, .float .f64 z.2] ++ (arcCells l).drop (i * 2)) := by
    rw [arcCells_append, arcCells_take]
    show _ ++ (([.int .i64 (z.1 : Int), .float .f64 z.2] : List Value) ++ arcCells (l.drop i)) = _
    rw [arcCells_drop]
  rw [e1]
  generalize arcCells l = xs at hi ⊢
  have hA : (splice (xs ++ ex) ((i + 1) * 2) (xs.drop (i * 2))) = (xs ++ ex).take ((i + 1) * 2) ++ xs.drop (i * 2) := by
    have h : (xs ++ ex).drop ((i + 1) * 2 + (xs.drop (i * 2)).length) = [] := List.drop_eq_nil_of_le (by simp; omega)
    unfold splice
    rw [h, List.append_nil]
  have hB : ((xs ++ ex).take ((i + 1) * 2) ++ xs.drop (i * 2)).take (i * 2) = xs.take (i * 2) := by
    rw [List.take_append_of_le_length (by simp; omega), List.take_take, Nat.min_eq_left (by omega), List.take_append_of_le_length hi]
  have hC : ((xs ++ ex).take ((i + 1) * 2) ++ xs.drop (i * 2)).drop (i * 2 + 2) = xs.drop (i * 2) := by
    have hl : ((xs ++ ex).take ((i + 1) * 2)).length = i * 2 + 2 := by simp; omega
    rw [← hl, List.drop_left]
  rw [hA]
  unfold splice
  rw [hB]
  show _ ++ (_ ++ List.drop (i * 2 + 2) _) = _
  rw [hC]

set_option maxRecDepth 100000 in
set_option maxHeartbeats 1000000 in
theorem insert_room (base : Nat) (g : Nat) (n cap i : Nat) (l : List Arc) (z : Arc) (vb : Nat) (w : World) (hi : i < n) (hn : n ≤ 1048576) (hcap : n + 1 ≤ cap) (hown : w.ownsRow base 202 2 (.slice (some ⟨g, 0, none⟩) n cap) n (arcCells l))
    (hv : w.heap[vb]? = some (.cells #[.int .i64 z.1, .float .f64 z.2] 202 (0, 0))) (hne : vb ≠ g) :
    Calls Tryz.prog 122 #[.slice (some ⟨g, 0, none⟩) n cap, .int .i64 i, .slice (some ⟨vb, 0, none⟩) 1 1] w (InsPost w base (some ⟨g, 0, none⟩) n cap l i z) := by
  have hov := fun lb cb off => overlaps_no (off := off) hown (by omega) hv hne lb cb
  have hcm : cap ≤ 9223372036854775807 := by
    obtain ⟨_, h | ⟨g', cap', cur, hv, _, _, _, hm, _⟩⟩ := hown
    · simp at h
    · injection hv with _ _ h3; subst h3; exact hm
  have hz2 : ¬ ((i : Int) = (n : Int)) := by omega
  have hb2 : ¬ (cap = i + 1) := by omega
  have hb4 : ¬ (cap = i) := by omega
  have hl2 : (arcCells l).length = n * 2 := hown.1
  have hsz : (Tryz.prog.info? 202).map (·.size) = some 2 := by kernel_rfl
  obtain ⟨ex, hex, hlong⟩ := owns_longer (w := w.drew) hown hcap
  have hcs : ((arcCells l).drop (i * 2)).length = (n - i) * 2 := by rw [List.length_drop, hl2, Nat.sub_mul]
  obtain ⟨cur, hcur, hfit, hW1, hg1⟩ := owns_copy (cs := (arcCells l).drop (i * 2)) hlong ((i + 1) * 2) (by rw [List.length_append, hex, hl2, hcs]; omega)
  have hsrc : ∀ j v, ((arcCells l).drop (i * 2))[j]? = some v → w.drew.cell? ((⟨g, i * 2, none⟩ : Addr).add j) = some v := fun j v hj => by
    rw [Addr.add_mid]
    rw [List.getElem?_drop] at hj
    exact owns_cell (w := w.drew) hown hj
  have hcp1 : ∀ ty, (Builtin.copy_ #[174, 174] ty #[.slice (some ⟨g, (i + 1) * 2, none⟩) (n - i) (cap - (i + 1)), .slice (some ⟨g, i * 2, none⟩) (n + 1 - i) (cap - i)]).run Tryz.prog w.drew = _ := fun ty =>
    run_copy_sized w.drew _ _ ty 202 g ((i + 1) * 2) (n - i) (cap - (i + 1)) ⟨g, i * 2, none⟩ (n + 1 - i) (cap - i) cur _ ((arcCells l).drop (i * 2)) 2 Tryz.underlying174 hsz hcur (by rw [show Nat.min (n + 1 - i) (n - i) = n - i from Nat.min_eq_right (by omega)]; exact hcs) hsrc hfit (fun v hv => arc_one l v (List.mem_of_mem_drop hv))
  generalize hWe : w.drew.setRow g (cur.toList.take ((i + 1) * 2) ++ (arcCells l).drop (i * 2) ++ cur.toList.drop ((i + 1) * 2 + ((arcCells l).drop (i * 2)).length)).toArray = W1 at hW1 hg1 hcp1
  have hvW : W1.heap[vb]? = some (.cells #[.int .i64 z.1, .float .f64 z.2] 202 (0, 0)) := by rw [hg1.block vb (lt_of_block hv) (by simpa using hne)]; exact hv
  have hlen1 : (splice (arcCells l ++ ex) ((i + 1) * 2) ((arcCells l).drop (i * 2))).length = (n + 1) * 2 := hW1.1
  obtain ⟨cur2, hcur2, hfit2, hW2, hg2⟩ := owns_copy (cs := [.int .i64 z.1, .float .f64 z.2]) hW1 (i * 2) (by rw [hlen1]; show i * 2 + 2 ≤ _; omega)
  have hsrc2 : ∀ j v, ([.int .i64 z.1, .float .f64 z.2] : List Value)[j]? = some v → W1.cell? ((⟨vb, 0, none⟩ : Addr).add j) = some v := fun j v hj => by
    rw [Addr.add_mid]
    simp only [World.cell?, hvW, Nat.zero_add]
    simpa using hj
  have hcp2 : ∀ ty, (Builtin.copy_ #[174, 174] ty #[.slice (some ⟨g, i * 2, none⟩) (n + 1 - i) (cap - i), .slice (some ⟨vb, 0, none⟩) 1 1]).run Tryz.prog W1 = _ := fun ty =>
    run_copy_sized W1 _ _ ty 202 g (i * 2) (n + 1 - i) (cap - i) ⟨vb, 0, none⟩ 1 1 cur2 _ [.int .i64 z.1, .float .f64 z.2] 2 Tryz.underlying174 hsz hcur2 (by rw [show Nat.min 1 (n + 1 - i) = 1 from Nat.min_eq_left (by omega)]; rfl) hsrc2 hfit2 (by simp [Value.oneCell'])
  generalize hWe2 : W1.setRow g (cur2.toList.take (i * 2) ++ ([.int .i64 z.1, .float .f64 z.2] : List Value) ++ cur2.toList.drop (i * 2 + ([.int .i64 z.1, .float .f64 z.2] : List Value).length)).toArray = W2 at hW2 hg2 hcp2
  have H2 := Lib.hid hW2
  have HG := Lib.hid (grown_trans (row_drew hg1) hg2)
  have hc1 := Lib.hid hcp1
  have hc2 := Lib.hid hcp2
  have hL := Lib.hid hl2
  have hE := Lib.hid hex
  have hIn : (i : Int) ≤ (n : Int) + 1 := by omega
  have hIn2 : (i : Int) + 1 ≤ (n : Int) + 1 := by omega
  have hw1 : IntKind.i64.wrap ((i : Int) + 1) = (i : Int) + 1 := by rw [IntKind.wrap_i64]; omega
  have hb1 : (0 : Int) ≤ (i : Int) + 1 := by omega
  have htn : ((i : Int) + 1).toNat = i + 1 := by omega
  clear hWe hWe2 hW2 hg1 hg2 hcp1 hcp2 hown hv hlong hsrc hsrc2 hcur hcur2 hfit hfit2 hvW hlen1 hW1 hcs hl2 hex hsz
  go_enter Tryz.func122, Tryz.ntmps122
  go_wp2_with (simp only [hov])
  go_region_law (refine step_copy_run rfl (.tmp 73) (.tmp 76) 174 174 rfl _ _ (by simp [Act.eval, Act.put]) (by simp [Act.eval, Act.put]) (unhide hc1) ?_)
  clear hw1 hb1 htn
  go_wp2_with (refine wpList_copy_run (o := ⟨some 82, _, _, _, _, _⟩) rfl (.tmp 80) (.tmp 81) 174 174 rfl (.slice (some ⟨g, i * 2, none⟩) (n + 1 - i) (cap - i)) (.slice (some ⟨vb, 0, none⟩) 1 1) rfl rfl (unhide hc2) ?_)
  go_ret
  refine ⟨some ⟨g, 0, none⟩, cap, rfl, ?_, HG.out, .inl rfl⟩
  rw [← ins_mid l z (by rw [hL.out]; omega) hE.out]
  exact H2.out

end Go.Proofs.YthpjmjohdliohaaGreat

namespace Go.Proofs.YthpjmjohdliohaaGreat
open Go.RowKit

theorem ins_new (xs zs : List Value) (z : Arc) {i m : Nat} (hz : zs.length = m * 2 + 2) (hm : xs.length = i * 2 + m * 2) :
    splice (splice (xs.take (i * 2) ++ zs) (i * 2) [.int .i64 z.1, .float .f64 z.2]) ((i + 1) * 2) (xs.drop (i * 2)) = xs.take (i * 2) ++ ([.int .i64 z.1, .float .f64 z.2] ++ xs.drop (i * 2)) := by
  have ht : (xs.take (i * 2)).length = i * 2 := by simp; omega
  have hA : splice (xs.take (i * 2) ++ zs) (i * 2) [.int .i64 (z.1 : Int), .float .f64 z.2] = (xs.take (i * 2) ++ [.int .i64 (z.1 : Int), .float .f64 z.2]) ++ zs.drop 2 := by
    unfold splice
    have e1 : (xs.take (i * 2) ++ zs).take (i * 2) = xs.take (i * 2) := by
      have := List.take_left (l₁ := xs.take (i * 2)) (l₂ := zs)
      rwa [ht] at this
    have e2 : (xs.take (i * 2) ++ zs).drop (i * 2 + ([.int .i64 (z.1 : Int), .float .f64 z.2] : List Value).length) = zs.drop 2 := by
      show (xs.take (i * 2) ++ zs).drop (i * 2 + 2) = _
      rw [List.drop_append, List.drop_eq_nil_of_le (by omega), ht]
      simp
    rw [e1, e2, List.append_assoc]
  rw [hA]
  have hl : (xs.take (i * 2) ++ ([.int .i64 (z.1 : Int), .float .f64 z.2] : List Value)).length = (i + 1) * 2 := by
    rw [List.length_append, ht]; show i * 2 + 2 = _; omega
  unfold splice
  have e1 : ((xs.take (i * 2) ++ ([.int .i64 (z.1 : Int), .float .f64 z.2] : List Value)) ++ zs.drop 2).take ((i + 1) * 2) = xs.take (i * 2) ++ [.int .i64 (z.1 : Int), .float .f64 z.2] := by
    have := List.take_left (l₁ := xs.take (i * 2) ++ ([.int .i64 (z.1 : Int), .float .f64 z.2] : List Value)) (l₂ := zs.drop 2)
    rwa [hl] at this
  have e2 : ((xs.take (i * 2) ++ ([.int .i64 (z.1 : Int), .float .f64 z.2] : List Value)) ++ zs.drop 2).drop ((i + 1) * 2 + (xs.drop (i * 2)).length) = [] :=
    List.drop_eq_nil_of_le (by rw [List.length_append, hl, List.length_drop, List.length_drop]; omega)
  rw [e1, e2, List.append_nil, List.append_assoc]

set_option maxRecDepth 100000 in
set_option maxHeartbeats 1000000 in
theorem insert_grow (base : Nat) (g : Nat) (n i : Nat) (l : List Arc) (z : Arc) (vb : Nat) (w : World) (hi : i < n) (hn : n ≤ 1048576) (hown : w.ownsRow base 202 2 (.slice (some ⟨g, 0, none⟩) n n) n (arcCells l)) (hbase : base ≤ w.heap.size)
    (hv : w.heap[vb]? = some (.cells #[.int .i64 z.1, .float .f64 z.2] 202 (0, 0))) :
    Calls Tryz.prog 122 #[.slice (some ⟨g, 0, none⟩) n n, .int .i64 i, .slice (some ⟨vb, 0, none⟩) 1 1] w (InsPost w base (some ⟨g, 0, none⟩) n n l i z) := by
  obtain ⟨i0, hi0, hz0, hz1, hz2⟩ := info_parts info_arc
  have hz3 : ¬ ((i : Int) = (n : Int)) := by omega
  have hl2 : (arcCells l).length = n * 2 := hown.1
  have hsz : (Tryz.prog.info? 202).map (·.size) = some 2 := by kernel_rfl
  have hgw : g < w.heap.size := by
    obtain ⟨g', h1, _, h2, _⟩ := owns_at hown (by omega)
    injection h1 with h1; injection h1 with h1 _ _; omega
  have hvw : vb < w.heap.size := lt_of_block hv
  have hkk : (n : Int) + 1 - (i : Int) = ((n + 1 - i : Nat) : Int) := by omega
  have hik : i + (n + 1 - i) = n + 1 := by omega
  have hold : (Builtin.firstCells i0.size i (.slice (some ⟨g, 0, none⟩) i n)).run Tryz.prog w.drew = .ok ((arcCells l).take (i * 2)).toArray w.drew := by
    rw [hz1]
    exact run_firstCells_some w.drew 2 i ⟨g, 0, none⟩ i n ((arcCells l).take (i * 2)) (by rw [List.length_take]; omega) (fun j v hj => by
      rw [Addr.add_mid, Nat.zero_add]
      rw [List.getElem?_take] at hj
      split at hj
      · exact owns_cell (w := w.drew) hown hj
      · cases hj)
  have hrz : ∀ ty, (Builtin.append_ #[174, 3] ty #[.slice (some ⟨g, 0, none⟩) i n, .int .i64 ((n : Int) + 1 - (i : Int))]).run Tryz.prog w =
      .ok (.slice (some ⟨w.heap.size, 0, none⟩) (n + 1) (grownCap w (n + 1) n 202)) (w.drew.alloc (.cells (((arcCells l).take (i * 2)).toArray ++ Builtin.zeroCells (Value.agg #[.int .i64 0, .float .f64 0]).cells (n + 1 - i) ++ Builtin.zeroCells (Value.agg #[.int .i64 0, .float .f64 0]).cells (grownCap w (n + 1) n 202 - (n + 1))) 202)) := fun ty => by
    have h := Lib.run_append_grow_zeros w 174 3 ty 202 i0 _ .i64 .i64 Tryz.underlying174 Tryz.underlying3 hi0 hz0 (some ⟨g, 0, none⟩) i n ((arcCells l).take (i * 2)) hold (n + 1 - i) (by omega) (by omega) (by omega) (by omega) (by rw [hz2]; omega) (by rw [hz2, hik]; exact growslice_fits (by omega) (by omega))
    rw [hik] at h
    rw [hkk]
    exact h
  have hGn : n + 1 ≤ grownCap w (n + 1) n 202 := grownCap_ge w _ _ _
  have hGm : grownCap w (n + 1) n 202 ≤ maxLen := grownCap_le_maxLen w _ _ _ (by unfold maxLen; omega)
  generalize grownCap w (n + 1) n 202 = G at hrz hGn hGm
  have hzl : (Builtin.zeroCells (Value.agg #[.int .i64 0, .float .f64 0]).cells (n + 1 - i)).size = (n - i) * 2 + 2 := by rw [size_zeroCells]; show (n + 1 - i) * 2 = _; omega
  have hW1 : (w.drew.alloc (.cells (((arcCells l).take (i * 2)).toArray ++ Builtin.zeroCells (Value.agg #[.int .i64 0, .float .f64 0]).cells (n + 1 - i) ++ Builtin.zeroCells (Value.agg #[.int .i64 0, .float .f64 0]).cells (G - (n + 1))) 202)).ownsRow w.heap.size 202 2
      (.slice (some ⟨w.heap.size, 0, none⟩) (n + 1) G) (n + 1) ((arcCells l).take (i * 2) ++ (Builtin.zeroCells (Value.agg #[.int .i64 0, .float .f64 0]).cells (n + 1 - i)).toList) := by
    refine ⟨by rw [List.length_append, List.length_take, hl2, Array.length_toList, hzl]; omega, .inr ⟨w.heap.size, G, _, rfl, Nat.le_refl _, heap_alloc_new w.drew _, hGn, hGm, ?_, ?_⟩⟩
    · rw [Array.size_append, Array.size_append, hzl, size_zeroCells, List.size_toArray, List.length_take, hl2]
      show min (i * 2) (n * 2) + ((n - i) * 2 + 2) + (G - (n + 1)) * 2 = G * 2
      omega
    · rw [Array.toList_append, Array.toList_append, List.toList_toArray]
      refine (List.take_append_of_le_length ?_).trans (List.take_of_length_le ?_)
      · rw [List.length_append, List.length_take, hl2, Array.length_toList, hzl]; omega
      · rw [List.length_append, List.length_take, hl2, Array.length_toList, hzl]; omega
  have hG1 : w.grownBy (w.drew.alloc (.cells (((arcCells l).take (i * 2)).toArray ++ Builtin.zeroCells (Value.agg #[.int .i64 0, .float .f64 0]).cells (n + 1 - i) ++ Builtin.zeroCells (Value.agg #[.int .i64 0, .float .f64 0]).cells (G - (n + 1))) 202)) none :=
    row_drew (World.grownBy_alloc w.drew _ none)
  generalize w.drew.alloc (.cells (((arcCells l).take (i * 2)).toArray ++ Builtin.zeroCells (Value.agg #[.int .i64 0, .float .f64 0]).cells (n + 1 - i) ++ Builtin.zeroCells (Value.agg #[.int .i64 0, .float .f64 0]).cells (G - (n + 1))) 202) = W1 at hW1 hG1 hrz
  generalize (Builtin.zeroCells (Value.agg #[.int .i64 0, .float .f64 0]).cells (n + 1 - i)).toList = zs at hW1
  have hcs : ((arcCells l).drop (i * 2)).length = (n - i) * 2 := by rw [List.length_drop, hl2, Nat.sub_mul]
  have hl1 : ((arcCells l).take (i * 2) ++ zs).length = (n + 1) * 2 := hW1.1
  have hvW : W1.heap[vb]? = some (.cells #[.int .i64 z.1, .float .f64 z.2] 202 (0, 0)) := by rw [hG1.block vb hvw (by simp)]; exact hv
  obtain ⟨cur, hcur, hfit, hW2, hG2⟩ := owns_copy (cs := [.int .i64 z.1, .float .f64 z.2]) hW1 (i * 2) (by rw [hl1]; show i * 2 + 2 ≤ _; omega)
  have hsrc : ∀ j v, ([.int .i64 z.1, .float .f64 z.2] : List Value)[j]? = some v → W1.cell? ((⟨vb, 0, none⟩ : Addr).add j) = some v := fun j v hj => by
    rw [Addr.add_mid]
    simp only [World.cell?, hvW, Nat.zero_add]
    simpa using hj
  have hcp1 : ∀ ty, (Builtin.copy_ #[174, 174] ty #[.slice (some ⟨w.heap.size, i * 2, none⟩) (n + 1 - i) (G - i), .slice (some ⟨vb, 0, none⟩) 1 1]).run Tryz.prog W1 = _ := fun ty =>
    run_copy_sized W1 _ _ ty 202 w.heap.size (i * 2) (n + 1 - i) (G - i) ⟨vb, 0, none⟩ 1 1 cur _ [.int .i64 z.1, .float .f64 z.2] 2 Tryz.underlying174 hsz hcur (by rw [show Nat.min 1 (n + 1 - i) = 1 from Nat.min_eq_left (by omega)]; rfl) hsrc hfit (by simp [Value.oneCell'])
  generalize W1.setRow w.heap.size (cur.toList.take (i * 2) ++ ([.int .i64 z.1, .float .f64 z.2] : List Value) ++ cur.toList.drop (i * 2 + ([.int .i64 z.1, .float .f64 z.2] : List Value).length)).toArray = W2 at hW2 hG2 hcp1
  have hl3 : (splice ((arcCells l).take (i * 2) ++ zs) (i * 2) [.int .i64 z.1, .float .f64 z.2]).length = (n + 1) * 2 := hW2.1
  obtain ⟨cur2, hcur2, hfit2, hW3, hG3⟩ := owns_copy (w := W2.drew) (cs := (arcCells l).drop (i * 2)) hW2 ((i + 1) * 2) (by rw [hl3, hcs]; omega)
  have hsrc2 : ∀ j v, ((arcCells l).drop (i * 2))[j]? = some v → W2.drew.cell? ((⟨g, i * 2, none⟩ : Addr).add j) = some v := fun j v hj => by
    rw [Addr.add_mid]
    rw [List.getElem?_drop] at hj
    have h0 := owns_cell hown hj
    have h1 : W1.cell? ⟨g, i * 2 + j, none⟩ = some v := hG1.cell h0 (by simp)
    have h2 : W2.cell? ⟨g, i * 2 + j, none⟩ = some v := hG2.cell h1 (by simp; omega)
    exact h2
  have hcp2 : ∀ ty, (Builtin.copy_ #[174, 174] ty #[.slice (some ⟨w.heap.size, (i + 1) * 2, none⟩) (n - i) (G - (i + 1)), .slice (some ⟨g, i * 2, none⟩) (n - i) (n - i)]).run Tryz.prog W2.drew = _ := fun ty =>
    run_copy_sized W2.drew _ _ ty 202 w.heap.size ((i + 1) * 2) (n - i) (G - (i + 1)) ⟨g, i * 2, none⟩ (n - i) (n - i) cur2 _ ((arcCells l).drop (i * 2)) 2 Tryz.underlying174 hsz hcur2 (by rw [show Nat.min (n - i) (n - i) = n - i from Nat.min_eq_left (by omega)]; exact hcs) hsrc2 hfit2 (fun v hv => arc_one l v (List.mem_of_mem_drop hv))
  generalize W2.drew.setRow w.heap.size (cur2.toList.take ((i + 1) * 2) ++ (arcCells l).drop (i * 2) ++ cur2.toList.drop ((i + 1) * 2 + ((arcCells l).drop (i * 2)).length)).toArray = W3 at hW3 hG3 hcp2
  have hfinal : Hid (W3.ownsRow base 202 2 (.slice (some ⟨w.heap.size, 0, none⟩) (n + 1) G) (n + 1) (arcCells (l.take i ++ z :: l.drop i))) := by
    have e1 : arcCells (l.take i ++ z :: l.drop i) = (arcCells l).take (i * 2) ++ ([.int .i64 z.1, .float .f64 z.2] ++ (arcCells l).drop (i * 2)) := by
      rw [arcCells_append, arcCells_take]
      show _ ++ (([.int .i64 (z.1 : Int), .float .f64 z.2] : List Value) ++ arcCells (l.drop i)) = _
      rw [arcCells_drop]
    rw [e1, ← ins_new (arcCells l) zs z (m := n - i) (by rw [List.length_append, List.length_take, hl2] at hl1; omega) (by rw [hl2]; omega)]
    exact owns_base hW3 hbase
  have hgrow : Hid (w.grownBy W3 (some g)) := by
    refine ⟨?_, ?_, ?_, ?_, fun k hk hne => ?_⟩
    · exact (hG3.os.trans hG2.os).trans hG1.os
    · exact (hG3.tape.trans hG2.tape).trans hG1.tape
    · exact (hG3.output.trans hG2.output).trans hG1.output
    · exact Nat.le_trans hG1.size (Nat.le_trans hG2.size hG3.size)
    · rw [hG3.block k (Nat.lt_of_lt_of_le hk (Nat.le_trans hG1.size hG2.size)) (by simp; omega)]
      show W2.heap[k]? = _
      rw [hG2.block k (Nat.lt_of_lt_of_le hk hG1.size) (by simp; omega), hG1.block k hk (by simp)]
  have hc0 := Lib.hid hrz
  have hc1 := Lib.hid hcp1
  have hc2 := Lib.hid hcp2
  have hG63 : G ≤ 9223372036854775807 := by unfold maxLen at hGm; omega
  have hGi : ¬ (G = i) := by omega
  have hGi1 : ¬ (G = i + 1) := by omega
  have hni : ¬ (n = i) := by omega
  have hIn2 : (i : Int) + 1 ≤ (n : Int) + 1 := by omega
  have hIn : (i : Int) ≤ (n : Int) := by omega
  have hw1 : IntKind.i64.wrap ((i : Int) + 1) = (i : Int) + 1 := by rw [IntKind.wrap_i64]; omega
  have hb1 : (0 : Int) ≤ (i : Int) + 1 := by omega
  have htn : ((i : Int) + 1).toNat = i + 1 := by omega
  clear hkk hik hold hrz hcp1 hcp2 hG1 hG2 hG3 hW1 hW2 hW3 hcs hl1 hl3 hvW hcur hcur2 hfit hfit2 hsrc hsrc2 hown hv hsz hl2 hzl hi0 hz0 hz1 hz2
  go_enter Tryz.func122, Tryz.ntmps122
  go_wp2_with (first
    | (at_builtin; refine Lib.wpList_append_run _ rfl (.tmp 34) (.tmp 39) 174 3 rfl _ _ rfl rfl _ _ (unhide hc0 _) ?_)
    | (with_reducible refine wpList_copy_run (o := ⟨some 45, _, _, _, _, _⟩) rfl (.tmp 43) (.tmp 44) 174 174 rfl (.slice (some ⟨w.heap.size, i * 2, none⟩) (n + 1 - i) (G - i)) (.slice (some ⟨vb, 0, none⟩) 1 1) rfl rfl (unhide hc1) ?_))
  go_region_law (refine step_copy_run rfl (.tmp 50) (.tmp 53) 174 174 rfl _ _ (by simp [Act.eval, Act.put]) (by simp [Act.eval, Act.put]) (unhide hc2) ?_)
  clear hw1 hb1 htn
  go_wp2
  go_ret
  exact ⟨some ⟨w.heap.size, 0, none⟩, G, rfl, hfinal.out, hgrow.out, .inr ⟨_, rfl, Nat.le_refl _⟩⟩
end Go.Proofs.YthpjmjohdliohaaGreat
