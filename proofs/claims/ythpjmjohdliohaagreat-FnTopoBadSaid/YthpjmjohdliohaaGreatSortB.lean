/- The order by places: the closures of impl.SortBy.
   topo.tarjanSCCstabilized with an order of its own: the walk. -/
import Derived.Test.YthpjmjohdliohaaGreatSortA
import Derived.Test.YthpjmjohdliohaaGreatNumA
import Derived.Test.YthpjmjohdliohaaGreatPartsA
import Derived.Test.YthpjmjohdliohaaGreatTarjan2
import Derived.Test.YthpjmjohdliohaaGreatScc
namespace Go.Proofs.YthpjmjohdliohaaGreat
open Go.RowKit Go.Shelf Go.Sort Go.Lib

/-- Nodes in the order of their places. -/
def srtBy (pl : List Int) (zs : List Int) : List Int := zs.mergeSort fun x y => decide (idxI pl x ≤ idxI pl y)
theorem srtBy_perm (pl zs : List Int) : (srtBy pl zs).Perm zs := List.mergeSort_perm zs _
theorem srtBy_length (pl zs : List Int) : (srtBy pl zs).length = zs.length := (srtBy_perm pl zs).length_eq
theorem srtBy_mem {pl zs : List Int} {x : Int} : x ∈ srtBy pl zs ↔ x ∈ zs := (srtBy_perm pl zs).mem_iff

/-- The list of places in its box. -/
def PlAt (W : World) (pb : Nat) (pl : List Int) : Prop := ∃ (a : Option Addr) (c : Nat), W.cell? ⟨pb, 0, none⟩ = some (.slice a pl.length c) ∧ Cells W a (ints pl)
theorem PlAt.below {W W' : World} {pb : Nat} {pl : List Int} (h : PlAt W pb pl) (hb : Below W.heap.size W W') : PlAt W' pb pl := by
  obtain ⟨a, c, h1, h2⟩ := h
  exact ⟨a, c, cell_below hb h1, h2.below hb⟩

/-- A node that has a place. -/
abbrev PlV (pl : List Int) := { x : Int // x ∈ pl }
def plEnc (pl : List Int) (x : PlV pl) : Value := nodev x.1
def plCmp (pl : List Int) (x y : PlV pl) : Int := idxI pl x.1 - idxI pl y.1

theorem idxI_inj {pl : List Int} {x y : Int} (hx : x ∈ pl) (hy : y ∈ pl) (h : idxI pl x = idxI pl y) : x = y := by
  unfold idxI at h
  rw [if_pos hx, if_pos hy] at h
  have h' : pl.idxOf x = pl.idxOf y := by omega
  have e1 := List.getElem_idxOf (List.idxOf_lt_length_of_mem hx)
  have e2 := List.getElem_idxOf (List.idxOf_lt_length_of_mem hy)
  rw [← e1, ← e2]
  simp only [h']

theorem plCmp_lt (pl : List Int) (x y : PlV pl) : ltOf (plCmp pl) x y = decide (idxI pl x.1 < idxI pl y.1) := by
  unfold ltOf plCmp
  by_cases h : idxI pl x.1 < idxI pl y.1
  · rw [decide_eq_true h]; simp; omega
  · rw [decide_eq_false h]; simp; omega
theorem plCmp_swo (pl : List Int) : SWO (ltOf (plCmp pl)) where
  irrefl := fun x => by rw [plCmp_lt]; simp
  trans := fun x y z h1 h2 => by rw [plCmp_lt] at *; simp at *; omega
  ntrans := fun x y z h1 h2 => by rw [plCmp_lt] at *; simp at *; omega
theorem plCmp_total (pl : List Int) (x y : PlV pl) (h1 : ltOf (plCmp pl) x y = false) (h2 : ltOf (plCmp pl) y x = false) : x = y := by
  rw [plCmp_lt] at h1 h2
  have h1' := of_decide_eq_false h1
  have h2' := of_decide_eq_false h2
  exact Subtype.ext (idxI_inj x.2 y.2 (by omega))

section
variable {α : Type} [Inhabited α] {enc : α → Value}
theorem holds_enc {w : World} {base e n cap g : Nat} {zs : List α} (h : w.ownsRow base e 1 (.slice (some ⟨g, 0, none⟩) n cap) n (zs.map enc)) : Holds enc w g 0 zs.toArray := by
  intro j hj
  have hj' : j < zs.length := by simpa using hj
  rw [Nat.zero_add]
  refine ⟨?_, owns_free h j⟩
  have e : zs.toArray[j]! = zs[j] := by simp [hj']
  rw [e]
  exact owns_cell h (by rw [List.getElem?_map, List.getElem?_eq_getElem hj']; rfl)
theorem owns_putE {w : World} {base e n cap g k : Nat} {os : Array Obj} {zs ys : List α} (h : w.ownsRow base e 1 (.slice (some ⟨g, 0, none⟩) n cap) n (zs.map enc)) (hl : ys.length = zs.length) :
    (grow (putRow enc (Sort.ahead w k) g 0 ys.toArray) os).ownsRow base e 1 (.slice (some ⟨g, 0, none⟩) n cap) n (ys.map enc) := by
  have hzl : (zs.map enc).length = n * 1 := h.1
  have hzs : zs.length = n := by rw [List.length_map] at hzl; omega
  obtain ⟨_, h | ⟨g', cap', cur, hv, hg, hh, hn, hm, hs, ht⟩⟩ := h
  · simp at h
  · injection hv with hv _ hcap
    injection hv with hv
    injection hv with hv _ _
    subst hv; subst hcap
    refine ⟨by rw [List.length_map, hl, hzs, Nat.mul_one], .inr ⟨g, cap, putCells enc 0 ys.toArray cur, rfl, hg, ?_, hn, hm, by simp [putCells, hs], ?_⟩⟩
    · have hgl : g < w.heap.size := lt_of_block hh
      rw [heap_grow_old _ _ (by simpa using hgl)]
      simp [putRow, mapBlock, Sort.ahead, Array.getElem?_modify, hh, onCells]
    · apply List.ext_getElem?
      intro j
      by_cases hj : j < n
      · rw [List.getElem?_take_of_lt (by omega), Array.getElem?_toList]
        simp [putCells, hl, hzs, hj, show j < cur.size by omega]
      · rw [List.getElem?_take_eq_none (by omega), List.getElem?_eq_none (by rw [List.length_map]; omega)]
theorem grown_putE {w : World} {g n : Nat} {os : Array Obj} (d : Array α) : w.grownBy (grow (putRow enc (Sort.ahead w n) g 0 d) os) (some g) := by
  refine ⟨rfl, rfl, rfl, by simp, fun k hk hne => ?_⟩
  rw [heap_grow_old _ _ (by simpa using hk)]
  have : g ≠ k := fun e => hne (by rw [e])
  simp [putRow, mapBlock, Sort.ahead, Array.getElem?_modify, this]
end

theorem pl_list (pl : List Int) : ∀ (zs : List Int), (∀ z ∈ zs, z ∈ pl) → ∃ ys : List (PlV pl), ys.map Subtype.val = zs
  | [], _ => ⟨[], rfl⟩
  | z :: zs, h => by
    obtain ⟨ys, e⟩ := pl_list pl zs fun u hu => h u (List.mem_cons_of_mem _ hu)
    exact ⟨⟨z, h z List.mem_cons_self⟩ :: ys, by rw [List.map_cons, e]⟩

theorem plEnc_map (pl : List Int) (ys : List (PlV pl)) : ys.map (plEnc pl) = nodes (ys.map Subtype.val) := by
  unfold nodes
  rw [List.map_map]
  rfl

end Go.Proofs.YthpjmjohdliohaaGreat

namespace Go.Proofs.YthpjmjohdliohaaGreat
open Go.RowKit

theorem nodes_rev (zs : List Int) : (nodes zs).reverse = nodes zs.reverse := by unfold nodes; rw [List.map_reverse]
theorem nodes_one (zs : List Int) : ∀ u ∈ nodes zs, u.oneCell' = true := fun u hu => by
  obtain ⟨x, _, rfl⟩ := List.mem_map.1 hu
  rfl

/-- The successors in the order of SortBy, as the closure turns them. -/
def succBy (pl ids : List Int) (outs : List (List Arc)) (x : Int) : List Int := (srtBy pl (succOf ids outs x)).reverse
theorem succBy_length (pl ids : List Int) (outs : List (List Arc)) (x : Int) : (succBy pl ids outs x).length = (succOf ids outs x).length := by unfold succBy; rw [List.length_reverse, srtBy_length]

theorem revNodes_any (base n cap : Nat) (a : Option Addr) (zs : List Int) (W : World) (hn : n ≤ 1048576) (hown : W.ownsRow base 85 1 (.slice a n cap) n (nodes zs)) :
    Calls Tryz.prog 51 #[.slice a n cap] W
      fun e w' => e = .returned (.tuple #[]) ∧ w'.ownsRow base 85 1 (.slice a n cap) n (nodes zs.reverse) ∧ W.grownBy w' (Value.slice a n cap).ownBlock := by
  have := reverse_own rvNLays base 85 n cap a (nodes zs) W (nodes_one zs) hn hown
  rw [nodes_rev] at this
  exact this

/-- The struct and its maps, new. -/
def TarNew2 (w3 : World) (gb : Nat) (s7 : Value) (wx : World) : Prop :=
  ∃ tb m1 m2 m3, s7 = .pointer (some ⟨tb, 0, none⟩) ∧ wx.heap[tb]? = some (.cells #[.func (.func 68) #[] #[.pointer (some ⟨gb, 0, none⟩), .pointer (some ⟨gb + 1, 0, none⟩)], .int .i64 0, .map (some m1), .map (some m2), .map (some m3), .slice none 0 0, .slice none 0 0] 143 (0, 0)) ∧
    wx.heap[m1]? = some (.map #[] 0) ∧ wx.heap[m2]? = some (.map #[] 0) ∧ wx.heap[m3]? = some (.map #[] 0) ∧ w3.heap.size ≤ tb ∧ w3.heap.size ≤ m1 ∧ w3.heap.size ≤ m2 ∧ w3.heap.size ≤ m3 ∧ m1 ≠ m2 ∧ m1 ≠ m3 ∧ m2 ≠ m3 ∧ Below w3.heap.size w3 wx

theorem tar_ex2 {w3 wx : World} {gb tb m1 m2 m3 : Nat} (h0 : wx.heap[tb]? = some (.cells #[.func (.func 68) #[] #[.pointer (some ⟨gb, 0, none⟩), .pointer (some ⟨gb + 1, 0, none⟩)], .int .i64 0, .map (some m1), .map (some m2), .map (some m3), .slice none 0 0, .slice none 0 0] 143 (0, 0)))
    (h1 : wx.heap[m1]? = some (.map #[] 0)) (h2 : wx.heap[m2]? = some (.map #[] 0)) (h3 : wx.heap[m3]? = some (.map #[] 0)) (l0 : w3.heap.size ≤ tb) (l1 : w3.heap.size ≤ m1) (l2 : w3.heap.size ≤ m2) (l3 : w3.heap.size ≤ m3) (n1 : m1 ≠ m2) (n2 : m1 ≠ m3) (n3 : m2 ≠ m3) (hb : Below w3.heap.size w3 wx) :
    TarNew2 w3 gb (.pointer (some ⟨tb, 0, none⟩)) wx := ⟨tb, m1, m2, m3, rfl, h0, h1, h2, h3, l0, l1, l2, l3, n1, n2, n3, hb⟩

end Go.Proofs.YthpjmjohdliohaaGreat
