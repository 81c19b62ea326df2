/- slices.Reverse at rows whose elements are of one cell; at nodes. -/
import Derived.Test.YtfihclhceakmdaaIter
import Derived.Shelf.SlicesE.Reverse
namespace Go.Proofs.Ytfihclhceakmdaa
open Go.RowKit Go.Sort Go.Lib

/-- A value of one cell. -/
abbrev OneV := { v : Value // v.oneCell' = true }
instance : Inhabited OneV := ⟨⟨.nilIface, rfl⟩⟩
theorem oneV_cell : OneCell (Subtype.val : OneV → Value) := fun x => x.2
theorem oneV_list : ∀ (xs : List Value), (∀ u ∈ xs, u.oneCell' = true) → ∃ zs : List OneV, zs.map Subtype.val = xs
  | [], _ => ⟨[], rfl⟩
  | x :: xs, h => by
    obtain ⟨zs, e⟩ := oneV_list xs fun u hu => h u (List.mem_cons_of_mem _ hu)
    exact ⟨⟨x, h x List.mem_cons_self⟩ :: zs, by rw [List.map_cons, e]⟩

theorem holds_oneV {w : World} {base e n cap g : Nat} {zs : List OneV} (h : w.ownsRow base e 1 (.slice (some ⟨g, 0, none⟩) n cap) n (zs.map Subtype.val)) : Holds (Subtype.val : OneV → Value) w g 0 zs.toArray := by
  intro j hj
  have hj' : j < zs.length := by simpa using hj
  rw [Nat.zero_add]
  refine ⟨?_, owns_free h j⟩
  have e : zs.toArray[j]! = zs[j] := by simp [hj']
  rw [e]
  exact owns_cell h (by rw [List.getElem?_map, List.getElem?_eq_getElem hj']; rfl)

theorem owns_putV {w : World} {base e n cap g k : Nat} {zs ys : List OneV} (h : w.ownsRow base e 1 (.slice (some ⟨g, 0, none⟩) n cap) n (zs.map Subtype.val)) (hl : ys.length = zs.length) :
    (putRow (Subtype.val : OneV → Value) (Sort.ahead w k) g 0 ys.toArray).ownsRow base e 1 (.slice (some ⟨g, 0, none⟩) n cap) n (ys.map Subtype.val) := by
  have hzl : (zs.map Subtype.val).length = n * 1 := h.1
  have hzs : zs.length = n := by rw [List.length_map] at hzl; omega
  obtain ⟨_, h | ⟨g', cap', cur, hv, hg, hh, hn, hm, hs, ht⟩⟩ := h
  · simp at h
  · injection hv with hv _ hcap
    injection hv with hv
    injection hv with hv _ _
    subst hv; subst hcap
    refine ⟨by rw [List.length_map, hl, hzs, Nat.mul_one], .inr ⟨g, cap, putCells (Subtype.val : OneV → Value) 0 ys.toArray cur, rfl, hg, ?_, hn, hm, by simp [putCells, hs], ?_⟩⟩
    · have hgl : g < w.heap.size := lt_of_block hh
      simp [putRow, mapBlock, Sort.ahead, Array.getElem?_modify, hh, onCells]
    · apply List.ext_getElem?
      intro j
      by_cases hj : j < n
      · rw [List.getElem?_take_of_lt (by omega), Array.getElem?_toList]
        simp [putCells, hl, hzs, hj, show j < cur.size by omega]
      · rw [List.getElem?_take_eq_none (by omega), List.getElem?_eq_none (by rw [List.length_map]; omega)]

theorem grown_putV {w : World} {g n : Nat} (d : Array OneV) : w.grownBy (putRow (Subtype.val : OneV → Value) (Sort.ahead w n) g 0 d) (some g) := by
  refine ⟨rfl, rfl, rfl, by simp, fun k hk hne => ?_⟩
  have : g ≠ k := fun e => hne (by rw [e])
  simp [putRow, mapBlock, Sort.ahead, Array.getElem?_modify, this]

theorem reverse_own {P : Program} {ρ : Go.Shelf.Ren} (L : Go.Proofs.SlLaysE.n35 P ρ) (base e n cap : Nat) (a : Option Addr) (xs : List Value) (w : World) (h1 : ∀ u ∈ xs, u.oneCell' = true) (hn : n ≤ 1048576) (hown : w.ownsRow base e 1 (.slice a n cap) n xs) :
    Calls P (ρ.f 35) #[.slice a n cap] w fun e' w' => e' = .returned (.tuple #[]) ∧ w'.ownsRow base e 1 (.slice a n cap) n xs.reverse ∧ w.grownBy w' (Value.slice a n cap).ownBlock := by
  obtain ⟨zs, rfl⟩ := oneV_list xs h1
  have hl : zs.length = n := by have := hown.1; rw [List.length_map] at this; omega
  by_cases h0 : n = 0
  · subst h0
    have hz : zs = [] := List.eq_nil_of_length_eq_zero hl
    subst hz
    refine (AnyE.slices_Reverse_empty L a cap w).mono ?_
    rintro e' w' ⟨rfl, rfl⟩
    exact ⟨rfl, hown, World.grownBy.refl _ _⟩
  · obtain ⟨g, rfl, _⟩ := owns_at hown (by omega)
    subst hl
    refine (AnyE.slices_Reverse L (Subtype.val : OneV → Value) oneV_cell g 0 cap zs w (holds_oneV hown) (by omega)).mono ?_
    rintro e' w' ⟨rfl, k, rfl⟩
    refine ⟨rfl, ?_, grown_putV _⟩
    rw [← List.map_reverse]
    exact owns_putV (ys := zs.reverse) hown (List.length_reverse)

def rvNRen : Go.Shelf.Ren := ⟨fun | 35 => 23 | n => n, fun | 22 => 47 | 23 => 67 | 3 => 3 | 4 => 4 | 0 => 0 | n => n, fun | n => n⟩
theorem rvNLays : Go.Proofs.SlLaysE.n35 Try.prog rvNRen := {
  mixed := by kernel_rfl
  f35 := ⟨Try.f23.name, by decide, Try.func23.trans (congrArg some (by kernel_rfl))⟩
  t0 := Try.underlying0
  a0 := Try.isAgg0
  z0 := Try.sizeOf0
  v0 := Try.zeroValue0
  t3 := Try.underlying3
  a3 := Try.isAgg3
  z3 := Try.sizeOf3
  v3 := Try.zeroValue3
  t4 := Try.underlying4
  a4 := Try.isAgg4
  z4 := Try.sizeOf4
  v4 := Try.zeroValue4
  t22 := Try.underlying47
  a22 := Try.isAgg47
  z22 := Try.sizeOf47
  v22 := Try.zeroValue47
  a23 := Try.isAgg67
  z23 := Try.sizeOf67 }

end Go.Proofs.Ytfihclhceakmdaa
