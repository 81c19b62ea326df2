/- The order by places: the closures of impl.SortBy. -/
import Derived.Test.YtagnmdhdogaijaaGreatSortedFrom
import Derived.Test.YtagnmdhdogaijaaGreatNumbers
import Derived.Test.YtagnmdhdogaijaaGreatParts
namespace Go.Proofs.YtagnmdhdogaijaaGreat
open Go.RowKit Go.Shelf Go.Sort Go.Lib

/-- Nodes in the order of their places. -/
def srtBy (pl : List Int) (zs : List Int) : List Int := zs.mergeSort fun x y => decide (idxI pl x ≤ idxI pl y)
theorem srtBy_perm (pl zs : List Int) : (srtBy pl zs).Perm zs := List.mergeSort_perm zs _
theorem srtBy_length (pl zs : List Int) : (srtBy pl zs).length = zs.length := (srtBy_perm pl zs).length_eq
theorem srtBy_mem {pl zs : List Int} {x : Int} : x ∈ srtBy pl zs ↔ x ∈ zs := (srtBy_perm pl zs).mem_iff

/-- The list of places in its box. -/
def PlAt (W : World) (pb : Nat) (pl : List Int) : Prop := ∃ (a : Option Addr) (c : Nat), W.cell? ⟨pb, 0, none⟩ = some (.slice a pl.length c) ∧ Cells W a (ints pl)
theorem PlAt.below {W W' : World} {pb : Nat} {pl : List Int} (h : PlAt W pb pl) (hb : Below W.heap.size W W') : PlAt W' pb pl := by
  obtain ⟨a, c, h1, h2⟩ := h
  exact ⟨a, c, cell_below hb h1, h2.below hb⟩

/-- A node that has a place. -/
abbrev PlV (pl : List Int) := { x : Int // x ∈ pl }
def plEnc (pl : List Int) (x : PlV pl) : Value := nodev x.1
def plCmp (pl : List Int) (x y : PlV pl) : Int := idxI pl x.1 - idxI pl y.1

theorem idxI_inj {pl : List Int} {x y : Int} (hx : x ∈ pl) (hy : y ∈ pl) (h : idxI pl x = idxI pl y) : x = y := by
  unfold idxI at h
  rw [if_pos hx, if_pos hy] at h
  have h' : pl.idxOf x = pl.idxOf y := by omega
  have e1 := List.getElem_idxOf (List.idxOf_lt_length_of_mem hx)
  have e2 := List.getElem_idxOf (List.idxOf_lt_length_of_mem hy)
  rw [← e1, ← e2]
  simp only [h']

theorem plCmp_lt (pl : List Int) (x y : PlV pl) : ltOf (plCmp pl) x y = decide (idxI pl x.1 < idxI pl y.1) := by
  unfold ltOf plCmp
  by_cases h : idxI pl x.1 < idxI pl y.1
  · rw [decide_eq_true h]; simp; omega
  · rw [decide_eq_false h]; simp; omega
theorem plCmp_swo (pl : List Int) : SWO (ltOf (plCmp pl)) where
  irrefl := fun x => by rw [plCmp_lt]; simp
  trans := fun x y z h1 h2 => by rw [plCmp_lt] at *; simp at *; omega
  ntrans := fun x y z h1 h2 => by rw [plCmp_lt] at *; simp at *; omega
theorem plCmp_total (pl : List Int) (x y : PlV pl) (h1 : ltOf (plCmp pl) x y = false) (h2 : ltOf (plCmp pl) y x = false) : x = y := by
  rw [plCmp_lt] at h1 h2
  have h1' := of_decide_eq_false h1
  have h2' := of_decide_eq_false h2
  exact Subtype.ext (idxI_inj x.2 y.2 (by omega))

theorem indexInt_any (a : Option Addr) (n c : Nat) (pl : List Int) (x : Int) (w : World) (hl : n = pl.length) (hbig : pl.length ≤ 1048576) (hx : x ∈ pl) (hc : Cells w a (ints pl)) :
    Calls Tryz.prog 40 #[.slice a n c, .int .i64 x] w fun e w' => e = .returned (.int .i64 (idxI pl x)) ∧ w' = w := by
  subst hl
  obtain ⟨b, off, rfl, _, hr⟩ := hc.at (by rw [ints_length]; exact List.length_pos_of_mem hx)
  refine (Tryz.slices_Index_int b off pl.length c pl x w (Nat.le_refl _) (by omega) (fun j hj => ?_)).mono ?_
  · have := hr _ _ (ints_get pl j hj)
    rw [this]
    simp [hj]
  · rintro e w' ⟨rfl, rfl⟩
    refine ⟨?_, rfl⟩
    rw [List.take_length]
    have hlt := List.idxOf_lt_length_of_mem hx
    have h := Lib.idxFrom_hit x pl (pl.idxOf x) 0 hlt (by simp [hlt]) (fun j hj => by
      have hj' : j < pl.length := by omega
      have := List.not_of_lt_findIdx (p := (· == x)) (xs := pl) (i := j) hj
      simpa [hj'] using this)
    show Ending.returned (.int .i64 (Lib.idxFrom pl x 0)) = _
    rw [h, Nat.zero_add]
    unfold idxI
    rw [if_pos hx]

set_option maxHeartbeats 1000000 in
theorem cmpBy_any (pb : Nat) (pl : List Int) (x y : Int) (W : World) (hp : PlAt W pb pl) (hbig : pl.length ≤ 1048576) (hx : x ∈ pl) (hy : y ∈ pl) :
    Calls Tryz.prog 39 #[nodev x, nodev y, .pointer (some ⟨pb, 0, none⟩)] W fun e w' => e = .returned (.int .i64 (idxI pl x - idxI pl y)) ∧ ∃ q, w' = W.drewN q := by
  obtain ⟨a, c, hc, hcs⟩ := hp
  have hi : Hid (∀ z, z ∈ pl → ∀ q, Calls Tryz.prog 40 #[.slice a pl.length c, .int .i64 z] (W.drewN q) fun e w' => e = .returned (.int .i64 (idxI pl z)) ∧ w' = W.drewN q) := fun z hz q =>
    (indexInt_any a _ c pl z (W.drewN q) rfl hbig hz (hcs.drewN q)).mono fun e w' ⟨h1, h2⟩ => ⟨h1, h2⟩
  have hn : Hid (∀ z q, Calls Tryz.prog 41 #[.iface 204 (.int .i64 z)] (W.drewN q) fun e w' => e = .returned (.int .i64 z) ∧ w' = W.drewN q) := fun z q =>
    (number_any z (W.drewN q)).mono fun e w' ⟨h1, h2⟩ => ⟨h1, h2.symm⟩
  have hbnd : ∀ z, z ∈ pl → ∃ k : Nat, idxI pl z = k ∧ k < pl.length := fun z hz => by
    unfold idxI
    rw [if_pos hz]
    exact ⟨_, rfl, List.idxOf_lt_length_of_mem hz⟩
  obtain ⟨kx, ex, lx⟩ := hbnd x hx
  obtain ⟨ky, ey, ly⟩ := hbnd y hy
  have hix := Lib.hid (hi.out x hx)
  have hiy := Lib.hid (hi.out y hy)
  rw [ex] at hix ⊢
  rw [ey] at hiy ⊢
  unfold nodev
  clear hcs hi hbnd ex ey
  go_enter Tryz.func39, Tryz.ntmps39
  go_wp2_with fail
  go_quiet (first
    | (go_at_call 41; with_reducible exact Calls.quiet_of_same (hn.out _ _))
    | (go_at_call 40; with_reducible first | exact Calls.quiet_of_same (hix.out _) | exact Calls.quiet_of_same (hiy.out _)))
  go_wp2_with fail
  go_ret
  exact ⟨rfl, _, rfl⟩

section
variable {α : Type} [Inhabited α] {enc : α → Value}
theorem holds_enc {w : World} {base e n cap g : Nat} {zs : List α} (h : w.ownsRow base e 1 (.slice (some ⟨g, 0, none⟩) n cap) n (zs.map enc)) : Holds enc w g 0 zs.toArray := by
  intro j hj
  have hj' : j < zs.length := by simpa using hj
  rw [Nat.zero_add]
  refine ⟨?_, owns_free h j⟩
  have e : zs.toArray[j]! = zs[j] := by simp [hj']
  rw [e]
  exact owns_cell h (by rw [List.getElem?_map, List.getElem?_eq_getElem hj']; rfl)
theorem owns_putE {w : World} {base e n cap g k : Nat} {os : Array Obj} {zs ys : List α} (h : w.ownsRow base e 1 (.slice (some ⟨g, 0, none⟩) n cap) n (zs.map enc)) (hl : ys.length = zs.length) :
    (grow (putRow enc (Sort.ahead w k) g 0 ys.toArray) os).ownsRow base e 1 (.slice (some ⟨g, 0, none⟩) n cap) n (ys.map enc) := by
  have hzl : (zs.map enc).length = n * 1 := h.1
  have hzs : zs.length = n := by rw [List.length_map] at hzl; omega
  obtain ⟨_, h | ⟨g', cap', cur, hv, hg, hh, hn, hm, hs, ht⟩⟩ := h
  · simp at h
  · injection hv with hv _ hcap
    injection hv with hv
    injection hv with hv _ _
    subst hv; subst hcap
    refine ⟨by rw [List.length_map, hl, hzs, Nat.mul_one], .inr ⟨g, cap, putCells enc 0 ys.toArray cur, rfl, hg, ?_, hn, hm, by simp [putCells, hs], ?_⟩⟩
    · have hgl : g < w.heap.size := lt_of_block hh
      rw [heap_grow_old _ _ (by simpa using hgl)]
      simp [putRow, mapBlock, Sort.ahead, Array.getElem?_modify, hh, onCells]
    · apply List.ext_getElem?
      intro j
      by_cases hj : j < n
      · rw [List.getElem?_take_of_lt (by omega), Array.getElem?_toList]
        simp [putCells, hl, hzs, hj, show j < cur.size by omega]
      · rw [List.getElem?_take_eq_none (by omega), List.getElem?_eq_none (by rw [List.length_map]; omega)]
theorem grown_putE {w : World} {g n : Nat} {os : Array Obj} (d : Array α) : w.grownBy (grow (putRow enc (Sort.ahead w n) g 0 d) os) (some g) := by
  refine ⟨rfl, rfl, rfl, by simp, fun k hk hne => ?_⟩
  rw [heap_grow_old _ _ (by simpa using hk)]
  have : g ≠ k := fun e => hne (by rw [e])
  simp [putRow, mapBlock, Sort.ahead, Array.getElem?_modify, this]
end

theorem pl_list (pl : List Int) : ∀ (zs : List Int), (∀ z ∈ zs, z ∈ pl) → ∃ ys : List (PlV pl), ys.map Subtype.val = zs
  | [], _ => ⟨[], rfl⟩
  | z :: zs, h => by
    obtain ⟨ys, e⟩ := pl_list pl zs fun u hu => h u (List.mem_cons_of_mem _ hu)
    exact ⟨⟨z, h z List.mem_cons_self⟩ :: ys, by rw [List.map_cons, e]⟩

theorem plEnc_map (pl : List Int) (ys : List (PlV pl)) : ys.map (plEnc pl) = nodes (ys.map Subtype.val) := by
  unfold nodes
  rw [List.map_map]
  rfl

set_option maxRecDepth 100000 in
theorem sortBy_any (base n cap : Nat) (a : Option Addr) (zs : List Int) (pb : Nat) (pl : List Int) (w0 W : World) (hn : n ≤ 1048576) (hbig : pl.length ≤ 1048576) (hsub : ∀ z ∈ zs, z ∈ pl) (hp : PlAt w0 pb pl) (hB : w0.heap.size ≤ base) (hb : Below w0.heap.size w0 W)
    (hown : W.ownsRow base 81 1 (.slice a n cap) n (nodes zs)) :
    Calls Tryz.prog 38 #[.slice a n cap, .func (.func 39) #[] #[.pointer (some ⟨pb, 0, none⟩)]] W
      fun e w' => e = .returned (.tuple #[]) ∧ w'.ownsRow base 81 1 (.slice a n cap) n (nodes (srtBy pl zs)) ∧ W.grownBy w' (Value.slice a n cap).ownBlock := by
  have hl : zs.length = n := by have := hown.1; rw [nodes_length] at this; omega
  by_cases h0 : n = 0
  · subst h0
    have hz : zs = [] := List.eq_nil_of_length_eq_zero hl
    subst hz
    refine (AnyF.slices_SortFunc_none (P := Tryz.prog) (ρ := sfRen) { sfLays with } a cap _ W).mono ?_
    rintro e w' ⟨rfl, rfl⟩
    exact ⟨rfl, by simpa [srtBy] using hown, World.grownBy.refl _ _⟩
  · obtain ⟨ys, rfl⟩ := pl_list pl zs hsub
    have hyl : ys.length = n := by rw [List.length_map] at hl; exact hl
    have hpos : 0 < ys.length := by omega
    haveI : Inhabited (PlV pl) := ⟨ys[0]⟩
    obtain ⟨g, rfl, hgb, hg, _⟩ := owns_at hown (by omega)
    rw [← plEnc_map] at hown
    subst hyl
    refine (Any.slices_SortFunc_total (P := Tryz.prog) (ρ := sfRen) sfLays (plEnc pl) (fun _ => rfl) (plCmp pl) (plCmp_swo pl) _ #[.pointer (some ⟨pb, 0, none⟩)] g 0 cap ys.toArray W (fun args w => by simp [go_sem]) (CmpReads.lays (fun m os dk _ x y => ?_)) (holds_enc hown) hg (by simp; omega) (plCmp_total pl)).mono ?_
    · have hbw : Below w0.heap.size w0 (sortWorld (plEnc pl) W g 0 m dk os) := by
        have h1 : W.grownBy (sortWorld (plEnc pl) W g 0 m dk os) (some g) := grown_putE dk
        exact hb.grown h1 hb.size (fun k hk => by injection hk with hk; omega)
      exact (cmpBy_any pb pl x.1 y.1 _ (hp.below hbw) hbig x.2 y.2).mono fun e w' ⟨h1, h2⟩ => ⟨h1, h2⟩
    · rintro e w' ⟨rfl, k, os, rfl⟩
      have e1 : (ys.toArray.toList.mergeSort fun x y => !ltOf (plCmp pl) y x).map Subtype.val = srtBy pl (ys.map Subtype.val) := by
        unfold srtBy
        rw [List.toList_toArray]
        refine List.map_mergeSort fun x _ y _ => ?_
        rw [plCmp_lt]
        by_cases h : idxI pl y.1 < idxI pl x.1
        · simp [h]
        · simp [h]; omega
      refine ⟨rfl, ?_, grown_putE _⟩
      rw [← e1, ← plEnc_map]
      exact owns_putE hown (by rw [List.length_mergeSort])

set_option maxRecDepth 100000 in
/-- The order that impl.SortBy hands on. -/
theorem ordBy_any (base n cap : Nat) (a : Option Addr) (zs : List Int) (pb : Nat) (pl : List Int) (w0 W : World) (hn : n ≤ 1048576) (hbig : pl.length ≤ 1048576) (hsub : ∀ z ∈ zs, z ∈ pl) (hp : PlAt w0 pb pl) (hB : w0.heap.size ≤ base) (hb : Below w0.heap.size w0 W)
    (hown : W.ownsRow base 81 1 (.slice a n cap) n (nodes zs)) :
    Calls Tryz.prog 37 #[.slice a n cap, .pointer (some ⟨pb, 0, none⟩)] W
      fun e w' => e = .returned (.tuple #[]) ∧ w'.ownsRow base 81 1 (.slice a n cap) n (nodes (srtBy pl zs)) ∧ W.grownBy w' (Value.slice a n cap).ownBlock := by
  have h := Lib.hid (sortBy_any base n cap a zs pb pl w0 W hn hbig hsub hp hB hb hown)
  clear hown hp hb hsub
  go_enter Tryz.func37, Tryz.ntmps37
  go_wp2_with fail
  refine (unhide h).mono ?_
  rintro e w' ⟨rfl, h1, h2⟩
  go_wp2_with fail
  go_end0
  exact ⟨rfl, h1, h2⟩
end Go.Proofs.YtagnmdhdogaijaaGreat
