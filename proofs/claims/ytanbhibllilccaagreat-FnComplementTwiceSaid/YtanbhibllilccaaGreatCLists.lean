/- impl.lists: lists of nodes as lists of numbers, each ascending, in their order. -/
import Derived.Test.YtanbhibllilccaaGreatCompare
import Derived.Test.YtanbhibllilccaaGreatCompLaw
import Derived.Test.YtanbhibllilccaaGreatIStep
import Derived.Test.YtanbhibllilccaaGreatCc0
import Derived.Test.YtanbhibllilccaaGreatNumbers
namespace Go.Proofs.YtanbhibllilccaaGreat
open Go.RowKit Go.Sort Go.Lib

section
variable {α : Type} [Inhabited α] {enc : α → Value}
theorem holds_encS {w : World} {base e n cap g : Nat} {zs : List α} (h : w.ownsRow base e 1 (.slice (some ⟨g, 0, none⟩) n cap) n (zs.map enc)) : Holds enc w g 0 zs.toArray := by
  intro j hj
  have hj' : j < zs.length := by simpa using hj
  rw [Nat.zero_add]
  refine ⟨?_, owns_free h j⟩
  have e : zs.toArray[j]! = zs[j] := by simp [hj']
  rw [e]
  exact owns_cell h (by rw [List.getElem?_map, List.getElem?_eq_getElem hj']; rfl)
theorem owns_putS {w : World} {base e n cap g k : Nat} {os : Array Obj} {zs ys : List α} (h : w.ownsRow base e 1 (.slice (some ⟨g, 0, none⟩) n cap) n (zs.map enc)) (hl : ys.length = zs.length) :
    (grow (putRow enc (Sort.ahead w k) g 0 ys.toArray) os).ownsRow base e 1 (.slice (some ⟨g, 0, none⟩) n cap) n (ys.map enc) := by
  have hzl : (zs.map enc).length = n * 1 := h.1
  have hzs : zs.length = n := by rw [List.length_map] at hzl; omega
  obtain ⟨_, h | ⟨g', cap', cur, hv, hg, hh, hn, hm, hs, ht⟩⟩ := h
  · simp at h
  · injection hv with hv _ hcap
    injection hv with hv
    injection hv with hv _ _
    subst hv; subst hcap
    refine ⟨by rw [List.length_map, hl, hzs, Nat.mul_one], .inr ⟨g, cap, putCells enc 0 ys.toArray cur, rfl, hg, ?_, hn, hm, by simp [putCells, hs], ?_⟩⟩
    · have hgl : g < w.heap.size := lt_of_block hh
      rw [heap_grow_old _ _ (by simpa using hgl)]
      simp [putRow, mapBlock, Sort.ahead, Array.getElem?_modify, hh, onCells]
    · apply List.ext_getElem?
      intro j
      by_cases hj : j < n
      · rw [List.getElem?_take_of_lt (by omega), Array.getElem?_toList]
        simp [putCells, hl, hzs, hj, show j < cur.size by omega]
      · rw [List.getElem?_take_eq_none (by omega), List.getElem?_eq_none (by rw [List.length_map]; omega)]
theorem grown_putS {w : World} {g n : Nat} {os : Array Obj} (d : Array α) : w.grownBy (grow (putRow enc (Sort.ahead w n) g 0 d) os) (some g) := by
  refine ⟨rfl, rfl, rfl, by simp, fun k hk hne => ?_⟩
  rw [heap_grow_old _ _ (by simpa using hk)]
  have : g ≠ k := fun e => hne (by rw [e])
  simp [putRow, mapBlock, Sort.ahead, Array.getElem?_modify, this]
end

/-- The rows that the heads name, in whatever is done to the row of rows. -/
def HSort (w : World) (own : Option Nat) (hs : List Int) (fv : Int → Value) (fc : Int → List Int) : Prop :=
  ∀ x ∈ hs, ∃ (a : Option Addr) (c : Nat) (t : List Int), fv x = .slice a (fc x).length c ∧ fc x = x :: t ∧ (fc x).length ≤ 1000 ∧ ∀ w', w.grownBy w' own → Cells w' a (ints (fc x))

def cmpH {hs : List Int} (fc : Int → List Int) (x y : { x // x ∈ hs }) : Int := lexC (fc x.1) (fc y.1)

theorem cmpH_lt {hs : List Int} {fc : Int → List Int} (h : ∀ x ∈ hs, ∃ t, fc x = x :: t) (x y : { x // x ∈ hs }) : ltOf (cmpH fc) x y = decide (x.1 < y.1) := by
  unfold ltOf cmpH
  obtain ⟨s, hs'⟩ := h x.1 x.2
  obtain ⟨t, ht⟩ := h y.1 y.2
  rw [hs', ht]
  by_cases e : x.1 = y.1
  · rw [e] at hs' ⊢
    have : s = t := by rw [hs'] at ht; injection ht
    rw [this, lexC_self]
    simp
  · rw [lexC_heads s t e]
    by_cases h1 : x.1 < y.1
    · simp [h1]
    · simp [h1]

theorem cmpH_swo {hs : List Int} {fc : Int → List Int} (h : ∀ x ∈ hs, ∃ t, fc x = x :: t) : SWO (ltOf (cmpH (hs := hs) fc)) where
  irrefl := fun x => by rw [cmpH_lt h]; simp
  trans := fun x y z h1 h2 => by rw [cmpH_lt h] at *; simp at *; omega
  ntrans := fun x y z h1 h2 => by rw [cmpH_lt h] at *; simp at *; omega

set_option maxRecDepth 100000 in
theorem sortRows_any (base n cap : Nat) (a : Option Addr) (hs : List Int) (fv : Int → Value) (fc : Int → List Int) (w : World) (hn : n ≤ 1048576) (hown : w.ownsRow base 22 1 (.slice a n cap) n (hs.map fv)) (hr : HSort w (Value.slice a n cap).ownBlock hs fv fc) :
    Calls Tryz.prog 41 #[.slice a n cap, .func (.func 42) #[] #[]] w
      fun e w' => e = .returned (.tuple #[]) ∧ w'.ownsRow base 22 1 (.slice a n cap) n ((asc hs).map fv) ∧ w.grownBy w' (Value.slice a n cap).ownBlock := by
  have hl : hs.length = n := by have := hown.1; rw [List.length_map] at this; omega
  by_cases h0 : n = 0
  · subst h0
    have hz : hs = [] := List.eq_nil_of_length_eq_zero hl
    subst hz
    refine (Tryz.slices_SortFunc_none (α := Int) a cap _ w).mono ?_
    rintro e w' ⟨rfl, rfl⟩
    exact ⟨rfl, by simpa [asc] using hown, World.grownBy.refl _ _⟩
  · obtain ⟨g, rfl, _, hg, _⟩ := owns_at hown (by omega)
    have hhd : ∀ x ∈ hs, ∃ t, fc x = x :: t := fun x hx => by
      obtain ⟨_, _, t, _, h2, _⟩ := hr x hx
      exact ⟨t, h2⟩
    haveI : Inhabited { x // x ∈ hs } := ⟨⟨hs[0]'(by omega), List.getElem_mem _⟩⟩
    obtain ⟨enc, henc⟩ : ∃ enc : { x // x ∈ hs } → Value, enc = fun x => fv x.1 := ⟨_, rfl⟩
    have hmap : hs.map fv = hs.attach.map enc := by
      rw [henc]
      exact (List.attach_map_val (l := hs) (f := fv)).symm
    have hone : OneCell enc := fun x => by
      obtain ⟨_, _, _, h1, _⟩ := hr x.1 x.2
      rw [henc]
      show (fv x.1).oneCell' = true
      rw [h1]; rfl
    have hown' := hown
    rw [hmap] at hown'
    have hal : hs.attach.length = n := by rw [List.length_attach]; exact hl
    have hsz : hs.attach.toArray.size = n := by simp [hl]
    have := Tryz.slices_SortFunc_total enc hone (cmpH fc) (cmpH_swo hhd) 42 #[] g 0 cap hs.attach.toArray w (fun args w => by simp [go_sem]) (CmpReads.lays (fun m os dk _ x y => ?_)) (holds_encS hown') hg (by rw [hsz]; omega) (fun x y h1 h2 => by
      rw [cmpH_lt hhd] at h1 h2
      simp at h1 h2
      exact Subtype.ext (by omega))
    · rw [hsz] at this
      refine this.mono ?_
      rintro e w' ⟨rfl, k, os, rfl⟩
      have e1 : (hs.attach.toArray.toList.mergeSort fun x y => !ltOf (cmpH fc) y x).map enc = (asc hs).map fv := by
        have e2 : (hs.attach.toArray.toList.mergeSort fun x y => !ltOf (cmpH fc) y x).map Subtype.val = asc hs := by
          unfold asc
          rw [List.map_mergeSort (s := fun x y => decide (x ≤ y))]
          · simp
          · intro x _ y _
            rw [cmpH_lt hhd]
            by_cases h : y.1 < x.1
            · simp [h]
            · simp [h]; omega
        rw [← e2, List.map_map, henc]
        rfl
      refine ⟨rfl, ?_, grown_putS _⟩
      rw [← e1]
      exact owns_putS hown' (List.length_mergeSort _)
    · obtain ⟨ax, cx, s, h1, h2, h3, h4⟩ := hr x.1 x.2
      obtain ⟨ay, cy, t, h5, h6, h7, h8⟩ := hr y.1 y.2
      have hgr : w.grownBy (sortWorld enc w g 0 m dk os) (Value.slice (some ⟨g, 0, none⟩) n cap).ownBlock := grown_putS _
      have hx : enc x = .slice ax (fc x.1).length cx := by rw [henc]; exact h1
      have hy : enc y = .slice ay (fc y.1).length cy := by rw [henc]; exact h5
      rw [hx, hy]
      exact lexCompare_any ax ay _ _ cx cy (fc x.1) (fc y.1) _ rfl rfl (by omega) (by omega) (h4 _ hgr) (h8 _ hgr)

/-- Lists of numbers where they stand. -/
def LRows (w : World) (a : Option Addr) (L : List (List Int)) : Prop :=
  ∃ vs : List Value, vs.length = L.length ∧ Cells w a vs ∧ ∀ k (hk : k < L.length), ∃ ax cx, vs[k]? = some (.slice ax L[k].length cx) ∧ Cells w ax (ints L[k])

theorem hsort_of {w : World} {D : Nat} {own : Option Nat} {vs : List Value} {M : List (List Int)} (hnd : (headsC M).Nodup) (hne : ∀ c ∈ M, c ≠ []) (hl : ∀ c ∈ M, c.length ≤ 1000) (hr : IRows w D vs M) (hdis : ∀ j ∈ blks vs, own ≠ some j) :
    HSort w own (headsC M) (byHead M vs (.slice none 0 0)) (byHead M M []) := fun x hx => by
  obtain ⟨c, hc, rfl⟩ := List.mem_map.1 hx
  obtain ⟨i, hi, rfl⟩ := List.mem_iff_getElem.1 hc
  have hvi : i < vs.length := by rw [hr.1]; exact hi
  have e1 : byHead M vs (.slice none 0 0) (M[i].headD 0) = vs[i] := byHead_at hnd hr.1 hi
  have e2 : byHead M M [] (M[i].headD 0) = M[i] := byHead_at hnd rfl hi
  have hrow := hr.2 i _ _ (List.getElem?_eq_getElem hvi) (List.getElem?_eq_getElem hi)
  obtain ⟨ax, cx, ev, _, _, _⟩ := owns_cells hrow
  have hne' := hne _ hc
  have hhd : ∃ t, M[i] = M[i].headD 0 :: t := by
    match h : M[i], hne' with
    | a :: t, _ => exact ⟨t, rfl⟩
  obtain ⟨t, ht⟩ := hhd
  refine ⟨ax, cx, t, by rw [e1, e2]; exact ev, by rw [e2]; exact ht, by rw [e2]; exact hl _ hc, fun w' hg => ?_⟩
  have hrow' : w'.ownsRow D 3 1 vs[i] M[i].length (ints M[i]) := owns_same hrow fun j hj => hg.block j (hrow.lt j hj).2 (fun e => hdis j (blks_mem (List.getElem?_eq_getElem hvi) hj) e.symm)
  obtain ⟨ay, cy, ev', _, hcs, _⟩ := owns_cells hrow'
  rw [ev] at ev'
  injection ev' with ev'
  subst ev'
  rw [e2]
  exact hcs

theorem lrows_of {w : World} {B n cap : Nat} {a : Option Addr} {own : Option Nat} {w0 : World} {hs : List Int} {fv : Int → Value} {fc : Int → List Int} (hr : HSort w0 own hs fv fc) (hg : w0.grownBy w own) (ho : w.ownsRow B 22 1 (.slice a n cap) n ((asc hs).map fv)) : LRows w a ((asc hs).map fc) := by
  obtain ⟨ax, cx, ex, _, hcx, _⟩ := owns_cells ho
  injection ex with ex1 _ ex2
  subst ex1; subst ex2
  refine ⟨_, by rw [List.length_map, List.length_map], hcx, fun k hk => ?_⟩
  rw [List.length_map] at hk
  obtain ⟨ay, cy, t, h1, _, _, h4⟩ := hr _ (asc_mem.1 (List.getElem_mem hk))
  rw [List.getElem_map, List.getElem?_map, List.getElem?_eq_getElem hk]
  exact ⟨ay, cy, by rw [← h1]; rfl, h4 w hg⟩

set_option maxRecDepth 100000 in
set_option maxHeartbeats 2000000 in
theorem lists_any (B n : Nat) (a : Option Addr) (c : Nat) (vs : List Value) (L : List (List Int)) (w : World) (hn : n = L.length) (hL : L.length ≤ 1000) (hl : ∀ c ∈ L, c.length ≤ 1000) (hov : w.ownsRow B 89 1 (.slice a n c) n vs) (hrows : CRows w B vs L)
    (hnd : (headsC (L.map asc)).Nodup) (hne : ∀ c ∈ L.map asc, c ≠ []) :
    Calls Tryz.prog 24 #[.slice a n c] w fun e w' => ∃ a' c', e = .returned (.slice a' n c') ∧ LRows w' a' (ordC (L.map asc)) ∧ Below w.heap.size w w' := by
  obtain ⟨D, hD⟩ : ∃ D, D = w.heap.size := ⟨_, rfl⟩
  have hDh := Lib.hid hD
  have hnh := Lib.hid hn
  have hovh := Lib.hid hov
  have hrowsh := Lib.hid hrows
  have hcl : Hid (∀ k (hk : k < L.length), L[k].length ≤ 1000) := fun k hk => hl _ (List.getElem_mem hk)
  have hndh := Lib.hid hnd
  have hneh := Lib.hid hne
  have hn1 : n ≤ 1000 := by omega
  clear hov hrows hl hD hnd hne hn hL
  go_enter Tryz.func24, Tryz.ntmps24
  go_wp2_with fail
  go_loopw [3, 5, 6, 9] (fun s _ _ i wr => ∃ (k : Nat) (b : Option Addr) (cb : Nat) (vs2 : List Value), k ≤ n ∧ i = .int .i64 k ∧ s = .slice b k cb ∧ wr.ownsRow D 22 1 (.slice b k cb) k vs2 ∧ IRows wr D vs2 ((L.take k).map asc) ∧
    (∀ j ∈ blks vs2, (Value.slice b k cb).ownBlock ≠ some j) ∧ Below D w wr) (fun _ _ _ i _ => n - (intOf i).toNat)
  case atStart => exact ⟨0, none, 0, [], Nat.zero_le _, rfl, rfl, World.ownsRow_nil _ _ _ _, ⟨rfl, fun k v c hv => by simp at hv⟩, by simp [blks], Below.refl _ _⟩
  case round =>
    obtain ⟨k, b, cb, vs2, hk, rfl, rfl, hown, hir, hdis, hb⟩ := hrel
    have hbw : Below w.heap.size w wr := by rw [← hDh.out]; exact hb
    by_cases hlt : k < n
    · have hkL : k < L.length := by rw [← hnh.out]; exact hlt
      have hvl : vs.length = L.length := hrowsh.out.1
      have hv : vs[k]? = some (vs[k]'(by omega)) := List.getElem?_eq_getElem _
      have hrow := hrowsh.out.2 k _ _ hv (List.getElem?_eq_getElem hkL)
      obtain ⟨cl, hcle⟩ : ∃ cl, cl = L[k] := ⟨_, rfl⟩
      obtain ⟨v4, hv4⟩ : ∃ v4, v4 = vs[k]'(by omega) := ⟨_, rfl⟩
      rw [← hcle, ← hv4] at hrow
      rw [← hv4] at hv
      have hcl1 : cl.length ≤ 1000 := by rw [hcle]; exact hcl.out k hkL
      have htk : Hid ((L.take (k + 1)).map asc = (L.take k).map asc ++ [asc cl]) := by
        unfold Hid; rw [List.take_succ_eq_append_getElem hkL, List.map_append, hcle]; rfl
      obtain ⟨g4, rfl, _⟩ := owns_at hovh.out (by omega)
      have hcell := cell_below hbw (owns_cell hovh.out hv)
      obtain ⟨ag, cg, rfl, _, hcs, _⟩ := owns_cells hrow
      have hnum := Lib.hid (numbers_any ag cl.length cg cl wr rfl (by omega) (hcs.below hbw))
      have hDw : D ≤ wr.heap.size := by rw [hDh.out]; exact hbw.size
      have hownh := Lib.hid hown
      have hirh := Lib.hid hir
      have hdish := Lib.hid hdis
      have hbh := Lib.hid hb
      clear hvl hv hrow hcle hv4 hcs hown hir hdis hb hbw hkL
      go_wp2_with fail
      refine (unhide hnum).mono ?_
      rintro e w5 ⟨ax, cx, rfl, own5, hb5⟩
      have hsort := Lib.hid (sortInt_any wr.heap.size cl.length cx ax cl w5 (by omega) own5)
      have hb5h := Lib.hid hb5
      clear own5 hb5 hnum hcell
      go_wp2_with fail
      refine (unhide hsort).mono ?_
      rintro e w6 ⟨rfl, own6, hg6⟩
      obtain ⟨o6, hD6, hst⟩ := irow_step (o := .cells #[.slice ax cl.length cx] 22) (c := asc cl) (asc_length cl).symm hownh.out hirh.out hdish.out hb5h.out own6 hg6 hDw
      have ho6 := Lib.hid (fun o => o6.alloc o)
      clear own6 hg6 o6 hsort
      go_wp2_with (at_builtin; refine append_law 33 22 (.slice none 0 0) 1 24 Tryz.underlying33 info_irow rfl (by omega) (by omega) rfl _ _ rfl D b k cb vs2 rfl (ho6.out _) ⟨w6.heap.size, 0, none⟩ 1 1 [.slice ax cl.length cx] rfl rfl (new_one w6 _ _) (one_irow _ _ _) (by omega) (by simp; omega) ?_; intro b2 c2 w7 hown7 hg7 hat7; have hq := Lib.hid (hst.out w7 b2 c2 hg7 hown7 hat7); have hown7h := Lib.hid hown7; clear hown7 hg7 hat7 ho6)
      go_roundw
      case rel => exact ⟨k + 1, b2, c2, _, by omega, by go_num, rfl, hown7h.out, by rw [htk.out]; exact hq.out.1, hq.out.2.1, hbh.out.trans hq.out.2.2⟩
      case measure => simp [intOf]; omega
    · have hkn : k = n := by omega
      subst hkn
      rw [hnh.out, List.take_length] at hir
      have hir' : IRows wr D vs2 (L.map asc) := hir
      have hS := Lib.hid (hsort_of (own := (Value.slice b k cb).ownBlock) hndh.out hneh.out (fun c hc => by
        obtain ⟨d, hd, rfl⟩ := List.mem_map.1 hc
        obtain ⟨i, hi, rfl⟩ := List.mem_iff_getElem.1 hd
        rw [asc_length]
        exact hcl.out i hi) hir' hdis)
      have hown' := hown
      rw [← byHead_map (C := L.map asc) (d := .slice none 0 0) hndh.out hir'.1] at hown'
      have hso := Lib.hid (sortRows_any D k cb b (headsC (L.map asc)) _ _ wr (by omega) hown' hS.out)
      have hbwh := Lib.hid hb
      have hDo : Hid (∀ j, (Value.slice b k cb).ownBlock = some j → D ≤ j) := fun j hj => (hown.lt j hj).1
      clear hir hir' hdis hown hown' hb hbw hk
      go_wp2_with fail
      refine (unhide hso).mono ?_
      rintro e w5 ⟨rfl, own5, hg5⟩
      have hfin : Hid (LRows w5 b (ordC (L.map asc)) ∧ Below w.heap.size w w5) := by
        refine ⟨lrows_of hS.out hg5 own5, ?_⟩
        rw [← hDh.out]
        refine hbwh.out.grown hg5 (by have := hbwh.out.size; rw [← hDh.out] at this; exact this) (fun j hj => hDo.out j hj)
      clear own5 hg5 hso hS
      go_wp2_with fail
      go_ret
      exact ⟨b, cb, rfl, hfin.out⟩
end Go.Proofs.YtanbhibllilccaaGreat
