/- impl.twice; topo.SortStabilized with the order of impl.SortBy. -/
import Derived.Test.YtagnmdhdogaijaaGreatSortedFrom2
import Derived.Test.YtagnmdhdogaijaaGreatScc2
import Derived.Test.YtagnmdhdogaijaaGreatSortImpl
namespace Go.Proofs.YtagnmdhdogaijaaGreat
open Go.RowKit Go.Sort Go.Lib

theorem compactInt_any (base n cap : Nat) (a : Option Addr) (zs : List Int) (w : World) (hn : n ≤ 1048576) (hown : w.ownsRow base 3 1 (.slice a n cap) n (ints zs)) (hs : zs.Pairwise (· ≤ ·)) :
    Calls Tryz.prog 56 #[.slice a n cap] w fun e w' => ∃ a' m c', e = .returned (.slice a' m c') ∧ m ≤ n ∧ (m = n ↔ zs.Pairwise (· < ·)) ∧ w.grownBy w' (Value.slice a n cap).ownBlock := by
  have hl : zs.length = n := by have := hown.1; simpa [ints] using this
  by_cases h0 : n = 0
  · subst h0
    have hz : zs = [] := List.eq_nil_of_length_eq_zero hl
    subst hz
    go_enter Tryz.func56, Tryz.ntmps56
    go_wp2
    go_ret
    exact ⟨a, 0, cap, rfl, Nat.le_refl _, by simp, World.grownBy.refl _ _⟩
  · obtain ⟨g, rfl, _, hg, hc⟩ := owns_at hown (by omega)
    subst hl
    refine (Tryz.slices_Compact_f56 (Value.int .i64) (fun _ => rfl) (EqlAt.intD _ _ .i64) (NeqAt.intD _ _ .i64) 0 Tryz.zeroValue3 g 0 cap zs.toArray w (holds_owns hown) (by simp; omega) (by simpa using hc)).mono ?_
    rintro e w' ⟨rfl, q, rfl⟩
    refine ⟨_, _, _, rfl, by simpa using compact_le zs, by simpa using compact_full zs hs, ?_⟩
    have := grown_put (w := w) (g := g) (n := q) (os := #[]) (compactUpTo zs.toArray zs.toArray.size ++ List.replicate (zs.toArray.size - (compactUpTo zs.toArray zs.toArray.size).length) 0).toArray
    rwa [grow_empty] at this

theorem twice_any (a : Option Addr) (n c : Nat) (zs : List Int) (w : World) (hl : n = zs.length) (hn : n ≤ 1048576) (hc : Cells w a (ints zs)) (h0 : a = none → c = 0) :
    Calls Tryz.prog 34 #[.slice a n c] w fun e w' => e = .returned (.bool (!decide zs.Nodup)) ∧ Below w.heap.size w w' := by
  subst hl
  have hclone := Lib.hid (cloneInt_any a _ c zs w rfl hn hc h0)
  clear hc h0
  go_enter Tryz.func34, Tryz.ntmps34
  go_wp2_with fail
  refine (unhide hclone).mono ?_
  rintro e w1 ⟨a1, c1, rfl, own1, _, hb1⟩
  have hsort := Lib.hid (sortInt_any w.heap.size zs.length c1 a1 zs w1 hn own1)
  have hb1h := Lib.hid hb1
  clear own1 hb1 hclone
  go_wp2_with fail
  refine (unhide hsort).mono ?_
  rintro e w2 ⟨rfl, own2, hg2⟩
  have hb2 : Hid (Below w.heap.size w w2) := hb1h.out.grown hg2 hb1h.out.size (fun k hk => (own2.lt k hk).1)
  have hcomp := Lib.hid (compactInt_any w.heap.size zs.length c1 a1 (asc zs) w2 hn own2 (asc_sorted zs))
  have hlow : Hid (∀ k, (Value.slice a1 zs.length c1).ownBlock = some k → w.heap.size ≤ k) := fun k hk => (own2.lt k hk).1
  clear own2 hg2 hsort
  go_wp2_with fail
  refine (unhide hcomp).mono ?_
  rintro e w3 ⟨a3, m, c3, rfl, hm, hiff, hg3⟩
  have hb3 : Hid (Below w.heap.size w w3) := hb2.out.grown hg3 hb2.out.size (fun k hk => hlow.out k hk)
  have hnd : (asc zs).Pairwise (· < ·) ↔ zs.Nodup := by
    rw [← (asc_perm zs).nodup_iff]
    constructor
    · exact fun h => h.imp fun h => by omega
    · intro h
      have h2 := asc_sorted zs
      exact (h2.and h).imp fun ⟨h3, h4⟩ => by omega
  have hres : Hid ((!decide ((m : Int) = (zs.length : Int))) = !decide zs.Nodup) := by
    unfold Hid
    congr 1
    by_cases h : zs.Nodup
    · have h1 : m = zs.length := hiff.2 (hnd.2 h)
      rw [decide_eq_true h, decide_eq_true (by omega)]
    · have h1 : m ≠ zs.length := fun e => h (hnd.1 (hiff.1 e))
      rw [decide_eq_false h, decide_eq_false (by omega)]
  clear hg3 hiff hnd hcomp
  obtain ⟨n, hn'⟩ : ∃ n, n = zs.length := ⟨_, rfl⟩
  rw [← hn'] at hres ⊢
  clear hn'
  go_wp2_with fail
  go_ret
  refine ⟨ret_bool ?_, hb3.out⟩
  rw [← hres.out]
  first | rfl | (by_cases h : m = n <;> first | rfl | simp [h])

/-- The components as Tarjan's algorithm finds them in an order of places. -/
def byComps (pl aids : List Int) (outs : List (List Arc)) : List (List Int) := sccsOf (succBy pl aids outs) (srtBy pl aids).reverse

/-- What topo.SortStabilized gives. -/
def TSortPost2 (pl : List Int) (w : World) (M : List (List Int)) (e : Ending) (w' : World) : Prop :=
  ∃ (a : Option Addr) (c S B : Nat) (er : Value), e = .returned (.tuple #[.slice a M.length c, er]) ∧ Cells w' a (((M.map topO).reverse).map nodeO) ∧ ErrIs w' S B (cycBy pl M M.length).reverse er ∧ Below w.heap.size w w'

set_option maxRecDepth 100000 in
theorem tsort2_any (pb ql : Nat) (pl aids : List Int) (outs ins : List (List Arc)) (w : World) (hids : aids.length ≤ 1000) (h64 : ∀ x ∈ aids, In64 x) (hp : PlainAt w pb aids outs ins) (hbig : pl.length ≤ 1048576) (hsub : ∀ z ∈ aids, z ∈ pl) (hpl : PlAt w ql pl)
    (hM : (byComps pl aids outs).length ≤ 1000) (hl : ∀ c ∈ byComps pl aids outs, c.length ≤ 1000) (hm : ∀ c ∈ byComps pl aids outs, ∀ z ∈ c, z ∈ aids) :
    Calls Tryz.prog 36 #[.iface 53 (.agg #[.pointer (some ⟨pb, 0, none⟩)]), .func (.func 37) #[] #[.pointer (some ⟨ql, 0, none⟩)]] w (TSortPost2 pl w (byComps pl aids outs)) := by
  have hon := order_not_nil ql
  unfold ordv at hon
  have hs : Hid (Calls Tryz.prog 46 #[.iface 53 (.agg #[.pointer (some ⟨pb, 0, none⟩)]), .func (.func 37) #[] #[.pointer (some ⟨ql, 0, none⟩)]] w (SccPost w (byComps pl aids outs))) :=
    stab2_any pb ql pl aids outs ins w hids h64 hp hbig hsub hpl
  obtain ⟨M, hMe⟩ : ∃ M, M = byComps pl aids outs := ⟨_, rfl⟩
  rw [← hMe] at hs hM hl hm ⊢
  have hlh : Hid (∀ k (hk : k < M.length), M[k].length ≤ 1000) := fun k hk => hl _ (List.getElem_mem hk)
  have hmh : Hid (∀ c ∈ M, ∀ z ∈ c, z ∈ pl) := fun c hc z hz => hsub z (hm c hc z hz)
  have hplh := Lib.hid hpl
  clear hp h64 hl hMe hpl hm hsub
  go_enter Tryz.func36, Tryz.ntmps36
  go_wp2_with fail
  refine (unhide hs).mono ?_
  rintro e w1 ⟨a, c, B, vs, rfl, hwB, hov, hrows, hap, hnd, hB, hb⟩
  have hsf := Lib.hid (sortedFrom2_any (pl := pl) ql w a c B vs M w1 hM hlh.out hov hrows hap hnd hB hbig hmh.out hplh.out hwB hb)
  have hbh := Lib.hid hb
  clear hs hov hrows hap hnd hb
  go_wp2_with fail
  refine (unhide hsf).mono ?_
  rintro e w2 ⟨a2, c2, er, rfl, ho2, he2, hb2⟩
  have hfin : Hid (TSortPost2 pl w M (.returned (.tuple #[.slice a2 M.length c2, er])) w2) := by
    obtain ⟨a3, c3, e3, _, hcs, _⟩ := owns_cells ho2
    injection e3 with e4 _ e5
    subst e4
    exact ⟨a2, c2, w1.heap.size, B, er, rfl, by rw [← topV_map]; exact hcs, he2, hbh.out.trans (hb2.mono hwB)⟩
  clear ho2 he2 hb2 hsf
  go_wp2_with fail
  go_ret2
  exact hfin.out
end Go.Proofs.YtagnmdhdogaijaaGreat
