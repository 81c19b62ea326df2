/- The copy of a graph, in plain Lean.
   laws.spare: a number that is none of some.
   FnCopyEqual, pure: a graph and its copy are the same; a graph with a node more is another. -/
import Derived.Test.YtgkimjjodhnmiaaGreatSeenA
import Derived.Test.YtgkimjjodhnmiaaGreatTabW
import Derived.Test.YtgkimjjodhnmiaaGreatCopyA
import Derived.Test.YtgkimjjodhnmiaaGreatSucc
import Derived.Test.YtgkimjjodhnmiaaGreatBase
import Derived.Deep.LoopGhost
import Derived.Test.YtgkimjjodhnmiaaGreatEqLawA
namespace Go.Proofs.YtgkimjjodhnmiaaGreat
open Go.RowKit

/-- The copy of g, of kind d. -/
def copyG (g : Gr) (d : Bool) : Gr := ⟨d, asc g.nodes, seenW d (wOf g) (asc g.nodes) (gSucc g)⟩

theorem arcB_ex {g : Gr} {u v : Int} : arcB g u v = true ↔ ∃ e ∈ g.edges, hits g.dir u v e := by
  unfold arcB
  rw [List.any_eq_true]
  constructor
  · rintro ⟨e, h1, h2⟩; exact ⟨e, h1, of_decide_eq_true h2⟩
  · rintro ⟨e, h1, h2⟩; exact ⟨e, h1, decide_eq_true h2⟩

theorem hits_sym {u v : Int} {e : Int × Int × Int} : hits false u v e ↔ hits false v u e := by
  unfold hits
  constructor
  · rintro (h | ⟨_, h⟩)
    · exact .inr ⟨rfl, h⟩
    · exact .inl h
  · rintro (h | ⟨_, h⟩)
    · exact .inr ⟨rfl, h⟩
    · exact .inl h

theorem wOf_sym {g : Gr} (hd : g.dir = false) (x y : Int) : wOf g x y = wOf g y x := by
  unfold wOf wLast
  rw [hd]
  congr 3
  funext e
  exact decide_eq_decide.2 hits_sym

theorem gs_mem {g : Gr} (hok : okGraph g = true) {x y : Int} (hx : x ∈ asc g.nodes) : y ∈ gSucc g x ↔ y ∈ asc g.nodes ∧ arcB g x y = true := by
  rw [gSucc_mem hok (asc_mem.1 hx), asc_mem]

theorem gs_self {g : Gr} (hok : okGraph g = true) {x : Int} (hx : x ∈ asc g.nodes) : x ∉ gSucc g x := fun h => by
  obtain ⟨e, h1, h2⟩ := arcB_ex.1 ((gs_mem hok hx).1 h).2
  have h3 := (ok_edges hok e h1).1
  rcases h2 with ⟨h4, h5⟩ | ⟨_, h4, h5⟩
  · exact h3 (h4.trans h5.symm)
  · exact h3 (h4.trans h5.symm)

theorem gs_sym {g : Gr} (hok : okGraph g = true) (hd : g.dir = false) {x y : Int} (hx : x ∈ asc g.nodes) (hy : y ∈ gSucc g x) : y ∈ asc g.nodes ∧ x ∈ gSucc g y := by
  obtain ⟨h1, h2⟩ := (gs_mem hok hx).1 hy
  refine ⟨h1, (gs_mem hok h1).2 ⟨hx, ?_⟩⟩
  obtain ⟨e, h3, h4⟩ := arcB_ex.1 h2
  rw [hd] at h4
  exact arcB_ex.2 ⟨e, h3, by rw [hd]; exact hits_sym.1 h4⟩

theorem ok_up {g : Gr} (hok : okGraph g = true) : (asc g.nodes).Pairwise (· < ·) := asc_incr (by
  unfold okGraph at hok
  rw [Bool.and_eq_true] at hok
  exact of_decide_eq_true hok.1)

/-- The ends of a row ascend. -/
theorem gs_up {g : Gr} (hok : okGraph g = true) (x : Int) : (gSucc g x).Pairwise (· < ·) := by
  have hup := ok_up hok
  unfold gSucc succOf endsOf
  have hrow : RowOk (asc g.nodes).length ((outsOf g).getD (posOf (asc g.nodes) x) []) := by
    rcases Nat.lt_or_ge (posOf (asc g.nodes) x) (outsOf g).length with hl | hl
    · have hm : (outsOf g).getD (posOf (asc g.nodes) x) [] ∈ outsOf g := by simp [hl]
      exact (graph_tabs hok).r1 _ hm
    · rw [List.getD_eq_getElem?_getD, List.getElem?_eq_none hl]; exact RowOk.nil _
  generalize (outsOf g).getD (posOf (asc g.nodes) x) [] = l at hrow
  show (l.map fun a => (asc g.nodes).getD a.1 0).Pairwise (· < ·)
  rw [List.pairwise_map]
  refine hrow.1.imp_of_mem fun {a b} ha hb hab => ?_
  have h1 := hrow.2 a ha
  have h2 := hrow.2 b hb
  have := List.pairwise_iff_getElem.1 hup a.1 b.1 h1 h2 hab
  simpa only [List.getD_eq_getElem?_getD, List.getElem?_eq_getElem h1, List.getElem?_eq_getElem h2, Option.getD_some] using this

theorem gs_sub {g : Gr} (hok : okGraph g = true) {x : Int} (hx : x ∈ asc g.nodes) : ∀ y ∈ gSucc g x, y ∈ asc g.nodes := fun _ hy => ((gs_mem hok hx).1 hy).1

/-- The weight of an arc, as it stands in the table. -/
theorem arc_at {g : Gr} (hok : okGraph g = true) : ∀ x ∈ asc g.nodes, ∀ y ∈ succOf (asc g.nodes) (outsOf g) x, ∃ t, ArcAt (asc g.nodes) (outsOf g) x y t (fl (wOf g x y)) := fun x hx y hy => by
  obtain ⟨k, hk, rfl⟩ := List.mem_iff_getElem.1 hy
  exact arc_w hok hx hk

/-- The edges that CopyWeighted leaves. -/
theorem FI.arcs {g : Gr} (hok : okGraph g = true) {dir : Bool} (hd : dir = false → g.dir = false) {F : Int → Int → Option Value} {f : Int → Int → Nat} (h : FI dir F (arcsTo (gSucc g) (asc g.nodes)) f) :
    (∀ x ∈ asc g.nodes, ∀ y, y ∈ gSucc g x ↔ F x y ≠ none) ∧ (∀ a b, F a b ≠ none → a ∈ asc g.nodes ∧ b ∈ asc g.nodes) ∧ ∀ x y, F x y ≠ none → ∃ a b, F x y = some (wev a b (f x y)) := by
  have key : ∀ x y, ((x, y) ∈ arcsTo (gSucc g) (asc g.nodes) ∨ (dir = false ∧ (y, x) ∈ arcsTo (gSucc g) (asc g.nodes))) ↔ x ∈ asc g.nodes ∧ y ∈ gSucc g x := fun x y => by
    rw [arcsTo_mem, arcsTo_mem]
    constructor
    · rintro (h | ⟨h1, h2, h3⟩)
      · exact h
      · exact gs_sym hok (hd h1) h2 h3
    · exact .inl
  have key2 : ∀ x y, F x y ≠ none ↔ x ∈ asc g.nodes ∧ y ∈ gSucc g x := fun x y => by
    have := h x y
    rw [key] at this
    constructor
    · intro hn
      by_cases hm : x ∈ asc g.nodes ∧ y ∈ gSucc g x
      · exact hm
      · exact absurd (this.2 hm) hn
    · intro hm
      obtain ⟨a, b, e⟩ := this.1 hm
      rw [e]; simp
  refine ⟨fun x hx y => ⟨fun hy => (key2 x y).2 ⟨hx, hy⟩, fun hn => ((key2 x y).1 hn).2⟩, fun a b hn => ?_, fun x y hn => ?_⟩
  · obtain ⟨h1, h2⟩ := (key2 a b).1 hn
    exact ⟨h1, gs_sub hok h1 b h2⟩
  · have := h x y
    rw [key] at this
    exact this.1 ((key2 x y).1 hn)

/-- What impl.Copy gives. -/
def CopyPost (w : World) (g : Gr) (d : Bool) (e : Ending) (w' : World) : Prop :=
  ∃ (an : Option Addr) (cn : Nat) (ae : Option Addr) (ce : Nat), e = .returned (.tuple #[.agg #[.bool (copyG g d).dir, .slice an (copyG g d).nodes.length cn, .slice ae (copyG g d).edges.length ce], .bool false]) ∧ GrAt w' (copyG g d) an cn ae ∧ Below w.heap.size w w'

theorem Cells.same' {w w' : World} {a : Option Addr} {cs : List Value} {q : Nat} (h : Cells w a cs) (hs : w.heap.size ≤ w'.heap.size) (hk : ∀ j, j < w.heap.size → j ≠ q → w'.heap[j]? = w.heap[j]?) (ha : ∀ g k, a = some ⟨g, k, none⟩ → g ≠ q) : Cells w' a cs := by
  rcases h with h | ⟨b, off, h1, h2, h3⟩
  · exact .inl h
  · refine .inr ⟨b, off, h1, by omega, fun j v hj => ?_⟩
    have := h3 j v hj
    unfold World.cell? at this ⊢
    rwa [hk b h2 (ha b off h1)]

theorem copy_done {g : Gr} {w w4 : World} {d : Bool} {a4 a5 : Option Addr} {c4 c5 rb : Nat} (hcn : Cells w4 a4 (ints (asc g.nodes))) (hnone : a4 = none → c4 = 0) (hce : Cells w4 a5 (edgeCells (seenW d (wOf g) (asc g.nodes) (gSucc g))))
    (h1 : ∀ g k, a4 = some ⟨g, k, none⟩ → rb < g) (h2 : ∀ g k, a5 = some ⟨g, k, none⟩ → rb < g) (hb : Below w.heap.size w w4) (hrb : w.heap.size ≤ rb) (x y z : Value) :
    CopyPost w g d (.returned (.tuple #[.agg #[.bool d, .slice a4 (asc g.nodes).length c4, .slice a5 (seenW d (wOf g) (asc g.nodes) (gSucc g)).length c5], .bool false])) (((w4.setCell ⟨rb, 0, none⟩ x).setCell ⟨rb, 1, none⟩ y).setCell ⟨rb, 2, none⟩ z) := by
  have hse : ∀ j, j < w4.heap.size → j ≠ rb → (((w4.setCell ⟨rb, 0, none⟩ x).setCell ⟨rb, 1, none⟩ y).setCell ⟨rb, 2, none⟩ z).heap[j]? = w4.heap[j]? := fun j _ hj => by
    rw [Below.heap_setCell _ _ _ _ hj, Below.heap_setCell _ _ _ _ hj, Below.heap_setCell _ _ _ _ hj]
  have hsz : (((w4.setCell ⟨rb, 0, none⟩ x).setCell ⟨rb, 1, none⟩ y).setCell ⟨rb, 2, none⟩ z).heap.size = w4.heap.size := by simp only [size_setCell]
  refine ⟨a4, c4, a5, c5, rfl, ⟨?_, ?_, hnone⟩, ?_⟩
  · exact hcn.same' (by omega) hse fun g k e => by have := h1 g k e; omega
  · exact hce.same' (by omega) hse fun g k e => by have := h2 g k e; omega
  · exact ((hb.setCell (by show w.heap.size ≤ rb; omega) _).setCell (by show w.heap.size ≤ rb; omega) _).setCell (by show w.heap.size ≤ rb; omega) _
end Go.Proofs.YtgkimjjodhnmiaaGreat

namespace Go.Proofs.YtgkimjjodhnmiaaGreat
open Go.RowKit

theorem nodup_leC {l m : List Int} (h : l.Nodup) (hs : ∀ x ∈ l, x ∈ m) : l.length ≤ m.length := by
  induction l generalizing m with
  | nil => simp
  | cons a l ih =>
    have hn := List.nodup_cons.1 h
    have ha := hs a List.mem_cons_self
    have := ih (m := m.erase a) hn.2 (fun x hx => by
      have hne : x ≠ a := fun e => hn.1 (e ▸ hx)
      exact (List.mem_erase_of_ne hne).2 (hs x (List.mem_cons_of_mem _ hx)))
    rw [List.length_erase_of_mem ha] at this
    have := List.length_pos_of_mem ha
    simp only [List.length_cons]; omega

/-- The numbers from 0 on that are all there are no more than the list is long. -/
theorem below_len {l : List Int} {m : Nat} (h : ∀ i, i < m → (i : Int) ∈ l) : m ≤ l.length := by
  have h1 : ((List.range m).map fun (i : Nat) => (i : Int)).Nodup := by
    show List.Pairwise _ _
    rw [List.pairwise_map]
    exact List.nodup_range.imp fun hne e => hne (Int.ofNat.inj e)
  have := nodup_leC h1 (m := l) fun x hx => by
    obtain ⟨i, hi, rfl⟩ := List.mem_map.1 hx
    exact h i (List.mem_range.1 hi)
  simpa using this

end Go.Proofs.YtgkimjjodhnmiaaGreat

namespace Go.Proofs.YtgkimjjodhnmiaaGreat
open Go.RowKit

theorem seenW_mem {dir : Bool} {W : Int → Int → Int} {A : List Int} {S : Int → List Int} {e : Int × Int × Int} : e ∈ seenW dir W A S ↔ e.1 ∈ A ∧ e.2.1 ∈ S e.1 ∧ (dir = true ∨ e.1 ≤ e.2.1) ∧ e.2.2 = W e.1 e.2.1 := by
  unfold seenW rowW
  rw [List.mem_flatMap]
  constructor
  · rintro ⟨u, hu, h⟩
    obtain ⟨v, hv, rfl⟩ := List.mem_map.1 h
    obtain ⟨h1, h2⟩ := List.mem_filter.1 hv
    refine ⟨hu, h1, ?_, rfl⟩
    rcases Bool.or_eq_true _ _ ▸ h2 with h | h
    · exact .inl h
    · exact .inr (of_decide_eq_true h)
  · obtain ⟨u, v, x⟩ := e
    rintro ⟨h1, h2, h3, h4⟩
    refine ⟨u, h1, List.mem_map.2 ⟨v, List.mem_filter.2 ⟨h2, ?_⟩, by simp only at h4; rw [h4]⟩⟩
    rcases h3 with h | h
    · rw [h]; rfl
    · rw [decide_eq_true (show u ≤ v from h), Bool.or_true]

theorem copy_ok {g : Gr} (hok : okGraph g = true) (d : Bool) : okGraph (copyG g d) = true := by
  unfold okGraph
  rw [Bool.and_eq_true, List.all_eq_true]
  refine ⟨decide_eq_true ((ok_up hok).imp fun h => Int.ne_of_lt h), fun e he => ?_⟩
  obtain ⟨h1, h2, _, h4⟩ := seenW_mem.1 he
  refine decide_eq_true ⟨fun e' => gs_self hok h1 (by rw [← e'] at h2; exact h2), h1, gs_sub hok h1 _ h2, ?_, ?_⟩
  · rw [h4]; exact (wOf_le hok _ _).1
  · rw [h4]; exact (wOf_le hok _ _).2

theorem gs_len {g : Gr} (hok : okGraph g = true) (x : Int) : (gSucc g x).length ≤ (asc g.nodes).length := by
  unfold gSucc succOf endsOf
  rw [List.length_map]
  rcases Nat.lt_or_ge (posOf (asc g.nodes) x) (outsOf g).length with hl | hl
  · have hm : (outsOf g).getD (posOf (asc g.nodes) x) [] ∈ outsOf g := by simp [hl]
    exact asc_short ((graph_tabs hok).r1 _ hm)
  · rw [List.getD_eq_getElem?_getD, List.getElem?_eq_none hl]; simp

theorem copy_len {g : Gr} (hok : okGraph g = true) (d : Bool) (hn : g.nodes.length ≤ 1000) : (copyG g d).nodes.length ≤ 1000 ∧ (copyG g d).edges.length ≤ 1048576 := by
  have hl : (asc g.nodes).length ≤ 1000 := by rw [asc_length]; exact hn
  have h1 := seenW_len d (wOf g) (asc g.nodes) (gSucc g) 1000 fun u => Nat.le_trans (gs_len hok u) hl
  exact ⟨hl, by show (seenW d (wOf g) (asc g.nodes) (gSucc g)).length ≤ 1048576; omega⟩

theorem copy_same {g : Gr} (hok : okGraph g = true) {d : Bool} (hd : g.dir = true → d = true) : sameG g (copyG g d) := by
  refine ⟨(asc_unique (List.Perm.refl _) (asc_sorted _)), fun x hx y hy => ?_⟩
  have key : arcB (copyG g d) x y = true ↔ arcB g x y = true := by
    rw [arcB_ex]
    constructor
    · rintro ⟨e, he, hh⟩
      obtain ⟨h1, h2, _, _⟩ := seenW_mem.1 he
      rcases hh with ⟨rfl, rfl⟩ | ⟨h5, rfl, rfl⟩
      · exact ((gs_mem hok h1).1 h2).2
      · have hgd : g.dir = false := by
          cases h : g.dir
          · rfl
          · rw [show (copyG g d).dir = d from rfl, hd h] at h5; cases h5
        exact ((gs_mem hok hx).1 (gs_sym hok hgd h1 h2).2).2
    · intro h
      have h1 : y ∈ gSucc g x := (gs_mem hok hx).2 ⟨hy, h⟩
      by_cases hc : d = true ∨ x ≤ y
      · exact ⟨(x, y, wOf g x y), seenW_mem.2 ⟨hx, h1, hc, rfl⟩, .inl ⟨rfl, rfl⟩⟩
      · have hdf : d = false := by cases hdd : d; rfl; exact absurd (.inl hdd) hc
        have hgd : g.dir = false := by
          cases h : g.dir
          · rfl
          · rw [hd h] at hdf; cases hdf
        have hle : y ≤ x := by
          rcases Int.le_total x y with h | h
          · exact absurd (.inr h) hc
          · exact h
        exact ⟨(y, x, wOf g y x), seenW_mem.2 ⟨hy, (gs_sym hok hgd hx h1).2, .inr hle, rfl⟩, .inr ⟨hdf, rfl, rfl⟩⟩
  cases h1 : arcB g x y <;> cases h2 : arcB (copyG g d) x y
  · rfl
  · rw [key.1 h2] at h1; cases h1
  · rw [key.2 h1] at h2; cases h2
  · rfl

/-- A graph without edges, with a node more. -/
def moreG (g : Gr) (d : Bool) (m : Int) : Gr := ⟨d, g.nodes ++ [m], []⟩

theorem more_ok {g : Gr} (hok : okGraph g = true) (d : Bool) {m : Int} (hm : m ∉ g.nodes) : okGraph (moreG g d m) = true := by
  unfold okGraph at hok ⊢
  rw [Bool.and_eq_true] at hok ⊢
  refine ⟨decide_eq_true ?_, rfl⟩
  refine List.pairwise_append.2 ⟨of_decide_eq_true hok.1, by simp, fun a ha b hb => ?_⟩
  obtain rfl := List.mem_singleton.1 hb
  exact fun e => hm (e ▸ ha)

theorem more_other {g : Gr} (d : Bool) (m : Int) : ¬ sameG g (moreG g d m) := fun h => by
  have := congrArg List.length h.1
  rw [asc_length, asc_length] at this
  simp [moreG] at this
end Go.Proofs.YtgkimjjodhnmiaaGreat
