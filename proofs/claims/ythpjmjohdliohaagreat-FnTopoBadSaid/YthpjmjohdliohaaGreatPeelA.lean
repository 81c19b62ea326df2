/- Degrees within a set by the edges of a graph; peeled, pure.
   laws.tableOf: the walk.
   laws.peeled: what is left is a set in which each node has k edges at least to others of it.
   topo.DegeneracyOrdering, topo.KCore.
   impl.KCore at a good graph without directions; the plain law of FnKCoreNested. -/
import Derived.Test.YthpjmjohdliohaaGreatKA
import Derived.Test.YthpjmjohdliohaaGreatTabsS
import Derived.Test.YthpjmjohdliohaaGreatDegA
import Derived.Test.YthpjmjohdliohaaGreatPartsA
import Derived.Test.YthpjmjohdliohaaGreatRowBase
import Derived.Deep.AppendLies
import Derived.Deep.OwnRows
import Derived.Deep.RegionLaw
import Derived.Deep.RegionHeld3
import Derived.Deep.DeepCutAuto
import Derived.StillTailTactics
import Derived.Deep.LoopGhost
import Derived.Test.YthpjmjohdliohaaGreatDeg
import Derived.Test.YthpjmjohdliohaaGreatSortA
import Derived.Laws.CopyOwn
import Derived.Test.YthpjmjohdliohaaGreatBothWays
import Derived.Test.YthpjmjohdliohaaGreatNumA
namespace Go.Proofs.YthpjmjohdliohaaGreat

/-- How many nodes of S an edge leads to from x. -/
def dgIn (g : Gr) (S : List Int) (x : Int) : Nat := (S.filter fun y => arcB g x y).length

theorem dg_degIn {g : Gr} {S : List Int} {x : Int} (hok : okGraph g = true) (hS : S.Nodup) (hsub : ∀ y ∈ S, y ∈ g.nodes) (hx : x ∈ g.nodes) (hnd : (gSucc g x).Nodup) : dgIn g S x = degIn (gSucc g) S x := by
  unfold dgIn degIn
  refine Nat.le_antisymm ?_ ?_
  · refine nodup_len (hS.filter _) fun y hy => ?_
    rw [List.mem_filter] at hy ⊢
    exact ⟨(gSucc_mem hok hx).2 ⟨hsub y hy.1, hy.2⟩, decide_eq_true hy.1⟩
  · refine nodup_len (hnd.filter _) fun y hy => ?_
    rw [List.mem_filter] at hy ⊢
    exact ⟨of_decide_eq_true hy.2, ((gSucc_mem hok hx).1 hy.1).2⟩

/-- How many of the places below m that are not gone an edge leads to. -/
def dAt (ta : List (List Bool)) (G : List Bool) (u m : Nat) : Nat := ((List.range m).filter fun v => atB ta u v && !G.getD v false).length

theorem dAt_succ (ta : List (List Bool)) (G : List Bool) (u m : Nat) : dAt ta G u (m + 1) = dAt ta G u m + if (atB ta u m && !G.getD m false) = true then 1 else 0 := by
  unfold dAt
  rw [List.range_succ, List.filter_append, List.length_append]
  congr 1
  by_cases h : (atB ta u m && !G.getD m false) = true
  · rw [if_pos h, List.filter_cons_of_pos (p := fun v => atB ta u v && !G.getD v false) h]; rfl
  · rw [if_neg h, List.filter_cons_of_neg (p := fun v => atB ta u v && !G.getD v false) h]; rfl

theorem dAt_le (ta : List (List Bool)) (G : List Bool) (u m : Nat) : dAt ta G u m ≤ m := by
  unfold dAt
  have := List.length_filter_le (fun v => atB ta u v && !G.getD v false) (List.range m)
  rwa [List.length_range] at this

/-- How many are left. -/
def left_ (G : List Bool) : Nat := (G.filter fun b => !b).length

theorem left_set {G : List Bool} {u : Nat} (hu : u < G.length) (h : G.getD u false = false) : left_ (G.set u true) + 1 = left_ G := by
  induction G generalizing u with
  | nil => simp at hu
  | cons b G ih =>
    cases u with
    | zero =>
      simp at h
      subst h
      simp [left_]
    | succ u =>
      have := ih (u := u) (by simpa using hu) (by simpa using h)
      unfold left_ at this ⊢
      rw [List.set_cons_succ]
      cases b <;> simp_all

/-- What is left has k edges to others that are left. -/
def Peeled (ta : List (List Bool)) (G : List Bool) (n k m : Nat) : Prop := ∀ u, u < m → G.getD u false = false → k ≤ dAt ta G u n

/-- A round of peeled at place m. -/
def PRound (ta : List (List Bool)) (G0 G : List Bool) (n k m : Nat) (ag : Bool) : Prop :=
  G.length = n ∧ (ag = false → G = G0 ∧ Peeled ta G n k m) ∧ (ag = true → left_ G < left_ G0)

theorem PRound.start (ta : List (List Bool)) {G : List Bool} {n : Nat} (k : Nat) (h : G.length = n) : PRound ta G G n k 0 false :=
  ⟨h, fun _ => ⟨rfl, fun u hu => by omega⟩, fun e => by cases e⟩

theorem PRound.keep {ta : List (List Bool)} {G0 G : List Bool} {n k m : Nat} {ag : Bool} (h : PRound ta G0 G n k m ag) (hc : ¬ (G.getD m false = false ∧ dAt ta G m n < k)) : PRound ta G0 G n k (m + 1) ag :=
  ⟨h.1, fun e => ⟨(h.2.1 e).1, fun u hu hg => by
    by_cases e2 : u = m
    · subst e2
      exact Nat.le_of_not_lt fun h2 => hc ⟨hg, h2⟩
    · exact (h.2.1 e).2 u (by omega) hg⟩, h.2.2⟩

theorem PRound.take_ {ta : List (List Bool)} {G0 G : List Bool} {n k m : Nat} {ag : Bool} (h : PRound ta G0 G n k m ag) (hm : m < n) (hg : G.getD m false = false) : PRound ta G0 (G.set m true) n k (m + 1) true := by
  refine ⟨by rw [List.length_set]; exact h.1, fun e => (by simp at e), fun _ => ?_⟩
  have h1 := left_set (by rw [h.1]; exact hm) hg
  cases ag with
  | true => have := h.2.2 rfl; omega
  | false => rw [← (h.2.1 rfl).1]; omega

/-- The places that are left. -/
def leftTo (G : List Bool) (ids : List Int) (m : Nat) : List Int := ((List.range m).filter fun u => !G.getD u false).map fun u => ids.getD u 0

theorem leftTo_succ (G : List Bool) (ids : List Int) (m : Nat) : leftTo G ids (m + 1) = leftTo G ids m ++ if G.getD m false = true then [] else [ids.getD m 0] := by
  unfold leftTo
  rw [List.range_succ, List.filter_append, List.map_append]
  congr 1
  by_cases h : G.getD m false = true
  · rw [if_pos h, List.filter_cons_of_neg (p := fun u => !G.getD u false) (by rw [h]; simp)]; rfl
  · have h' : G.getD m false = false := by simpa using h
    rw [if_neg h, List.filter_cons_of_pos (p := fun u => !G.getD u false) (by rw [h']; rfl)]; rfl

theorem leftTo_len (G : List Bool) (ids : List Int) (m : Nat) : (leftTo G ids m).length ≤ m := by
  unfold leftTo
  rw [List.length_map]
  have := List.length_filter_le (fun u => !G.getD u false) (List.range m)
  rwa [List.length_range] at this

theorem left_core {g : Gr} {ta : List (List Bool)} {tw : List (List Int)} {G : List Bool} {k : Nat} (hids : (asc g.nodes).Nodup) (hT : TabOk (asc g.nodes) g.dir g.edges (ta, tw)) (hP : Peeled ta G (asc g.nodes).length k (asc g.nodes).length) :
    (leftTo G (asc g.nodes) (asc g.nodes).length).Nodup ∧ ∀ x ∈ leftTo G (asc g.nodes) (asc g.nodes).length, x ∈ g.nodes ∧ k ≤ dgIn g (leftTo G (asc g.nodes) (asc g.nodes).length) x := by
  obtain ⟨ids, hi⟩ : ∃ ids, ids = asc g.nodes := ⟨_, rfl⟩
  have hmem : ∀ x, x ∈ ids ↔ x ∈ g.nodes := fun x => by rw [hi]; exact asc_mem
  rw [← hi] at hids hT hP ⊢
  have hinj : ∀ (p : Nat → Bool) (m : Nat), m ≤ ids.length → (((List.range m).filter p).map fun u => ids.getD u 0).Nodup := fun p m hm => by
    unfold List.Nodup
    rw [List.pairwise_map]
    refine List.Pairwise.imp_of_mem (R := fun a b => a ≠ b) ?_ (List.Pairwise.filter _ List.nodup_range)
    intro a b ha hb hab e
    rw [List.mem_filter, List.mem_range] at ha hb
    have h1 : a < ids.length := by omega
    have h2 : b < ids.length := by omega
    simp only [List.getD_eq_getElem?_getD, List.getElem?_eq_getElem h1, List.getElem?_eq_getElem h2, Option.getD_some] at e
    exact hab ((List.getElem_inj hids).1 e)
  refine ⟨hinj _ _ (Nat.le_refl _), fun x hx => ?_⟩
  unfold leftTo at hx
  obtain ⟨u, hu, rfl⟩ := List.mem_map.1 hx
  rw [List.mem_filter, List.mem_range] at hu
  have hul := hu.1
  have hug : G.getD u false = false := by simpa using hu.2
  have hxg : ids.getD u 0 = ids[u] := by simp [hul]
  rw [hxg]
  refine ⟨(hmem _).1 (List.getElem_mem hul), Nat.le_trans (hP u hul hug) ?_⟩
  unfold dAt dgIn
  have hl : ((List.range ids.length).filter fun v => atB ta u v && !G.getD v false).length = (((List.range ids.length).filter fun v => atB ta u v && !G.getD v false).map fun u => ids.getD u 0).length := by rw [List.length_map]
  rw [hl]
  refine nodup_len (hinj _ _ (Nat.le_refl _)) fun y hy => ?_
  obtain ⟨v, hv, rfl⟩ := List.mem_map.1 hy
  rw [List.mem_filter, List.mem_range, Bool.and_eq_true] at hv
  rw [List.mem_filter]
  refine ⟨List.mem_map.2 ⟨v, List.mem_filter.2 ⟨List.mem_range.2 hv.1, hv.2.2⟩, rfl⟩, ?_⟩
  have := hT.at_ u v hul hv.1
  simp only at this
  unfold arcB
  rw [show ids.getD v 0 = ids[v] from by simp [hv.1], ← this]
  exact hv.2.1

/-- The least of the degrees within a list, of its first m nodes. -/
def leastTo (g : Gr) (l : List Int) (m : Nat) : Nat := (l.take m).foldl (fun a x => min a (dgIn g l x)) 1099511627776

theorem leastTo_succ (g : Gr) (l : List Int) (m : Nat) (hm : m < l.length) : leastTo g l (m + 1) = min (leastTo g l m) (dgIn g l l[m]) := by
  unfold leastTo
  rw [List.take_succ_eq_append_getElem hm, List.foldl_append]; rfl

theorem leastTo_le (g : Gr) (l : List Int) (m : Nat) : leastTo g l m ≤ 1099511627776 := by
  unfold leastTo
  generalize l.take m = q
  have : ∀ (q : List Int) (a : Nat), q.foldl (fun a x => min a (dgIn g l x)) a ≤ a := by
    intro q
    induction q with
    | nil => intro a; exact Nat.le_refl _
    | cons x q ih => intro a; exact Nat.le_trans (ih _) (Nat.min_le_left _ _)
  exact this q _

theorem le_leastTo {g : Gr} {l : List Int} {k : Nat} (hk : k ≤ 1099511627776) (h : ∀ x ∈ l, k ≤ dgIn g l x) (m : Nat) : k ≤ leastTo g l m := by
  unfold leastTo
  have hq : ∀ x ∈ l.take m, k ≤ dgIn g l x := fun x hx => h x (List.mem_of_mem_take hx)
  generalize l.take m = q at hq ⊢
  have : ∀ (q : List Int) (a : Nat), (∀ x ∈ q, k ≤ dgIn g l x) → k ≤ a → k ≤ q.foldl (fun a x => min a (dgIn g l x)) a := by
    intro q
    induction q with
    | nil => intro a _ ha; exact ha
    | cons x q ih => intro a h ha; exact ih _ (fun y hy => h y (List.mem_cons_of_mem _ hy)) (Nat.le_min.2 ⟨ha, h x List.mem_cons_self⟩)
  exact this q _ hq hk

theorem leastTo_mem {g : Gr} {l : List Int} (x : Int) (hx : x ∈ l) : leastTo g l l.length ≤ dgIn g l x := by
  unfold leastTo
  rw [List.take_length]
  have : ∀ (q : List Int) (a : Nat), x ∈ q → q.foldl (fun a x => min a (dgIn g l x)) a ≤ dgIn g l x := by
    intro q
    induction q with
    | nil => intro a h; cases h
    | cons y q ih =>
      intro a h
      have hmono : ∀ (q : List Int) (a : Nat), q.foldl (fun a x => min a (dgIn g l x)) a ≤ a := by
        intro q
        induction q with
        | nil => intro a; exact Nat.le_refl _
        | cons x q ih => intro a; exact Nat.le_trans (ih _) (Nat.min_le_left _ _)
      rcases List.mem_cons.1 h with e | e
      · subst e
        exact Nat.le_trans (hmono q _) (Nat.min_le_right _ _)
      · exact ih _ e
  exact this l _ hx
end Go.Proofs.YthpjmjohdliohaaGreat

namespace Go.Proofs.YthpjmjohdliohaaGreat
open Go.RowKit

theorem info_rowI : (Tryz.prog.info? 22).map (fun i => (i.zero, i.size, i.bytes)) = some (some (.slice none 0 0), 1, 24) := by kernel_rfl

end Go.Proofs.YthpjmjohdliohaaGreat

namespace Go.Proofs.YthpjmjohdliohaaGreat
open Go.RowKit

theorem made_row (W : World) (z : Value) (t : TypeId) (n : Nat) (hn : n ≤ 1048576) :
    (W.alloc (.cells (madeCells #[z] n) t)).ownsRow W.heap.size t 1 (.slice (some ⟨W.heap.size, 0, none⟩) n n) n (List.replicate n z) := by
  refine ⟨by simp, .inr ⟨W.heap.size, n, madeCells #[z] n, rfl, Nat.le_refl _, heap_alloc_new _ _, Nat.le_refl _, by unfold maxLen; omega, by rw [size_madeCells, Nat.mul_one], ?_⟩⟩
  rw [made_repl]
  simp

/-- What peeled gives. -/
def PeelPost (w : World) (g : Gr) (k : Nat) (e : Ending) (w' : World) : Prop :=
  ∃ (S : List Int) (a : Option Addr) (c : Nat), e = .returned (.slice a S.length c) ∧ S.Nodup ∧ (∀ x ∈ S, x ∈ g.nodes ∧ k ≤ dgIn g S x) ∧ Below w.heap.size w w'

theorem getD_at' {l : List Bool} {i : Nat} (h : i < l.length) : (l.map Value.bool)[i]? = some (.bool (l.getD i false)) := by simp [h]

end Go.Proofs.YthpjmjohdliohaaGreat

namespace Go.Proofs.YthpjmjohdliohaaGreat
open Go.RowKit Go.Lib

/-- That there is a core of degree K - 1 at least. -/
def TopOk (s : Int → List Int) (ids : List Int) (K : Nat) : Prop := K ≤ 1 ∨ ∃ S : List Int, S ≠ [] ∧ ∀ x ∈ S, x ∈ ids ∧ K - 1 ≤ degIn s S x

theorem top_le {s : Int → List Int} {ids L : List Int} {k K : Nat} {c : List Nat} (h : KInv s ids L k c) (hall : ∀ x ∈ ids, x ∈ L) (hT : TopOk s ids K) : K ≤ k + 1 := by
  rcases hT with h1 | ⟨S, hne, hS⟩
  · omega
  · have := h.top hall hne hS
    omega

theorem sum_take_succ (c : List Nat) (i : Nat) (hi : i < c.length) : (c.take (i + 1)).sum = (c.take i).sum + c[i] := by
  rw [List.take_succ_eq_append_getElem hi, List.sum_append]
  simp

theorem k_le {s : Int → List Int} {ids L : List Int} {k : Nat} {c : List Nat} (h : KInv s ids L k c) (hall : ∀ x ∈ ids, x ∈ L) (hs : ∀ x ∈ ids, ∀ y ∈ s x, y ∈ ids) (hl : ∀ x, (s x).length ≤ 1000) : k ≤ 1000 := by
  rcases h.pos with ⟨_, h2⟩ | h2
  · omega
  · have hk : k < c.length := by have := h.len; omega
    have h3 := sum_take_succ c k hk
    have h4 : c.getD k 0 = c[k] := by simp [hk]
    have h5 := sum_take_le c (k + 1)
    have h6 := h.sum
    have hlt : (c.take k).sum < L.length := by omega
    have hx := List.getElem_mem (l := L.drop (c.take k).sum) (n := 0) (by rw [List.length_drop]; omega)
    have h7 := (h.core hall hs (t := k) (by omega)).1 _ hx
    have h8 : degIn s (L.drop (c.take k).sum) ((L.drop (c.take k).sum)[0]'(by rw [List.length_drop]; omega)) ≤ (s ((L.drop (c.take k).sum)[0]'(by rw [List.length_drop]; omega))).length := List.length_filter_le _ _
    have h9 := hl ((L.drop (c.take k).sum)[0]'(by rw [List.length_drop]; omega))
    omega

/-- What DegeneracyOrdering gives. -/
def CoresPost (w : World) (s : Int → List Int) (ids : List Int) (e : Ending) (w' : World) : Prop :=
  ∃ (a : Option Addr) (na ca : Nat) (b : Option Addr) (kk cb : Nat), e = .returned (.tuple #[.slice a na ca, .slice b kk cb]) ∧ kk ≤ 1001 ∧ (∀ K, TopOk s ids K → K ≤ kk) ∧ Below w.heap.size w w'

theorem nodes_cells (zs : List Int) : ∀ u ∈ nodes zs, u.oneCell' = true := by
  intro u hu
  unfold nodes at hu
  obtain ⟨x, _, rfl⟩ := List.mem_map.1 hu
  rfl

theorem nat_ints_get (c : List Nat) (i : Nat) (hi : i < c.length) : (ints (c.map fun (n : Nat) => (n : Int)))[i]? = some (.int .i64 (c[i] : Nat)) := by
  unfold ints
  simp [hi]

set_option maxRecDepth 100000 in
set_option maxHeartbeats 4000000 in
theorem cores_any (gb : Nat) (ids : List Int) (outs ins : List (List Arc)) (w : World) (hids : ids.length ≤ 1000) (h64 : ∀ y ∈ ids, In64 y) (hp : PlainAt w gb ids outs ins) (hsym : ∀ x ∈ ids, ∀ y ∈ succOf ids outs x, x ∈ succOf ids outs y) (hnd : ∀ x ∈ ids, (succOf ids outs x).Nodup) :
    Calls Tryz.prog 29 #[.iface 62 (.agg #[.pointer (some ⟨gb, 0, none⟩)])] w (CoresPost w (succOf ids outs) ids) := by
  have hdeg := Lib.hid (degOrd_any gb ids outs ins w hids h64 hp hsym hnd)
  have hsl : Hid (∀ x, (succOf ids outs x).length ≤ 1000) := fun x => by have := succ_len hp x; omega
  have hsm : Hid (∀ x ∈ ids, ∀ y ∈ succOf ids outs x, y ∈ ids) := fun x _ => succ_mem hp x
  obtain ⟨s, hs⟩ : ∃ s, s = succOf ids outs := ⟨_, rfl⟩
  rw [← hs] at hdeg hsl hsm ⊢
  clear hp h64 hsym hnd hs
  go_enter Tryz.func29, Tryz.ntmps29
  go_wp2_with fail
  refine (unhide hdeg).mono ?_
  rintro e w1 ⟨L, k, c, la, sa, lc, sc, rfl, ownL, ownS, hne, hI, hall, hb1⟩
  have hk := k_le hI hall hsm.out hsl.out
  have hlen := hI.len
  have hsum := hI.sum
  have hLl : L.length ≤ 1000 := by have := nodup_len hI.nd hI.sub; omega
  have htop : Hid (∀ K, TopOk s ids K → K ≤ k + 1) := fun K hT => top_le hI hall hT
  have hbh := Lib.hid hb1
  obtain ⟨l, hl⟩ : ∃ l, l = L.length := ⟨_, rfl⟩
  rw [← hl] at ownL hsum hLl hne ⊢
  have hrev := Lib.hid (reverse_own rvNLays w.heap.size 85 l lc la (nodes L) w1 (nodes_cells L) (by omega) ownL)
  have hcap : l ≤ lc ∨ (la = none ∧ l = 0 ∧ lc = 0) := by
    obtain ⟨_, h | ⟨g, cap, _, hv, _, _, hn, _⟩⟩ := ownL
    · obtain ⟨h1, h2⟩ := h
      injection h1 with h1 h3 h4
      exact .inr ⟨h1, h2, h4⟩
    · injection hv with _ _ h3
      subst h3
      exact .inl hn
  have hlow : Hid (∀ j, (Value.slice la l lc).ownBlock = some j → w.heap.size ≤ j) := fun j hj => (ownL.lt j hj).1
  have hownS : Hid (∀ W, w1.grownBy W (Value.slice la l lc).ownBlock → W.ownsRow w.heap.size 3 1 (.slice sa (k + 1) sc) (k + 1) (ints (c.map fun (n : Nat) => (n : Int)))) := fun W hW =>
    owns_same ownS fun j hj => hW.block j (ownS.lt j hj).2 fun e => hne j e.symm hj
  have hlenh := Lib.hid hlen
  have hsumh := Lib.hid hsum
  have hstep := Lib.hid (sum_take_succ c)
  have hstl := Lib.hid (sum_take_le c)
  have hlelc : l ≤ lc := by omega
  have hmk : ∀ W : World, (Instr.makeSlice 58 (.int .i64 ((k : Int) + 1)) (.int .i64 ((k : Int) + 1))).run Tryz.prog W = .ok (.slice (some ⟨W.heap.size, 0, none⟩) (k + 1) (k + 1)) (W.alloc (.cells (madeCells #[.slice none 0 0] (k + 1)) 50)) := fun W => by
    have := run_make_row' (P := Tryz.prog) 58 50 (.slice none 0 0) 24 Tryz.underlying58 info_nrowD rfl .i64 .i64 (k + 1) (by omega) (by omega) W
    rwa [show ((k + 1 : Nat) : Int) = (k : Int) + 1 from by omega] at this
  clear hI hall hb1 hl ownL ownS hne hlen hsum hcap hdeg hsl hsm
  go_wp2_with fail
  refine (unhide hrev).mono ?_
  rintro e w2 ⟨rfl, ownL2, hg2⟩
  have hb2 : Hid (Below w.heap.size w w2) := hbh.out.grown hg2 hbh.out.size hlow.out
  have hS2 := hownS.out w2 hg2
  obtain ⟨gs, rfl, hgs1, hgs2, _⟩ := owns_at hS2 (by omega)
  have hcc : Hid (∀ i (hi : i < c.length), w2.cell? ⟨gs, i, none⟩ = some (.int .i64 (c[i] : Nat))) := fun i hi => owns_cell hS2 (nat_ints_get c i hi)
  have hmr := Lib.hid (made_row w2 (.slice none 0 0) 50 (k + 1) (by omega))
  obtain ⟨w3, hw3⟩ : ∃ w3, w3 = w2.alloc (.cells (madeCells #[.slice none 0 0] (k + 1)) 50) := ⟨_, rfl⟩
  have hb3 : Hid (Below w2.heap.size w2 w3) := by unfold Hid; rw [hw3]; exact alloc_below _ _
  rw [← hw3] at hmr
  have hw3h := Lib.hid hw3
  obtain ⟨db, hdb⟩ : ∃ db, db = w2.heap.size := ⟨_, rfl⟩
  have hdbh := Lib.hid hdb
  rw [← hdb] at hmr
  clear hw3 ownL2 hg2 hS2 hdb hrev hlow hownS hbh
  go_wp2_with fail
  rw [← hw3h.out, ← hdbh.out]
  clear hmk hw3h
  go_loopw [5, 6, 7, 22] (fun ov _ _ iv wr => ∃ (i o : Nat) (vs : List Value), i ≤ k + 1 ∧ iv = .int .i64 i ∧ ov = .int .i64 o ∧ o + (c.take i).sum = l ∧ wr.ownsRow db 50 1 (.slice (some ⟨db, 0, none⟩) (k + 1) (k + 1)) (k + 1) vs ∧ Below w2.heap.size w2 wr) (fun _ _ _ iv _ => k + 1 - (intOf iv).toNat)
  case atStart => exact ⟨0, l, _, Nat.zero_le _, rfl, rfl, by simp, hmr.out, hb3.out⟩
  case round =>
    clear hmr hb3
    obtain ⟨i, o, vs, hi, rfl, rfl, ho, hown, hb⟩ := hrel
    have hb5 := Lib.hid hb
    have ownh := Lib.hid hown
    by_cases hlt : i < k + 1
    · have hic : i < c.length := by have := hlenh.out; omega
      have hst := hstep.out i hic
      have hle := hstl.out (i + 1)
      have x1 := cell_below hb (hcc.out i hic)
      obtain ⟨m, hm⟩ : ∃ m, m = c[i] := ⟨_, rfl⟩
      rw [← hm] at hst x1
      have hmo : m ≤ o := by have := hsumh.out; omega
      have ho1 : o ≤ 1000 := by omega
      obtain ⟨a', n', c', hsl⟩ : ∃ a' n' c', ∀ W, (Instr.slice 50 (.slice la l lc) (some (.int .i64 ((o : Int) - (m : Int)))) (some (.int .i64 (o : Int))) none).run Tryz.prog W = .ok (.slice a' n' c') W :=
        ⟨_, _, _, fun W => (run_slice_lh (P := Tryz.prog) (w := W) 50 la l lc (by kernel_rfl) .i64 .i64 _ _ (by omega) (by omega) (by omega)).trans (by rw [show Tryz.prog.elem 50 = 85 from by kernel_rfl, Tryz.sizeOf85]; rfl)⟩
      have x2 : ∃ u, wr.cell? ⟨db, i, none⟩ = some u := by
        have hvl : vs.length = k + 1 := by have := hown.1; omega
        exact ⟨_, owns_cell hown (List.getElem?_eq_getElem (by omega))⟩
      obtain ⟨u, x2⟩ := x2
      have x3 := owns_free hown i
      have hset := Lib.hid (owns_set hown (j := i) (.slice a' n' c'))
      have hset2 : Hid (Below w2.heap.size w2 (wr.setCell ⟨db, i, none⟩ (.slice a' n' c'))) := hb5.out.setCell (by rw [hdbh.out]; exact Nat.le_refl _) _
      have hnx : Hid (o - m + (c.take (i + 1)).sum = l) := by unfold Hid; omega
      have hcast : Hid (((o : Int) - (m : Int)) = ((o - m : Nat) : Int)) := by unfold Hid; omega
      clear hst hle hm hown hb hic ho
      go_wp2_with fail
      go_roundw
      case rel => exact ⟨i + 1, o - m, _, by omega, by go_num, by rw [← hcast.out], hnx.out, hset.out, hset2.out⟩
      case measure => simp [intOf]; omega
    · have hik : i = k + 1 := by omega
      have hfin : Hid (CoresPost w s ids (.returned (.tuple #[.slice la l lc, .slice (some ⟨db, 0, none⟩) (k + 1) (k + 1)])) wr) :=
        ⟨la, l, lc, some ⟨db, 0, none⟩, k + 1, k + 1, rfl, by omega, htop.out, hb2.out.trans (hb5.out.mono hb2.out.size)⟩
      clear hown hb ho
      go_wp2_with fail
      go_ret2
      exact hfin.out

/-- copy of a row of nodes into one that was just made for it. -/
theorem copy_fresh (w : World) (sp : Option Addr) (m c' : Nat) (cs : List Value) (hm : m ≤ 1000) (hl : cs.length = m) (h1 : ∀ v ∈ cs, v.oneCell' = true)
    (hp : 0 < m → ∃ ad, sp = some ad ∧ ∀ j v, cs[j]? = some v → (w.alloc (.cells (madeCells #[.nilIface] m) 85)).cell? (ad.add j) = some v) :
    ∃ w9, (Builtin.copy_ #[50, 50] 3 #[.slice (some ⟨w.heap.size, 0, none⟩) m m, .slice sp m c']).run Tryz.prog (w.alloc (.cells (madeCells #[.nilIface] m) 85)) = .ok (.int .i64 (m : Nat)) w9 ∧
      w9.heap[w.heap.size]? = some (.cells cs.toArray 85 (0, 0)) ∧ Below w.heap.size w w9 := by
  have hz9 : (Tryz.prog.info? 85).map (·.size) = some 1 := by kernel_rfl
  have hg9 : (w.alloc (.cells (madeCells #[.nilIface] m) 85)).heap[w.heap.size]? = some (.cells (List.replicate m (.nilIface : Value)).toArray 85 (0, 0)) := by rw [← made_repl]; exact heap_alloc_new _ _
  by_cases h0 : m = 0
  · subst h0
    have hc : cs = [] := List.eq_nil_of_length_eq_zero hl
    subst hc
    exact ⟨_, run_copy_none (P := Tryz.prog) _ 50 50 3 85 (some ⟨w.heap.size, 0, none⟩) sp 0 0 0 c' Tryz.underlying50 hz9 rfl, hg9, alloc_below _ _⟩
  · obtain ⟨ad, rfl, hsrc⟩ := hp (by omega)
    have hrun := run_copy_row (P := Tryz.prog) (w.alloc (.cells (madeCells #[.nilIface] m) 85)) 50 50 3 85 w.heap.size 0 m m ad m c' (List.replicate m (.nilIface : Value)).toArray 85 cs Tryz.underlying50 hz9 hg9 (by rw [hl]; exact (Nat.min_self _).symm) hsrc (by rw [hl]; simp) h1
    refine ⟨_, hrun.trans (by rw [hl]; rfl), ?_, below_setRow (alloc_below _ _) (Nat.le_refl _) _⟩
    have hcs : (List.take 0 (List.replicate m (.nilIface : Value)).toArray.toList ++ cs ++ List.drop (0 + m) (List.replicate m (.nilIface : Value)).toArray.toList).toArray = cs.toArray := by simp
    rw [hcs]
    unfold World.setRow
    simp only [Array.getElem?_modify, if_true]
    rw [hg9]; rfl

/-- What KCore gives. -/
def KCorePost (w : World) (s : Int → List Int) (ids : List Int) (K : Nat) (e : Ending) (w' : World) : Prop :=
  ∃ (S : List Int) (a : Option Addr) (c : Nat), e = .returned (.slice a S.length c) ∧ Cells w' a (nodes S) ∧ Below w.heap.size w w' ∧ S.Nodup ∧ S.length ≤ 1000 ∧ (∀ x ∈ S, x ∈ ids ∧ K ≤ degIn s S x) ∧
    (∀ T : List Int, (∀ x ∈ T, x ∈ ids ∧ K ≤ degIn s T x) → ∀ x ∈ T, x ∈ S)

set_option maxRecDepth 100000 in
set_option maxHeartbeats 4000000 in
theorem kcore_any (K gb : Nat) (ids : List Int) (outs ins : List (List Arc)) (w : World) (hids : ids.length ≤ 1000) (h64 : ∀ y ∈ ids, In64 y) (hp : PlainAt w gb ids outs ins) (hsym : ∀ x ∈ ids, ∀ y ∈ succOf ids outs x, x ∈ succOf ids outs y) (hnd : ∀ x ∈ ids, (succOf ids outs x).Nodup) (hT : TopOk (succOf ids outs) ids K) :
    Calls Tryz.prog 30 #[.int .i64 (K : Nat), .iface 62 (.agg #[.pointer (some ⟨gb, 0, none⟩)])] w (KCorePost w (succOf ids outs) ids K) := by
  have hdeg := Lib.hid (degOrd_any gb ids outs ins w hids h64 hp hsym hnd)
  have hsl : Hid (∀ x, (succOf ids outs x).length ≤ 1000) := fun x => by have := succ_len hp x; omega
  have hsm : Hid (∀ x ∈ ids, ∀ y ∈ succOf ids outs x, y ∈ ids) := fun x _ => succ_mem hp x
  obtain ⟨s, hs⟩ : ∃ s, s = succOf ids outs := ⟨_, rfl⟩
  rw [← hs] at hdeg hsl hsm hT ⊢
  have hTh := Lib.hid hT
  clear hp h64 hsym hnd hs hT
  go_enter Tryz.func30, Tryz.ntmps30
  go_wp2_with fail
  refine (unhide hdeg).mono ?_
  rintro e w1 ⟨L, k, c, la, sa, lc, sc, rfl, ownL, ownS, hne, hI, hall, hb1⟩
  have hk := k_le hI hall hsm.out hsl.out
  have hlen := hI.len
  have hsum := hI.sum
  have hLl : L.length ≤ 1000 := by have := nodup_len hI.nd hI.sub; omega
  have hK1 : K ≤ k + 1 := top_le hI hall hTh.out
  have hcore := Lib.hid (hI.core hall hsm.out hK1)
  have hLn : Hid L.Nodup := hI.nd
  have hLs : Hid (∀ x ∈ L, x ∈ ids) := hI.sub
  have hbh := Lib.hid hb1
  have hstl := sum_take_le c K
  have hstep := Lib.hid (sum_take_succ c)
  have hmono := Lib.hid (sum_take_le c)
  have hsumh : Hid (c.sum = L.length) := hsum
  obtain ⟨q, hq⟩ : ∃ q, q = (c.take K).sum := ⟨_, rfl⟩
  rw [← hq] at hcore hstl
  obtain ⟨l, hl⟩ : ∃ l, l = L.length := ⟨_, rfl⟩
  rw [← hl] at ownL hsum hLl hne hsumh ⊢
  have hql : q ≤ l := by omega
  have hcells : Hid (0 < l - q → ∃ gl, la = some ⟨gl, 0, none⟩ ∧ l ≤ lc ∧ ∀ W, Below w1.heap.size w1 W → ∀ j v, (nodes (L.drop q))[j]? = some v → W.cell? ((⟨gl, q, none⟩ : Addr).add j) = some v) := fun hpos => by
    obtain ⟨gl, rfl, _, _, hcp⟩ := owns_at ownL (by omega)
    refine ⟨gl, rfl, hcp, fun W hW j v hj => ?_⟩
    have hj2 : (nodes L)[q + j]? = some v := by
      unfold nodes at hj ⊢
      rw [List.map_drop, List.getElem?_drop] at hj
      exact hj
    rw [Addr.add_mid]
    exact cell_below hW (owns_cell ownL hj2)
  have hcap : l ≤ lc ∨ (l = 0 ∧ lc = 0) := by
    obtain ⟨_, h | ⟨g, cap, _, hv, _, _, hn, _⟩⟩ := ownL
    · obtain ⟨h1, h2⟩ := h
      injection h1 with h1 h3 h4
      exact .inr ⟨h2, h4⟩
    · injection hv with _ _ h3
      subst h3
      exact .inl hn
  have hlelc : l ≤ lc := by omega
  obtain ⟨gs, rfl, hgs1, hgs2, hsc⟩ := owns_at ownS (by omega)
  have hcc : Hid (∀ i (hi : i < c.length), w1.cell? ⟨gs, i, none⟩ = some (.int .i64 (c[i] : Nat))) := fun i hi => owns_cell ownS (nat_ints_get c i hi)
  have hlenh := Lib.hid hlen
  have hqh := Lib.hid hq
  have hlh := Lib.hid hl
  have hdl : Hid ((nodes (L.drop q)).length = l - q) := by unfold Hid; rw [nodes_length, List.length_drop, hl]
  obtain ⟨cs, hcs⟩ : ∃ cs, cs = nodes (L.drop q) := ⟨_, rfl⟩
  have hone : Hid (∀ v ∈ cs, v.oneCell' = true) := by rw [hcs]; exact nodes_cells _
  rw [← hcs] at hcells hdl
  have hcsh := Lib.hid hcs
  have hmk : ∀ W : World, (Instr.makeSlice 50 (.int .i64 ((l : Int) - (q : Int))) (.int .i64 ((l : Int) - (q : Int)))).run Tryz.prog W = .ok (.slice (some ⟨W.heap.size, 0, none⟩) (l - q) (l - q)) (W.alloc (.cells (madeCells #[.nilIface] (l - q)) 85)) := fun W => by
    have := run_make_row' (P := Tryz.prog) 50 85 .nilIface 16 Tryz.underlying50 info_node rfl .i64 .i64 (l - q) (by omega) (by omega) W
    rwa [show ((l - q : Nat) : Int) = (l : Int) - (q : Int) from by omega] at this
  obtain ⟨sp, n', c', hn', hsp, hsl⟩ : ∃ sp n' c', n' = l - q ∧ (lc ≠ q → sp = la.map (·.add (q * 1))) ∧ ∀ W, (Instr.slice 50 (.slice la l lc) (some (.int .i64 (q : Nat))) none none).run Tryz.prog W = .ok (.slice sp n' c') W :=
    ⟨_, _, _, rfl, fun h => if_neg h, fun W => (run_slice_l (P := Tryz.prog) (w := W) 50 la l lc (by kernel_rfl) .i64 _ (by omega) (by omega)).trans (by rw [show Tryz.prog.elem 50 = 85 from by kernel_rfl, Tryz.sizeOf85]; rfl)⟩
  have hsph := Lib.hid hsp
  have hn'h := Lib.hid hn'
  have hslh := Lib.hid hsl
  have hmkh := Lib.hid hmk
  clear hI hall hb1 hl ownL ownS hne hlen hsum hcap hdeg hsl hsm hq hstl hcs hsp hn' hmk hTh
  go_wp2_with fail
  go_loopw [7, 9, 20] (fun ov _ iv wr => ∃ i : Nat, i ≤ K ∧ iv = .int .i64 i ∧ ov = .int .i64 ((c.take i).sum : Nat) ∧ wr = w1) (fun _ _ iv _ => K - (intOf iv).toNat)
  case atStart => exact ⟨0, Nat.zero_le _, rfl, by simp, rfl⟩
  case round =>
    obtain ⟨i, hi, rfl, rfl, rfl⟩ := hrel
    by_cases hlt : i < K
    · have hic : i < c.length := by have := hlenh.out; omega
      have x1 := hcc.out i hic
      have hst := hstep.out i hic
      obtain ⟨m, hm⟩ : ∃ m, m = c[i] := ⟨_, rfl⟩
      rw [← hm] at hst x1
      obtain ⟨t, ht⟩ : ∃ t, t = (c.take i).sum := ⟨_, rfl⟩
      rw [← ht] at hst ⊢
      have hsb : t + m ≤ 1000 := by
        have h1 := hmono.out (i + 1)
        have h2 := hsumh.out
        omega
      have hst2 := Lib.hid hst
      clear hst hm ht hic
      go_wp2_with fail
      go_roundw
      case rel => exact ⟨i + 1, by omega, by go_num, by rw [hst2.out]; go_num, trivial⟩
      case measure => simp [intOf]; omega
    · have hiK : i = K := by omega
      subst hiK
      rw [← hqh.out]
      have hmk := hmkh.out
      have hsl := hslh.out
      have hmr := Lib.hid (heap_alloc_new wr (.cells (madeCells #[.nilIface] (l - q)) 85))
      obtain ⟨w9, hcp, hh9, hb9⟩ := copy_fresh wr sp (l - q) c' cs (by omega) hdl.out hone.out fun hp => by
        obtain ⟨gl, e1, e2, h3⟩ := hcells.out hp
        refine ⟨⟨gl, q, none⟩, ?_, fun j v hj => h3 _ (alloc_below _ _) j v hj⟩
        rw [hsph.out (by omega), e1, Nat.mul_one]
        show some (Addr.add ⟨gl, 0, none⟩ q) = _
        rw [Addr.add_mid, Nat.zero_add]
      rw [hn'h.out] at hsl
      have hfin : Hid (KCorePost w s ids i (.returned (.slice (some ⟨wr.heap.size, 0, none⟩) (l - q) (l - q))) w9) := by
        have hlq : (L.drop q).length = l - q := by rw [List.length_drop, hlh.out]
        refine ⟨L.drop q, some ⟨wr.heap.size, 0, none⟩, l - q, by rw [hlq], ?_, hbh.out.trans (hb9.mono hbh.out.size), hLn.out.sublist (List.drop_sublist _ _), by omega, fun x hx => ⟨hLs.out x (List.mem_of_mem_drop hx), hcore.out.1 x hx⟩, hcore.out.2⟩
        rw [← hcsh.out]
        refine .mk (lt_of_block hh9) fun j v hj => ?_
        simp [World.cell?, hh9, hj]
      clear hh9 hb9
      go_wp2_with fail
      go_ret
      exact hfin.out
end Go.Proofs.YthpjmjohdliohaaGreat

namespace Go.Proofs.YthpjmjohdliohaaGreat
open Go.RowKit

/-- What impl.KCore gives. -/
def KRes (w : World) (g : Gr) (K : Nat) (e : Ending) (w' : World) : Prop :=
  ∃ (S : List Int) (a : Option Addr) (c : Nat), e = .returned (.tuple #[.slice a S.length c, .bool false]) ∧ Cells w' a (ints S) ∧ Below w.heap.size w w' ∧ S.Nodup ∧ S.length ≤ 1000 ∧ (∀ x ∈ S, x ∈ g.nodes ∧ K ≤ dgIn g S x) ∧
    (∀ T : List Int, T.Nodup → (∀ x ∈ T, x ∈ g.nodes ∧ K ≤ dgIn g T x) → ∀ x ∈ T, x ∈ S)

theorem arcB_sym {g : Gr} (hd : g.dir = false) (x y : Int) : arcB g x y = arcB g y x := by
  unfold arcB
  congr 1
  funext e
  unfold hits
  rw [hd]
  refine decide_eq_decide.2 ?_
  simp only [true_and]
  exact or_comm

theorem ok_nodup {g : Gr} (hok : okGraph g = true) : g.nodes.Nodup := by
  unfold okGraph at hok
  rw [Bool.and_eq_true] at hok
  exact of_decide_eq_true hok.1

theorem ends_nodup {ids : List Int} {outs : List (List Arc)} (hup : ids.Pairwise (· < ·)) (hok : ∀ l ∈ outs, RowOk ids.length l) (x : Int) : (succOf ids outs x).Nodup := by
  unfold succOf endsOf
  have hrow : RowOk ids.length (outs.getD (posOf ids x) []) := by
    rcases Nat.lt_or_ge (posOf ids x) outs.length with hl | hl
    · have hm : outs.getD (posOf ids x) [] ∈ outs := by simp [hl]
      exact hok _ hm
    · rw [List.getD_eq_getElem?_getD, List.getElem?_eq_none hl]; exact RowOk.nil _
  generalize outs.getD (posOf ids x) [] = l at hrow
  show (l.map fun a => ids.getD a.1 0).Pairwise (· ≠ ·)
  rw [List.pairwise_map]
  refine hrow.1.imp_of_mem fun {a b} ha hb hab => ?_
  have h1 := hrow.2 a ha
  have h2 := hrow.2 b hb
  have := List.pairwise_iff_getElem.1 hup a.1 b.1 h1 h2 hab
  simp only [List.getD_eq_getElem?_getD, List.getElem?_eq_getElem h1, List.getElem?_eq_getElem h2, Option.getD_some]
  omega

theorem topOk_of {g : Gr} {K : Nat} (hok : okGraph g = true) (hnd : ∀ x ∈ asc g.nodes, (gSucc g x).Nodup) (h : K ≤ 1 ∨ ∃ S : List Int, S ≠ [] ∧ S.Nodup ∧ ∀ x ∈ S, x ∈ g.nodes ∧ K - 1 ≤ dgIn g S x) : TopOk (gSucc g) (asc g.nodes) K := by
  rcases h with h | ⟨S, h1, h2, h3⟩
  · exact .inl h
  · refine .inr ⟨S, h1, fun x hx => ⟨asc_mem.2 (h3 x hx).1, ?_⟩⟩
    rw [← dg_degIn hok h2 (fun y hy => (h3 y hy).1) (h3 x hx).1 (hnd x (asc_mem.2 (h3 x hx).1))]
    exact (h3 x hx).2

set_option maxRecDepth 100000 in
set_option maxHeartbeats 4000000 in
theorem kcoreI_any (K : Nat) (g : Gr) (an : Option Addr) (cn : Nat) (ae : Option Addr) (ce : Nat) (w : World) (hn : g.nodes.length ≤ 1000) (he : g.edges.length ≤ 1048576) (hg : GrAt w g an cn ae) (hok : okGraph g = true) (hd : g.dir = false) (h64 : ∀ x ∈ g.nodes, In64 x)
    (hT : K ≤ 1 ∨ ∃ S : List Int, S ≠ [] ∧ S.Nodup ∧ ∀ x ∈ S, x ∈ g.nodes ∧ K - 1 ≤ dgIn g S x) :
    Calls Tryz.prog 12 #[.int .i64 (K : Nat), .agg #[.bool g.dir, .slice an g.nodes.length cn, .slice ae g.edges.length ce]] w (KRes w g K) := by
  obtain ⟨w1, hw1⟩ : ∃ w1, w1 = w.alloc (.cells #[.bool g.dir, .slice an g.nodes.length cn, .slice ae g.edges.length ce] 25) := ⟨_, rfl⟩
  have hb1 : Below w.heap.size w w1 := by rw [hw1]; exact alloc_below w _
  have hbw := bothWays_any g an cn ae ce w1 (by omega) he (hg.below hb1)
  rw [hw1] at hbw
  have hbwh := Lib.hid hbw
  have hw1h := Lib.hid hw1
  have hb1h := Lib.hid hb1
  have hokh := Lib.hid hok
  have hdh := Lib.hid hd
  have h64h : Hid (∀ x ∈ asc g.nodes, In64 x) := fun x hx => h64 x (asc_mem.1 hx)
  have hids : Hid ((asc g.nodes).length ≤ 1000) := by unfold Hid; rw [asc_length]; exact hn
  have hsymh : Hid (∀ x ∈ asc g.nodes, ∀ y ∈ gSucc g x, x ∈ gSucc g y) := fun x hx y hy => by
    obtain ⟨h1, h2⟩ := (gSucc_mem hok (asc_mem.1 hx)).1 hy
    exact (gSucc_mem hok h1).2 ⟨asc_mem.1 hx, by rw [arcB_sym hd]; exact h2⟩
  have hndh : Hid (∀ x ∈ asc g.nodes, (gSucc g x).Nodup) := fun x _ => by
    have ht := graph_tabs hok
    exact ends_nodup (asc_incr (ok_nodup hok)) ht.r1 x
  have hTh := Lib.hid (topOk_of hok hndh.out hT)
  clear hw1 hb1 hbw hg h64 hok hd hT
  go_enter Tryz.func12, Tryz.ntmps12
  go_wp2_with fail
  refine (unhide hbwh).mono ?_
  rintro e w2 ⟨gb, rfl, hb2, hp2⟩
  rw [← hw1h.out] at hb2 hp2
  have hFA := hp2 hokh.out
  have hres : (okGraph g && !g.dir) = true := by rw [hokh.out, hdh.out]; rfl
  rw [hres]
  have hbw2 := Lib.hid (hb1h.out.trans (hb2.mono hb1h.out.size))
  have hPl : Hid (∀ W, Below w2.heap.size w2 W → PlainAt W gb (asc g.nodes) (outsOf g) (tabs bitsOf (asc g.nodes) g.dir g.edges).2) := fun W hW => hFA.plain.below hW
  obtain ⟨w3, hw3⟩ : ∃ w3, w3 = w2.alloc (.cells #[.pointer (some ⟨gb, 0, none⟩)] 62) := ⟨_, rfl⟩
  have hb3 : Below w2.heap.size w2 w3 := by rw [hw3]; exact alloc_below _ _
  have c0 : w3.cell? ⟨w2.heap.size, 0, none⟩ = some (.pointer (some ⟨gb, 0, none⟩)) := by rw [hw3]; simp
  have hco := cores_any gb (asc g.nodes) (outsOf g) _ w3 hids.out h64h.out (hPl.out w3 hb3) hsymh.out hndh.out
  rw [hw3] at hco
  have hcoh := Lib.hid hco
  have hw3h := Lib.hid hw3
  have hb3h := Lib.hid hb3
  have c0h := Lib.hid c0
  clear hp2 hFA hres hb2 hbwh hw3 hb3 c0 hco
  go_wp2_with fail
  refine (unhide hcoh).mono ?_
  rintro e w4 ⟨a1, n1, c1, b1, kk, cb, rfl, hkk, htop, hb4⟩
  rw [← hw3h.out] at hb4
  have hKk : K ≤ kk := htop K hTh.out
  have hb24 : Below w2.heap.size w2 w4 := hb3h.out.trans (hb4.mono hb3h.out.size)
  have c4 := cell_below hb4 c0h.out
  have hkc := Lib.hid (kcore_any K gb (asc g.nodes) (outsOf g) _ w4 hids.out h64h.out (hPl.out w4 hb24) hsymh.out hndh.out hTh.out)
  have hb4h : Hid (Below w.heap.size w w4) := hbw2.out.trans (hb24.mono hbw2.out.size)
  have hlt : ¬ (kk : Int) < (K : Int) := by omega
  clear hb4 hb24 htop hcoh hPl
  go_wp2_with fail
  refine (unhide hkc).mono ?_
  rintro e w5 ⟨S, a5, c5, rfl, hcS, hb5, hSn, hSl, hSk, hSm⟩
  have hnu := Lib.hid (numbers_any a5 S.length c5 S w5 rfl (by omega) hcS)
  have hSg : ∀ y ∈ S, y ∈ g.nodes := fun y hy => asc_mem.1 (hSk y hy).1
  have hfin : Hid (∀ w' a c, Cells w' a (ints S) → Below w5.heap.size w5 w' → KRes w g K (.returned (.tuple #[.slice a S.length c, .bool false])) w') := fun w' a c hc hb =>
    ⟨S, a, c, rfl, hc, (hb4h.out.trans (hb5.mono hb4h.out.size)).trans (hb.mono (Nat.le_trans hb4h.out.size hb5.size)), hSn, hSl, fun x hx => ⟨hSg x hx, by
      rw [dg_degIn hokh.out hSn hSg (hSg x hx) (hndh.out x (hSk x hx).1)]
      exact (hSk x hx).2⟩, fun T hTn hT => hSm T fun x hx => ⟨asc_mem.2 (hT x hx).1, by
      have := (hT x hx).2
      rwa [dg_degIn hokh.out hTn (fun y hy => (hT y hy).1) (hT x hx).1 (hndh.out x (asc_mem.2 (hT x hx).1))] at this⟩⟩
  obtain ⟨n, hn2⟩ : ∃ n, n = S.length := ⟨_, rfl⟩
  rw [← hn2] at hnu hfin ⊢
  clear hcS hb5 hSn hSl hSk hSm hkc hSg hn2
  go_wp2_with fail
  refine (unhide hnu).mono ?_
  rintro e w6 ⟨a6, c6, rfl, hrow, hb6⟩
  have hcS : Cells w6 a6 (ints S) := by
    obtain ⟨x, y, e, _, h, _⟩ := owns_cells hrow
    injection e with e _ _
    subst e; exact h
  have hf := Lib.hid (hfin.out w6 a6 c6 hcS hb6)
  clear hrow hb6 hcS hfin
  go_wp2_with fail
  go_ret2
  exact hf.out
end Go.Proofs.YthpjmjohdliohaaGreat
