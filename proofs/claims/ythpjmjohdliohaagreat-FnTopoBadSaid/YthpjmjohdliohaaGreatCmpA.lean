/- slices.Compare at lists of numbers.
   The definitions (spec): sortInts, hasInt, Nodes.
   The definitions (spec): indexOf, barredTo, Weight, Joined, Nodes, From.
   The definitions (spec): From, Open; two rows of numbers that grow.
   The definitions (spec): Open.
   The definitions (spec): hasInt, reached.
   The walk depth first with a stack: the plain law.
   FnComponentsTold, pure: the classes of what can be come to, told twice.
   The walk depth first: its record in memory, with the list that its visits are noted in.
   NodeStack: Push, Len, Pop.
   topo.ConnectedComponents: rows of nodes; what is done at each visit.
   impl.lists: lists of nodes as lists of numbers, each ascending, in their order. -/
import Derived.Test.YthpjmjohdliohaaGreatIntsA
import Derived.Test.YthpjmjohdliohaaGreatShelf
import Derived.Test.YthpjmjohdliohaaGreatIter
import Derived.Deep.RegionLawGrows
import Derived.Laws.OwnMore
import Derived.Deep.AppendLies
import Derived.Deep.DeepCutAuto
import Derived.Maps.AppendAt
import Derived.Test.YthpjmjohdliohaaGreatBase
import Derived.Deep.RegionLaw
import Derived.Test.YthpjmjohdliohaaGreatOpenA
import Derived.Deep.LoopGhost
import Derived.Test.YthpjmjohdliohaaGreatTabsS
import Derived.BigRegion
import Derived.Test.YthpjmjohdliohaaGreatNumA
namespace Go.Proofs.YthpjmjohdliohaaGreat
open Go.RowKit

/-- Which of two lists stands first. -/
def lexC : List Int → List Int → Int
  | [], [] => 0
  | [], _ :: _ => -1
  | _ :: _, [] => 1
  | a :: s, b :: t => if a < b then -1 else if b < a then 1 else lexC s t

theorem lexC_self (s : List Int) : lexC s s = 0 := by
  induction s with
  | nil => rfl
  | cons a s ih => simp [lexC, ih]

theorem lexC_heads {x y : Int} (s t : List Int) (h : x ≠ y) : lexC (x :: s) (y :: t) = if x < y then -1 else 1 := by
  by_cases h1 : x < y
  · simp [lexC, h1]
  · have h2 : y < x := by omega
    simp [lexC, h1, h2]

theorem lexC_drop {xs ys : List Int} {k : Nat} (h1 : k < xs.length) (h2 : k < ys.length) : lexC (xs.drop k) (ys.drop k) = if xs[k] < ys[k] then -1 else if ys[k] < xs[k] then 1 else lexC (xs.drop (k + 1)) (ys.drop (k + 1)) := by
  rw [List.drop_eq_getElem_cons h1, List.drop_eq_getElem_cons h2]
  rfl

set_option maxHeartbeats 1000000 in
theorem lexCompare_any (aa ab : Option Addr) (na nb ca cb : Nat) (xs ys : List Int) (w : World) (ha : na = xs.length) (hb : nb = ys.length) (hla : na ≤ 1000000) (hlb : nb ≤ 1000000) (hca : Cells w aa (ints xs)) (hcb : Cells w ab (ints ys)) :
    Calls Tryz.prog 46 #[.slice aa na ca, .slice ab nb cb] w fun e w' => e = .returned (.int .i64 (lexC xs ys)) ∧ ∃ q, w' = w.drewN q := by
  have hca' := Lib.hid hca
  have hcb' := Lib.hid hcb
  have hah := Lib.hid ha
  have hbh := Lib.hid hb
  clear hca hcb ha hb
  go_enter Tryz.func46, Tryz.ntmps46
  go_wp2_with fail
  go_loopw [5, 6, 7, 8, 11] (fun _ _ _ _ i wr => ∃ k q : Nat, k ≤ na ∧ k ≤ nb ∧ i = .int .i64 k ∧ wr = w.drewN q ∧ lexC xs ys = lexC (xs.drop k) (ys.drop k)) (fun _ _ _ _ i _ => na - (intOf i).toNat)
  case atStart => exact ⟨0, 0, Nat.zero_le _, Nat.zero_le _, rfl, rfl, rfl⟩
  case round =>
    obtain ⟨k, q, hk, hk2, rfl, rfl, hx0⟩ := hrel
    have hx := Lib.hid hx0
    clear hx0
    by_cases hlt : k < na
    · by_cases hlt2 : k < nb
      · have hxl : k < xs.length := by rw [← hah.out]; exact hlt
        have hyl : k < ys.length := by rw [← hbh.out]; exact hlt2
        obtain ⟨ba, oa, rfl, _, hra⟩ := hca'.out.at (by rw [ints_length]; omega)
        obtain ⟨bb, ob, rfl, _, hrb⟩ := hcb'.out.at (by rw [ints_length]; omega)
        have c1 : (w.drewN q).cell? ⟨ba, oa + k, none⟩ = some (.int .i64 xs[k]) := hra _ _ (ints_get xs k hxl)
        have c2 : ∀ p, (w.drewN p).cell? ⟨bb, ob + k, none⟩ = some (.int .i64 ys[k]) := fun p => hrb _ _ (ints_get ys k hyl)
        have hstep := Lib.hid (lexC_drop hxl hyl)
        obtain ⟨x, hxe⟩ : ∃ x, x = xs[k] := ⟨_, rfl⟩
        obtain ⟨y, hye⟩ : ∃ y, y = ys[k] := ⟨_, rfl⟩
        rw [← hxe] at c1 hstep
        rw [← hye] at c2 hstep
        have hcmp := Lib.hid (Tryz.cmp_Compare_int x y)
        clear hra hrb hxe hye
        have hd2 : ¬ nb ≤ k := by omega
        go_wp2_with fail
        refine (hcmp.out _).mono ?_
        rintro e w' ⟨rfl, rfl⟩
        by_cases h1 : x < y
        · have hc : Lib.compareInt x y = -1 := by unfold Lib.compareInt; rw [if_pos h1]
          have hfin : Hid (lexC xs ys = -1) := by unfold Hid; rw [hx.out, hstep.out, if_pos h1]
          rw [hc]
          clear hstep hx h1 c1 c2 hcmp hc
          go_wp2_with fail
          go_ret
          exact ⟨by rw [hfin.out]; rfl, q, rfl⟩
        · by_cases h2 : y < x
          · have hc : Lib.compareInt x y = 1 := by unfold Lib.compareInt; rw [if_neg h1, if_pos h2]
            have hfin : Hid (lexC xs ys = 1) := by unfold Hid; rw [hx.out, hstep.out, if_neg h1, if_pos h2]
            rw [hc]
            clear hstep hx h1 h2 c1 c2 hcmp hc
            go_wp2_with fail
            go_ret
            exact ⟨by rw [hfin.out]; rfl, q, rfl⟩
          · have hc : Lib.compareInt x y = 0 := by unfold Lib.compareInt; rw [if_neg h1, if_neg h2]
            have hfin : Hid (lexC xs ys = lexC (xs.drop (k + 1)) (ys.drop (k + 1))) := by unfold Hid; rw [hx.out, hstep.out, if_neg h1, if_neg h2]
            rw [hc]
            clear hstep hx h1 h2 c1 c2 hcmp hc
            go_wp2_with fail
            go_roundw
            case rel => exact ⟨k + 1, q, by omega, by omega, by go_num, rfl, hfin.out⟩
            case measure => simp [intOf]; omega
      · have hkb : nb = k := by omega
        have hxl : k < xs.length := by rw [← hah.out]; exact hlt
        obtain ⟨ba, oa, rfl, _, hra⟩ := hca'.out.at (by rw [ints_length]; omega)
        have c1 : (w.drewN q).cell? ⟨ba, oa + k, none⟩ = some (.int .i64 xs[k]) := hra _ _ (ints_get xs k hxl)
        have hfin : Hid (lexC xs ys = 1) := by
          unfold Hid
          rw [hx.out, List.drop_eq_getElem_cons hxl, (List.drop_of_length_le (by rw [← hbh.out]; omega) : ys.drop k = [])]
          rfl
        obtain ⟨x, hxe⟩ : ∃ x, x = xs[k] := ⟨_, rfl⟩
        rw [← hxe] at c1
        clear hra hxe hx hk2
        subst hkb
        go_wp2_with fail
        go_ret
        exact ⟨by rw [hfin.out]; rfl, q, rfl⟩
    · have hka : na = k := by omega
      have hdx : xs.drop k = [] := List.drop_of_length_le (by rw [← hah.out]; omega)
      by_cases hlt2 : k < nb
      · have hyl : k < ys.length := by rw [← hbh.out]; exact hlt2
        have hfin : Hid (lexC xs ys = -1) := by
          unfold Hid
          rw [hx.out, hdx, List.drop_eq_getElem_cons hyl]
          rfl
        clear hx hdx hk
        subst hka
        go_wp2_with fail
        go_ret
        exact ⟨by rw [hfin.out]; rfl, q, rfl⟩
      · have hfin : Hid (lexC xs ys = 0) := by
          unfold Hid
          rw [hx.out, hdx, (List.drop_of_length_le (by rw [← hbh.out]; omega) : ys.drop k = [])]
          rfl
        clear hx hdx hk
        subst hka
        go_wp2_with fail
        go_ret
        exact ⟨by rw [hfin.out]; rfl, q, rfl⟩
end Go.Proofs.YthpjmjohdliohaaGreat

namespace Go.Proofs.YthpjmjohdliohaaGreat
open Go.RowKit

/-- An append of an empty source: what stood first comes back. -/
theorem step_append_empty {P : Program} {ops : Array Oper} {o : Oper} {a : Act} {w : World} {K : Act → World → Prop} {Q : Exit → Act → World → Prop} {E : Prop}
    (hg : o.guard = none) (s x : Operand) (t : TypeId) (hop : o.op = Op.call { callee := Callee.builtin Builtin.append, args := #[s, x], argTypes := #[t, t] })
    (e : TypeId) (i : TypeInfo) (h1 : P.underlying t = some (.slice e)) (h2 : P.info? e = some i)
    (b : Addr) (n cap : Nat) (hs : a.eval s = .slice (some b) n cap) (hnc : n ≤ cap) (ao : Option Addr) (c : Nat) (hx : a.eval x = .slice ao 0 c)
    (hK : K (a.put o.dst (.slice (some b) n cap)) w) :
    if Region.wanted o (yielded ops a.tmps) = true then Oper.wp P o a w K Q else E := by
  have hw : Region.wanted o (yielded ops a.tmps) = true := by simp [Region.wanted, hg]
  rw [if_pos hw]
  have hrun : (Builtin.append_ #[t, t] o.type #[.slice (some b) n cap, .slice ao 0 c]).run P w = .ok (.slice (some b) n cap) w := by
    cases ao with
    | none => simp [Builtin.append_, run_underlying h1, sizeOf, typeInfo, h2, Builtin.lenOf, Builtin.firstCells, hnc, storeCells]
    | some d => simp [Builtin.append_, run_underlying h1, sizeOf, typeInfo, h2, Builtin.lenOf, Builtin.firstCells, hnc]; rfl
  unfold Oper.wp
  simp [execOp, hop, resolve, invoke, builtin, hs, hx, hrun, Result.andThen]
  exact hK

theorem asc_nil : asc [] = [] := List.eq_nil_of_length_eq_zero (by rw [asc_length]; rfl)

/-- A number laid into a list that ascends. -/
theorem asc_lay {zs : List Int} {x : Int} {k : Nat} (hk : k ≤ zs.length) (h1 : ∀ j (hj : j < (asc zs).length), k ≤ j → x < (asc zs)[j]) (h2 : ∀ (h : 0 < k), (asc zs)[k - 1]'(by rw [asc_length]; omega) ≤ x) :
    (asc zs).take k ++ x :: (asc zs).drop k = asc (zs ++ [x]) := by
  have hal := asc_length zs
  refine asc_unique ?_ ?_
  · refine List.perm_middle.trans ?_
    rw [List.take_append_drop]
    exact ((asc_perm zs).cons x).trans (List.perm_append_comm (l₁ := [x]) (l₂ := zs))
  · have hs := asc_sorted zs
    have hle : ∀ y ∈ (asc zs).take k, y ≤ x := fun y hy => by
      obtain ⟨j, hj, rfl⟩ := List.mem_iff_getElem.1 hy
      rw [List.length_take] at hj
      rw [List.getElem_take]
      have h3 := h2 (by omega)
      rcases Nat.lt_or_ge j (k - 1) with h | h
      · have := List.pairwise_iff_getElem.1 hs j (k - 1) (by omega) (by omega) h
        omega
      · have e : j = k - 1 := by omega
        subst e; exact h3
    have hge : ∀ y ∈ (asc zs).drop k, x < y := fun y hy => by
      obtain ⟨j, hj, rfl⟩ := List.mem_iff_getElem.1 hy
      rw [List.length_drop] at hj
      rw [List.getElem_drop]
      exact h1 (k + j) (by omega) (by omega)
    rw [List.pairwise_append]
    refine ⟨hs.sublist (List.take_sublist _ _), ?_, fun a ha b hb => ?_⟩
    · rw [List.pairwise_cons]
      exact ⟨fun y hy => by have := hge y hy; omega, hs.sublist (List.drop_sublist _ _)⟩
    · have h3 := hle a ha
      rcases List.mem_cons.1 hb with rfl | hb
      · exact h3
      · have := hge b hb; omega

end Go.Proofs.YthpjmjohdliohaaGreat

namespace Go.Proofs.YthpjmjohdliohaaGreat
open Go.RowKit

/-- Whether an edge is among those that are barred. -/
def barB (dir : Bool) (barred : List (Int × Int × Int)) (u v : Int) : Bool := barred.any fun e => decide (hits dir u v e)

def WeightPost (w : World) (g : Gr) (u v : Int) (e : Ending) (w' : World) : Prop := ∃ x : Int, e = .returned (.tuple #[.int .i64 x, .bool (arcB g u v)]) ∧ Below w.heap.size w w'

end Go.Proofs.YthpjmjohdliohaaGreat

namespace Go.Proofs.YthpjmjohdliohaaGreat
open Go.RowKit

/-- The nodes to which edges lead. -/
def sFrom (g : Gr) (u : Int) : List Int := (asc g.nodes).filter fun v => arcB g u v

def FromSPost (w : World) (l : List Int) (e : Ending) (w' : World) : Prop := ∃ (a : Option Addr) (c : Nat), e = .returned (.slice a l.length c) ∧ w'.ownsRow w.heap.size 3 1 (.slice a l.length c) l.length (ints l) ∧ Below w.heap.size w w'

end Go.Proofs.YthpjmjohdliohaaGreat

namespace Go.Proofs.YthpjmjohdliohaaGreat
open Go.RowKit

theorem einfo : (Tryz.prog.info? 41).map (fun i => (i.zero, i.size, i.bytes)) = some (some (.agg #[.int .i64 0, .int .i64 0, .int .i64 0]), 3, 24) := by kernel_rfl
theorem enew (w : World) (x y z : Value) (e : TypeId) : ∀ (j : Nat) u, [x, y, z][j]? = some u → (w.alloc (.cells #[x, y, z] e)).cell? ((⟨w.heap.size, 0, none⟩ : Addr).add j) = some u := by
  intro j u hj
  rw [Addr.add_mid, Nat.zero_add]
  rcases j with _ | _ | _ | j
  · simp at hj; subst hj; unfold World.cell?; rw [heap_alloc_new]; rfl
  · simp at hj; subst hj; unfold World.cell?; rw [heap_alloc_new]; rfl
  · simp at hj; subst hj; unfold World.cell?; rw [heap_alloc_new]; rfl
  · simp at hj
theorem eone (x y z : Int) : ∀ u ∈ [Value.int .i64 x, Value.int .i64 y, Value.int .i64 z], u.oneCell' = true := by
  intro u hu
  simp at hu
  rcases hu with rfl | rfl | rfl <;> rfl

/-- The edges that are not barred. -/
def openEs (g : Gr) (barred : List (Int × Int × Int)) (l : List (Int × Int × Int)) : List (Int × Int × Int) := l.filter fun e => !barB g.dir barred e.1 e.2.1
/-- The graph without the edges that are barred. -/
def openG (g : Gr) (barred : List (Int × Int × Int)) : Gr := ⟨g.dir, g.nodes, openEs g barred g.edges⟩

/-- What Open gives. -/
def OpenSPost (w : World) (g : Gr) (barred : List (Int × Int × Int)) (an : Option Addr) (cn : Nat) (e : Ending) (w' : World) : Prop :=
  ∃ (ae : Option Addr) (ce : Nat), e = .returned (.agg #[.bool g.dir, .slice an g.nodes.length cn, .slice ae (openG g barred).edges.length ce]) ∧ GrAt w' (openG g barred) an cn ae ∧ Below w.heap.size w w'

/-- The graph in the making: block ob. -/
structure OG (w0 w : World) (ob : Nat) (dir : Bool) (vn : Value) (es : List (Int × Int × Int)) (v : Value) : Prop where
  blk : w.heap[ob]? = some (.cells #[.bool dir, vn, v] 25 (0, 0))
  e : w.ownsRow (ob + 1) 41 3 v es.length (edgeCells es)
  below : Below ob w0 w

section
variable {w0 w w1 : World} {ob n c c1 : Nat} {dir : Bool} {vn : Value} {es : List (Int × Int × Int)} {b b1 : Option Addr} {o : Obj}

theorem OG.at2 {v : Value} (h : OG w0 w ob dir vn es v) : w.cell? ⟨ob, 2, none⟩ = some v := by have := h.blk; simp [World.cell?, this]
theorem OG.keep {v : Value} (h : OG w0 w ob dir vn es v) (hb : Below w.heap.size w w1) : OG w0 w1 ob dir vn es v :=
  ⟨(hb.block ob (lt_of_block h.blk)).trans h.blk, owns_same h.e fun j hj => hb.block j (h.e.lt j hj).2, h.below.trans (hb.mono (by have := lt_of_block h.blk; omega))⟩

theorem OG.add {x : Int × Int × Int} (h : OG w0 w ob dir vn es (.slice b n c)) (hn : n = es.length) (hg : (w.alloc o).grownBy w1 (Value.slice b n c).ownBlock)
    (ho : w1.ownsRow (ob + 1) 41 3 (.slice b1 (n + 1) c1) (n + 1) (edgeCells es ++ [.int .i64 x.1, .int .i64 x.2.1, .int .i64 x.2.2])) :
    w1.cell? ⟨ob, 2, none⟩ = some (.slice b n c) ∧ w1.frozen? ⟨ob, 2, none⟩ = false ∧ Hid (OG w0 (w1.setCell ⟨ob, 2, none⟩ (.slice b1 (n + 1) c1)) ob dir vn (es ++ [x]) (.slice b1 (n + 1) c1)) := by
  subst hn
  have hz : (w.alloc o).heap.size = w.heap.size + 1 := by simp
  have hbl := lt_of_block h.blk
  have hk : ∀ j, j < w.heap.size → (Value.slice b es.length c).ownBlock ≠ some j → w1.heap[j]? = w.heap[j]? := fun j hj hn => by
    rw [hg.block j (by omega) (fun e => hn e.symm), Below.heap_alloc _ _ _ hj]
  have hb1 := (hk ob hbl fun e => by have := (h.e.lt ob e).1; omega).trans h.blk
  have hset : ∀ j, j ≠ ob → (w1.setCell ⟨ob, 2, none⟩ (.slice b1 (es.length + 1) c1)).heap[j]? = w1.heap[j]? := fun j hj => Below.heap_setCell _ _ _ _ hj
  refine ⟨by simp [World.cell?, hb1], by simp [World.frozen?, hb1], (heap_set_self hb1 2 _).trans rfl, ?_, ?_⟩
  · have e1 : (es ++ [x]).length = es.length + 1 := by simp
    have e2 : edgeCells (es ++ [x]) = edgeCells es ++ [.int .i64 x.1, .int .i64 x.2.1, .int .i64 x.2.2] := by simp [edgeCells]
    rw [e1, e2]
    exact owns_same ho fun j hj => hset j (by have := (ho.lt j hj).1; omega)
  · have hb : Below ob w0 w1 := (h.below.alloc (by omega) o).grown hg (by simp; omega) (fun j e => by have := (h.e.lt j e).1; omega)
    exact hb.setCell (by show ob ≤ ob; omega) _
end

theorem ebox3 {w : World} {q : Nat} {a b c : Value} {ty : TypeId} (h : w.heap[q]? = some (.cells #[a, b, c] ty (0, 0))) (u v z : Value) :
    w.cell? ⟨q, 0, none⟩ = some a ∧ w.frozen? ⟨q, 0, none⟩ = false ∧ (w.setCell ⟨q, 0, none⟩ u).cell? ⟨q, 1, none⟩ = some b ∧ (w.setCell ⟨q, 0, none⟩ u).frozen? ⟨q, 1, none⟩ = false ∧
    ((w.setCell ⟨q, 0, none⟩ u).setCell ⟨q, 1, none⟩ v).cell? ⟨q, 2, none⟩ = some c ∧ ((w.setCell ⟨q, 0, none⟩ u).setCell ⟨q, 1, none⟩ v).frozen? ⟨q, 2, none⟩ = false ∧
    (((w.setCell ⟨q, 0, none⟩ u).setCell ⟨q, 1, none⟩ v).setCell ⟨q, 2, none⟩ z).cell? ⟨q, 0, none⟩ = some u ∧ (((w.setCell ⟨q, 0, none⟩ u).setCell ⟨q, 1, none⟩ v).setCell ⟨q, 2, none⟩ z).cell? ⟨q, 1, none⟩ = some v ∧
    (((w.setCell ⟨q, 0, none⟩ u).setCell ⟨q, 1, none⟩ v).setCell ⟨q, 2, none⟩ z).cell? ⟨q, 2, none⟩ = some z := by
  have h1 : (w.setCell ⟨q, 0, none⟩ u).heap[q]? = some (.cells #[u, b, c] ty (0, 0)) := (heap_set_self h 0 _).trans rfl
  have h2 : ((w.setCell ⟨q, 0, none⟩ u).setCell ⟨q, 1, none⟩ v).heap[q]? = some (.cells #[u, v, c] ty (0, 0)) := (heap_set_self h1 1 _).trans rfl
  have h3 : (((w.setCell ⟨q, 0, none⟩ u).setCell ⟨q, 1, none⟩ v).setCell ⟨q, 2, none⟩ z).heap[q]? = some (.cells #[u, v, z] ty (0, 0)) := (heap_set_self h2 2 _).trans rfl
  refine ⟨by simp [World.cell?, h], by simp [World.frozen?, h], by simp [World.cell?, h1], by simp [World.frozen?, h1], by simp [World.cell?, h2], by simp [World.frozen?, h2], by simp [World.cell?, h3], by simp [World.cell?, h3], by simp [World.cell?, h3]⟩

end Go.Proofs.YthpjmjohdliohaaGreat

namespace Go.Proofs.YthpjmjohdliohaaGreat
open Go.RowKit

/-- A row that is read, apart from one that grows. -/
def RdOne (w : World) (lb : Nat) (al : Option Addr) (l : List Int) (sa : Value) : Prop :=
  l = [] ∨ (al = some ⟨lb, 0, none⟩ ∧ w.rangeAt lb 0 (ints l) ∧ lb < w.heap.size ∧ sa.ownBlock ≠ some lb)

theorem RdOne.keep {w w1 : World} {lb : Nat} {al : Option Addr} {l : List Int} {sa : Value} (h : RdOne w lb al l sa) (hb : Below w.heap.size w w1) : RdOne w1 lb al l sa := by
  rcases h with h | ⟨h1, h2, h3, h4⟩
  · exact .inl h
  · exact .inr ⟨h1, rangeAt_below h2 hb h3, Nat.lt_of_lt_of_le h3 hb.size, h4⟩

theorem RdOne.grown {w w1 : World} {lb : Nat} {al : Option Addr} {l : List Int} {sa sa' : Value} (h : RdOne w lb al l sa) (hg : w.grownBy w1 sa.ownBlock) (ha : ∀ j, sa'.ownBlock = some j → sa.ownBlock = some j ∨ w.heap.size ≤ j) : RdOne w1 lb al l sa' := by
  rcases h with h | ⟨h1, h2, h3, h4⟩
  · exact .inl h
  · refine .inr ⟨h1, fun j u hj => ?_, Nat.lt_of_lt_of_le h3 hg.size, fun e => ?_⟩
    · rw [World.cell?_of_block (hg.block lb h3 (fun e => h4 e.symm))]; exact h2 j u hj
    · rcases ha lb e with e' | e'
      · exact h4 e'
      · omega

/-- What has been reached, of which the first i were gone from. -/
structure RS (s : Int → List Int) (u : Int) (i : Nat) (F : List Int) : Prop where
  nd : F.Nodup
  start : u ∈ F
  reach : ∀ x ∈ F, Reach s u x
  shut : ∀ j (hj : j < F.length), j < i → ∀ y ∈ s F[j], y ∈ F

theorem RS.new (s : Int → List Int) (u : Int) : RS s u 0 [u] := ⟨by simp, by simp, fun x hx => by rw [List.mem_singleton.1 hx]; exact .refl, fun j _ h => absurd h (Nat.not_lt_zero j)⟩

theorem RS.more {s : Int → List Int} {u : Int} {i : Nat} {F : List Int} (h : RS s u i F) (hi : i ≤ F.length) {t x : Int} (ht : t ∈ F) (hx : x ∈ s t) (hn : x ∉ F) : RS s u i (F ++ [x]) := by
  refine ⟨?_, List.mem_append_left _ h.start, fun y hy => ?_, fun j hj hji y hy => ?_⟩
  · rw [List.nodup_append]
    exact ⟨h.nd, by simp, fun a ha b hb e => hn (by rw [List.mem_singleton.1 hb] at e; exact e ▸ ha)⟩
  · rcases List.mem_append.1 hy with hy | hy
    · exact h.reach y hy
    · rw [List.mem_singleton.1 hy]; exact (h.reach t ht).step hx
  · rw [List.getElem_append_left (by omega)] at hy
    exact List.mem_append_left _ (h.shut j (by omega) hji y hy)

theorem RS.next {s : Int → List Int} {u : Int} {i : Nat} {F : List Int} (h : RS s u i F) (hi : i < F.length) (hs : ∀ y ∈ s F[i], y ∈ F) : RS s u (i + 1) F :=
  ⟨h.nd, h.start, h.reach, fun j hj hji y hy => by
    rcases Nat.lt_or_eq_of_le (Nat.le_of_lt_succ hji) with e | e
    · exact h.shut j hj e y hy
    · subst e; exact hs y hy⟩

theorem RS.all {s : Int → List Int} {u : Int} {F : List Int} (h : RS s u F.length F) {x : Int} (hx : Reach s u x) : x ∈ F := by
  induction hx with
  | refl => exact h.start
  | step _ hy ih =>
    obtain ⟨j, hj, e⟩ := List.mem_iff_getElem.1 ih
    exact h.shut j hj hj _ (by rw [e]; exact hy)

theorem sReach {g : Gr} {u : Int} (hu : u ∈ g.nodes) : ∀ x, Reach (sFrom g) u x → x ∈ asc g.nodes := fun x r => by
  induction r with
  | refl => exact asc_mem.2 hu
  | step _ hy _ => exact (List.mem_filter.1 hy).1

/-- What reached gives. -/
def ReachedPost (w : World) (g : Gr) (u : Int) (e : Ending) (w' : World) : Prop :=
  ∃ (R : List Int) (a : Option Addr) (c : Nat), R.Nodup ∧ (∀ x, x ∈ R ↔ Reach (sFrom g) u x) ∧ R.length ≤ 1000 ∧ e = .returned (.slice a R.length c) ∧ w'.ownsRow w.heap.size 3 1 (.slice a R.length c) R.length (ints (asc R)) ∧ Below w.heap.size w w'

end Go.Proofs.YthpjmjohdliohaaGreat

namespace Go.Proofs.YthpjmjohdliohaaGreat

section
variable (succ : Int → List Int)

/-- The stack in its frames: for each node that was visited (the last one first) what is left of its successors. -/
def FR (V : List Int) : List Int → List Int → Prop
  | [], S => S = []
  | x :: VR, S => ∃ f S', S = f ++ S' ∧ (∀ y ∈ f, y ∈ succ x) ∧ (∀ y ∈ succ x, y ∈ V ∨ y ∈ f) ∧ FR V VR S'

theorem FR.mono {V V' : List Int} (hv : ∀ x ∈ V, x ∈ V') : ∀ {VR S : List Int}, FR succ V VR S → FR succ V' VR S
  | [], _, h => h
  | _ :: _, _, ⟨f, S', e, h1, h2, h3⟩ => ⟨f, S', e, h1, fun y hy => (h2 y hy).imp (hv y) id, h3.mono hv⟩

theorem FR.pop {V : List Int} : ∀ {VR S : List Int} {y : Int}, FR succ V VR (y :: S) →
    ∃ A x B, VR = A ++ x :: B ∧ (∀ a ∈ A, ∀ z ∈ succ a, z ∈ V) ∧ y ∈ succ x ∧ ∀ V', (∀ z ∈ V, z ∈ V') → y ∈ V' → FR succ V' VR S
  | [], _, _, h => by cases h
  | a :: VR, S, y, ⟨f, S', e, h1, h2, h3⟩ => by
    match f, e, h1, h2 with
    | [], e, _, h2 =>
      have e' : S' = y :: S := e.symm
      subst e'
      obtain ⟨A, x, B, hv, hA, hx, hF⟩ := FR.pop h3
      refine ⟨a :: A, x, B, by rw [hv]; rfl, fun b hb => ?_, hx, fun V' hV hy => ⟨[], S, rfl, by simp, fun z hz => ?_, hF V' hV hy⟩⟩
      · rcases List.mem_cons.1 hb with rfl | hb
        · exact fun z hz => (h2 z hz).resolve_right (by simp)
        · exact hA b hb
      · exact .inl (hV z ((h2 z hz).resolve_right (by simp)))
    | z :: f, e, h1, h2 =>
      injection e with e1 e2
      subst e1
      refine ⟨[], a, VR, rfl, by simp, h1 y List.mem_cons_self, fun V' hV hy => ⟨f, S', e2, fun z hz => h1 z (List.mem_cons_of_mem _ hz), fun z hz => ?_, h3.mono succ hV⟩⟩
      rcases h2 z hz with h | h
      · exact .inl (hV z h)
      · rcases List.mem_cons.1 h with rfl | h
        · exact .inl hy
        · exact .inr h

theorem FR.done {V : List Int} : ∀ {VR : List Int}, FR succ V VR [] → ∀ x ∈ VR, ∀ y ∈ succ x, y ∈ V
  | [], _, x, hx => by cases hx
  | a :: VR, ⟨f, S', e, _, h2, h3⟩, x, hx => by
    obtain ⟨rfl, rfl⟩ := List.append_eq_nil_iff.1 e.symm
    rcases List.mem_cons.1 hx with rfl | hx
    · exact fun y hy => (h2 y hy).resolve_right (by simp)
    · exact FR.done h3 x hx

/-- Each node is an end of an edge from the last node ahead of it that had one to a node not yet visited. -/
def DeepL (V : List Int) : Prop :=
  ∀ i (hi : i < V.length), 0 < i → ∃ j, ∃ hj : j < i, V[i] ∈ succ (V[j]'(by omega)) ∧ ∀ k (hk : k < i), j < k → ∀ z ∈ succ (V[k]'(by omega)), z ∈ V.take i

/-- The state of a walk from u: what was visited, and the stack. -/
structure DInv (u : Int) (V S : List Int) : Prop where
  nd : V.Nodup
  head : V = [] → S = [u]
  first : V ≠ [] → V.headD 0 = u
  fr : V ≠ [] → FR succ V V.reverse S
  deep : DeepL succ V
  reach : ∀ x ∈ V, Reach succ u x
  reachS : ∀ x ∈ S, Reach succ u x

theorem DInv.start (u : Int) : DInv succ u [] [u] :=
  ⟨List.nodup_nil, fun _ => rfl, fun h => absurd rfl h, fun h => absurd rfl h, fun i hi => by simp at hi, by simp, fun x hx => by rw [List.mem_singleton.1 hx]; exact .refl⟩

/-- A node that was visited is left out. -/
theorem DInv.skip {u y : Int} {V S : List Int} (h : DInv succ u V (y :: S)) (hy : y ∈ V) : DInv succ u V S := by
  have hne : V ≠ [] := fun e => by rw [e] at hy; cases hy
  obtain ⟨A, x, B, _, _, _, hF⟩ := FR.pop succ (h.fr hne)
  exact ⟨h.nd, fun e => absurd e hne, h.first, fun _ => hF V (fun _ hz => hz) hy, h.deep, h.reach, fun x hx => h.reachS x (List.mem_cons_of_mem _ hx)⟩

/-- A node that was not visited. -/
theorem DInv.visit {u y : Int} {V S : List Int} (h : DInv succ u V (y :: S)) (hy : y ∉ V) : DInv succ u (V ++ [y]) ((succ y).reverse ++ S) := by
  have hr := h.reachS y List.mem_cons_self
  have hsr : ∀ z ∈ (succ y).reverse ++ S, Reach succ u z := fun z hz => by
    rcases List.mem_append.1 hz with hz | hz
    · exact hr.step (List.mem_reverse.1 hz)
    · exact h.reachS z (List.mem_cons_of_mem _ hz)
  have hvr : ∀ x ∈ V ++ [y], Reach succ u x := fun x hx => by
    rcases List.mem_append.1 hx with hx | hx
    · exact h.reach x hx
    · rw [List.mem_singleton.1 hx]; exact hr
  have hnd : (V ++ [y]).Nodup := by
    rw [List.nodup_append]
    exact ⟨h.nd, by simp, fun a ha b hb e => hy (by rw [List.mem_singleton.1 hb] at e; exact e ▸ ha)⟩
  by_cases hne : V = []
  · subst hne
    have hs := h.head rfl
    injection hs with h1 h2
    subst h1; subst h2
    refine ⟨hnd, fun e => by simp at e, fun _ => rfl, fun _ => ?_, fun i hi h0 => by simp at hi; omega, hvr, hsr⟩
    exact ⟨(succ y).reverse, [], rfl, fun z hz => List.mem_reverse.1 hz, fun z hz => .inr (List.mem_reverse.2 hz), rfl⟩
  · obtain ⟨A, x, B, hv, hA, hx, hF⟩ := FR.pop succ (h.fr hne)
    refine ⟨hnd, fun e => by simp at e, fun _ => ?_, fun _ => ?_, ?_, hvr, hsr⟩
    · have := h.first hne
      match V, hne with
      | a :: V, _ => exact this
    · rw [List.reverse_append]
      exact ⟨(succ y).reverse, S, rfl, fun z hz => List.mem_reverse.1 hz, fun z hz => .inr (List.mem_reverse.2 hz), hF _ (fun z hz => List.mem_append_left _ hz) (by simp)⟩
    · intro i hi h0
      rw [List.length_append, List.length_singleton] at hi
      by_cases hil : i < V.length
      · obtain ⟨j, hj, h1, h2⟩ := h.deep i hil h0
        refine ⟨j, hj, ?_, fun k hk hjk z hz => ?_⟩
        · rw [List.getElem_append_left hil, List.getElem_append_left (by omega)]; exact h1
        · rw [List.getElem_append_left (by omega)] at hz
          rw [List.take_append_of_le_length (by omega)]
          exact h2 k hk hjk z hz
      · have hie : i = V.length := by omega
        subst hie
        have hV : V = B.reverse ++ x :: A.reverse := by
          have := congrArg List.reverse hv
          rw [List.reverse_reverse, List.reverse_append, List.reverse_cons, List.append_assoc] at this
          exact this
        have hlen : V.length = B.length + 1 + A.length := by rw [hV]; simp; omega
        refine ⟨B.length, by omega, ?_, fun k hk hjk z hz => ?_⟩
        · rw [List.getElem_append_right (Nat.le_refl _), List.getElem_append_left (by omega)]
          have e : V[B.length]'(by omega) = x := by
            simp only [hV]
            rw [List.getElem_append_right (by simp)]
            simp
          simp only [Nat.sub_self, List.getElem_singleton, e]
          exact hx
        · rw [List.getElem_append_left hk] at hz
          rw [List.take_left']
          · refine hA (V[k]) ?_ z hz
            have e : V[k] ∈ A.reverse := by
              have h2 : V[k]'hk = (B.reverse ++ x :: A.reverse)[k]'(by rw [← hV]; exact hk) := by simp only [← hV]
              rw [h2, List.getElem_append_right (by simp; omega)]
              rw [List.getElem_cons, dif_neg (by simp; omega)]
              exact List.getElem_mem _
            exact List.mem_reverse.1 e
          · rfl

/-- What a walk has found. -/
structure DWalk (u : Int) (V : List Int) : Prop where
  nd : V.Nodup
  ne : V ≠ []
  first : V.headD 0 = u
  deep : DeepL succ V
  reach : ∀ x ∈ V, Reach succ u x
  shut : ∀ x ∈ V, ∀ y ∈ succ x, y ∈ V

theorem DInv.done {u : Int} {V : List Int} (h : DInv succ u V []) : DWalk succ u V := by
  have hne : V ≠ [] := fun e => by have := h.head e; cases this
  exact ⟨h.nd, hne, h.first hne, h.deep, h.reach, fun x hx => FR.done succ (h.fr hne) x (List.mem_reverse.2 hx)⟩

/-- What the walks through all have found so far: lists of nodes, of which the walk is through the first nodes of a list. -/
structure DAll (ids : List Int) (k : Nat) (L : List (List Int)) : Prop where
  nd : L.flatten.Nodup
  walk : ∀ l ∈ L, DWalk succ (l.headD 0) l
  sub : ∀ x ∈ L.flatten, x ∈ ids
  all : ∀ x ∈ ids.take k, x ∈ L.flatten
  heads : (L.map fun l => l.headD 0).Sublist (ids.take k)

theorem DAll.start (ids : List Int) : DAll succ ids 0 [] := ⟨List.nodup_nil, by simp, by simp, by simp, by simp⟩

theorem DAll.shut {ids : List Int} {k : Nat} {L : List (List Int)} (h : DAll succ ids k L) {x y : Int} (hx : x ∈ L.flatten) (hy : y ∈ succ x) : y ∈ L.flatten := by
  obtain ⟨l, hl, hxl⟩ := List.mem_flatten.1 hx
  exact List.mem_flatten.2 ⟨l, hl, (h.walk l hl).shut x hxl y hy⟩

/-- What is not yet visited leads to nothing that was, where edges lead both ways. -/
theorem DAll.apart {ids : List Int} {k : Nat} {L : List (List Int)} (h : DAll succ ids k L) (hsym : ∀ x ∈ ids, ∀ y ∈ succ x, y ∈ ids ∧ x ∈ succ y) {u x : Int} (hu : u ∈ ids) (hn : u ∉ L.flatten) (hr : Reach succ u x) : x ∈ ids ∧ x ∉ L.flatten := by
  induction hr with
  | refl => exact ⟨hu, hn⟩
  | step _ hy ih =>
    have := hsym _ ih.1 _ hy
    exact ⟨this.1, fun hm => ih.2 (h.shut succ hm this.2)⟩

theorem DAll.skip {ids : List Int} {k : Nat} {L : List (List Int)} (h : DAll succ ids k L) (hk : k < ids.length) (hm : ids[k] ∈ L.flatten) : DAll succ ids (k + 1) L :=
  ⟨h.nd, h.walk, h.sub, fun x hx => by
    rw [List.take_succ_eq_append_getElem hk, List.mem_append, List.mem_singleton] at hx
    rcases hx with hx | rfl
    · exact h.all x hx
    · exact hm, h.heads.trans (by rw [List.take_succ_eq_append_getElem hk]; exact List.sublist_append_left _ _)⟩

theorem DAll.more {ids : List Int} {k : Nat} {L : List (List Int)} {V : List Int} (h : DAll succ ids k L) (hsym : ∀ x ∈ ids, ∀ y ∈ succ x, y ∈ ids ∧ x ∈ succ y) (hk : k < ids.length) (hm : ids[k] ∉ L.flatten) (hw : DWalk succ ids[k] V) : DAll succ ids (k + 1) (L ++ [V]) := by
  have hap : ∀ x ∈ V, x ∈ ids ∧ x ∉ L.flatten := fun x hx => h.apart succ hsym (List.getElem_mem hk) hm (hw.reach x hx)
  have hfl : (L ++ [V]).flatten = L.flatten ++ V := by simp
  have hh : ids[k] ∈ V := by
    have h1 := hw.first
    have h2 := hw.ne
    match V, h1, h2 with
    | a :: V, h1, _ => exact h1 ▸ List.mem_cons_self
  refine ⟨?_, fun l hl => ?_, fun x hx => ?_, fun x hx => ?_, ?_⟩
  · rw [hfl, List.nodup_append]
    exact ⟨h.nd, hw.nd, fun a ha b hb e => (hap b hb).2 (e ▸ ha)⟩
  · rcases List.mem_append.1 hl with hl | hl
    · exact h.walk l hl
    · rw [List.mem_singleton.1 hl, hw.first]; exact hw
  · rw [hfl, List.mem_append] at hx
    rcases hx with hx | hx
    · exact h.sub x hx
    · exact (hap x hx).1
  · rw [hfl, List.mem_append]
    rw [List.take_succ_eq_append_getElem hk, List.mem_append, List.mem_singleton] at hx
    rcases hx with hx | rfl
    · exact .inl (h.all x hx)
    · exact .inr hh
  · rw [List.take_succ_eq_append_getElem hk, List.map_append, List.map_singleton, hw.first]
    exact h.heads.append (List.Sublist.refl _)

/-- All walks together visit all nodes. -/
theorem DAll.perm {ids : List Int} {L : List (List Int)} (h : DAll succ ids ids.length L) (hnd : ids.Nodup) : L.flatten.Perm ids := by
  refine (List.perm_ext_iff_of_nodup h.nd hnd).2 fun x => ⟨h.sub x, fun hx => h.all x ?_⟩
  rw [List.take_length]; exact hx
end
end Go.Proofs.YthpjmjohdliohaaGreat

namespace Go.Proofs.YthpjmjohdliohaaGreat

theorem reach_tr {s : Int → List Int} {x y z : Int} (h : Reach s x y) (k : Reach s y z) : Reach s x z := by
  induction k with
  | refl => exact h
  | step _ h' ih => exact .step ih h'

theorem reach_sym {s : Int → List Int} {ids : List Int} (hsym : ∀ x ∈ ids, ∀ y ∈ s x, y ∈ ids ∧ x ∈ s y) {u x : Int} (hu : u ∈ ids) (h : Reach s u x) : x ∈ ids ∧ Reach s x u := by
  induction h with
  | refl => exact ⟨hu, .refl⟩
  | step _ hz ih =>
    obtain ⟨h1, h2⟩ := hsym _ ih.1 _ hz
    exact ⟨h1, reach_tr (.step .refl h2) ih.2⟩

/-- Classes, of which all first k nodes are in one. -/
structure Comps (s : Int → List Int) (ids : List Int) (k : Nat) (C : List (List Int)) : Prop where
  cls : ∀ c ∈ C, ∃ u ∈ ids, ∃ R : List Int, R.Nodup ∧ c = asc R ∧ ∀ x, x ∈ R ↔ Reach s u x
  nd : C.flatten.Nodup
  all : ∀ x ∈ ids.take k, x ∈ C.flatten

theorem Comps.start (s : Int → List Int) (ids : List Int) : Comps s ids 0 [] := ⟨by simp, by simp, by simp⟩

section
variable {s : Int → List Int} {ids : List Int} (hsym : ∀ x ∈ ids, ∀ y ∈ s x, y ∈ ids ∧ x ∈ s y)

theorem Comps.mem {k : Nat} {C : List (List Int)} (h : Comps s ids k C) {c : List Int} (hc : c ∈ C) : ∃ u ∈ ids, c.Nodup ∧ ∀ x, x ∈ c ↔ Reach s u x := by
  obtain ⟨u, hu, R, h1, rfl, h2⟩ := h.cls c hc
  exact ⟨u, hu, (asc_perm R).nodup_iff.2 h1, fun x => asc_mem.trans (h2 x)⟩

include hsym in
theorem Comps.sub {k : Nat} {C : List (List Int)} (h : Comps s ids k C) : ∀ x ∈ C.flatten, x ∈ ids := fun x hx => by
  obtain ⟨c, hc, hxc⟩ := List.mem_flatten.1 hx
  obtain ⟨u, hu, _, h2⟩ := h.mem hc
  exact (reach_sym hsym hu ((h2 x).1 hxc)).1

theorem Comps.skip {k : Nat} {C : List (List Int)} (h : Comps s ids k C) (hk : k < ids.length) (hm : ids[k] ∈ C.flatten) : Comps s ids (k + 1) C :=
  ⟨h.cls, h.nd, fun x hx => by
    rw [List.take_succ_eq_append_getElem hk, List.mem_append, List.mem_singleton] at hx
    rcases hx with hx | rfl
    · exact h.all x hx
    · exact hm⟩

include hsym in
theorem Comps.more {k : Nat} {C : List (List Int)} (h : Comps s ids k C) (hk : k < ids.length) (hm : ids[k] ∉ C.flatten) {R : List Int} (h1 : R.Nodup) (h2 : ∀ x, x ∈ R ↔ Reach s ids[k] x) : Comps s ids (k + 1) (C ++ [asc R]) := by
  have hfl : (C ++ [asc R]).flatten = C.flatten ++ asc R := by simp
  refine ⟨fun c hc => ?_, ?_, fun x hx => ?_⟩
  · rcases List.mem_append.1 hc with hc | hc
    · exact h.cls c hc
    · exact ⟨ids[k], List.getElem_mem hk, R, h1, List.mem_singleton.1 hc, h2⟩
  · rw [hfl, List.nodup_append]
    refine ⟨h.nd, (asc_perm R).nodup_iff.2 h1, fun a ha b hb e => hm ?_⟩
    subst e
    have hr := (h2 a).1 (asc_mem.1 hb)
    obtain ⟨c, hc, hac⟩ := List.mem_flatten.1 ha
    obtain ⟨u, hu, _, h4⟩ := h.mem hc
    exact List.mem_flatten.2 ⟨c, hc, (h4 _).2 (reach_tr ((h4 a).1 hac) (reach_sym hsym (List.getElem_mem hk) hr).2)⟩
  · rw [hfl, List.mem_append]
    rw [List.take_succ_eq_append_getElem hk, List.mem_append, List.mem_singleton] at hx
    rcases hx with hx | rfl
    · exact .inl (h.all x hx)
    · exact .inr (asc_mem.2 ((h2 _).2 .refl))

theorem Comps.ne {k : Nat} {C : List (List Int)} (h : Comps s ids k C) : ∀ c ∈ C, c ≠ [] := fun c hc e => by
  obtain ⟨u, _, _, h2⟩ := h.mem hc
  have := (h2 u).2 .refl
  rw [e] at this
  cases this

include hsym in
/-- Both tell the same classes. -/
theorem Comps.subset {C M : List (List Int)} (h : Comps s ids ids.length C) (h' : Comps s ids ids.length M) {c : List Int} (hc : c ∈ C) : c ∈ M := by
  obtain ⟨u, hu, R, h1, rfl, h2⟩ := h.cls c hc
  obtain ⟨m, hm, hum⟩ := List.mem_flatten.1 (h'.all u (by rw [List.take_length]; exact hu))
  obtain ⟨v, hv, Q, h3, rfl, h4⟩ := h'.cls m hm
  have hvu := (h4 u).1 (asc_mem.1 hum)
  have huv := (reach_sym hsym hv hvu).2
  have : asc R = asc Q := asc_unique ((asc_perm R).trans ((List.perm_ext_iff_of_nodup h1 h3).2 fun x => by
    rw [h2, h4]
    exact ⟨fun hx => reach_tr hvu hx, fun hx => reach_tr huv hx⟩)) (asc_sorted R)
  rw [this]
  exact hm
end

def headsC (C : List (List Int)) : List Int := C.map fun c => c.headD 0
/-- By its least number: the list of numbers, and what stands for it. -/
def byHead {α : Type} (C : List (List Int)) (vs : List α) (d : α) (x : Int) : α := vs.getD ((headsC C).idxOf x) d

theorem headsC_nodup {l : List (List Int)} (hnd : l.flatten.Nodup) (hne : ∀ c ∈ l, c ≠ []) : (headsC l).Nodup := by
  induction l with
  | nil => simp [headsC]
  | cons c l ih =>
    rw [List.flatten_cons, List.nodup_append] at hnd
    unfold headsC
    rw [List.map_cons, List.nodup_cons]
    refine ⟨fun hm => ?_, ih hnd.2.1 fun d hd => hne d (List.mem_cons_of_mem _ hd)⟩
    obtain ⟨d, hd, e⟩ := List.mem_map.1 hm
    have hc := hne c List.mem_cons_self
    have hd' := hne d (List.mem_cons_of_mem _ hd)
    match c, hc, d, hd', hd, e with
    | a :: c, _, b :: d, _, hd, e =>
      have e' : b = a := e
      subst e'
      exact hnd.2.2 b List.mem_cons_self b (List.mem_flatten.2 ⟨_, hd, List.mem_cons_self⟩) rfl

theorem byHead_at {α : Type} {C : List (List Int)} (hnd : (headsC C).Nodup) {vs : List α} {d : α} (hl : vs.length = C.length) {i : Nat} (hi : i < C.length) : byHead C vs d (C[i].headD 0) = vs[i]'(by omega) := by
  have hi' : i < (headsC C).length := by unfold headsC; rw [List.length_map]; exact hi
  have e : C[i].headD 0 = (headsC C)[i] := (List.getElem_map (l := C) (fun c : List Int => c.headD 0) (h := by rw [List.length_map]; exact hi)).symm
  have e2 : (headsC C).idxOf (headsC C)[i] = i := by
    have hlt := List.idxOf_lt_length_of_mem (List.getElem_mem hi')
    exact (List.getElem_inj hnd).1 (List.getElem_idxOf hlt)
  unfold byHead
  rw [e, e2]
  have : i < vs.length := by omega
  simp [this]

theorem byHead_map {α : Type} {C : List (List Int)} (hnd : (headsC C).Nodup) {vs : List α} {d : α} (hl : vs.length = C.length) : (headsC C).map (byHead C vs d) = vs := by
  refine List.ext_getElem (by unfold headsC; simp [hl]) fun i h1 h2 => ?_
  have hi : i < C.length := by omega
  have hi' : i < (headsC C).length := by unfold headsC; rw [List.length_map]; exact hi
  rw [List.getElem_map]
  have e : (headsC C)[i] = C[i].headD 0 := List.getElem_map (l := C) (fun c : List Int => c.headD 0) (h := by rw [List.length_map]; exact hi)
  rw [e]
  exact byHead_at hnd hl hi

theorem byHead_mem {C : List (List Int)} (hnd : (headsC C).Nodup) {c : List Int} (hc : c ∈ C) : byHead C C [] (c.headD 0) = c := by
  obtain ⟨i, hi, rfl⟩ := List.mem_iff_getElem.1 hc
  exact byHead_at hnd rfl hi

/-- The lists in the order of their least numbers. -/
def ordC (C : List (List Int)) : List (List Int) := (asc (headsC C)).map (byHead C C [])

theorem ordC_eq {s : Int → List Int} {ids : List Int} (hsym : ∀ x ∈ ids, ∀ y ∈ s x, y ∈ ids ∧ x ∈ s y) {C M : List (List Int)} (h : Comps s ids ids.length C) (h' : Comps s ids ids.length M) : ordC C = ordC M := by
  have n1 := headsC_nodup h.nd h.ne
  have n2 := headsC_nodup h'.nd h'.ne
  have hp : (headsC C).Perm (headsC M) := (List.perm_ext_iff_of_nodup n1 n2).2 fun x => by
    unfold headsC
    rw [List.mem_map, List.mem_map]
    exact ⟨fun ⟨c, hc, e⟩ => ⟨c, h.subset hsym h' hc, e⟩, fun ⟨c, hc, e⟩ => ⟨c, h'.subset hsym h hc, e⟩⟩
  have ha : asc (headsC C) = asc (headsC M) := asc_unique ((asc_perm _).trans hp) (asc_sorted _)
  unfold ordC
  rw [← ha]
  refine List.map_congr_left fun x hx => ?_
  obtain ⟨c, hc, rfl⟩ := List.mem_map.1 (asc_mem.1 hx)
  rw [byHead_mem n1 hc, byHead_mem n2 (h.subset hsym h' hc)]

/-- Where two ways to tell the next nodes agree, so do the walks through all and the classes. -/
theorem comps_of_all {s t : Int → List Int} {ids : List Int} (_ : ids.Nodup) (hst : ∀ x ∈ ids, ∀ y, y ∈ t x ↔ y ∈ s x) (hsym : ∀ x ∈ ids, ∀ y ∈ t x, y ∈ ids ∧ x ∈ t y) {L : List (List Int)} (h : DAll t ids ids.length L) : Comps s ids ids.length (L.map asc) := by
  have hts : ∀ u ∈ ids, ∀ x, Reach t u x → x ∈ ids ∧ Reach s u x := fun u hu x r => by
    induction r with
    | refl => exact ⟨hu, .refl⟩
    | step _ hy ih => exact ⟨(hsym _ ih.1 _ hy).1, ih.2.step ((hst _ ih.1 _).1 hy)⟩
  have hstr : ∀ u ∈ ids, ∀ x, Reach s u x → x ∈ ids ∧ Reach t u x := fun u hu x r => by
    induction r with
    | refl => exact ⟨hu, .refl⟩
    | step _ hy ih =>
      have h1 := (hst _ ih.1 _).2 hy
      exact ⟨(hsym _ ih.1 _ h1).1, ih.2.step h1⟩
  have hfl : (L.map asc).flatten.Perm L.flatten := by
    clear h
    induction L with
    | nil => simp
    | cons a L ih => rw [List.map_cons, List.flatten_cons, List.flatten_cons]; exact (asc_perm a).append ih
  refine ⟨fun c hc => ?_, hfl.nodup_iff.2 h.nd, fun x hx => hfl.mem_iff.2 (h.all x hx)⟩
  obtain ⟨l, hl, rfl⟩ := List.mem_map.1 hc
  have hw := h.walk l hl
  have hin : l.headD 0 ∈ l := by
    have := hw.ne
    match l, this with
    | a :: l, _ => exact List.mem_cons_self
  have hu : l.headD 0 ∈ ids := h.sub _ (List.mem_flatten.2 ⟨l, hl, hin⟩)
  refine ⟨l.headD 0, hu, l, hw.nd, rfl, fun x => ⟨fun hx => (hts _ hu x (hw.reach x hx)).2, fun hx => ?_⟩⟩
  have hr := (hstr _ hu x hx).2
  clear hx
  induction hr with
  | refl => exact hin
  | step _ hy ih => exact hw.shut _ ih _ hy

/-- Of a graph without directions: what is told as the next nodes by the definition, and by the program. -/
theorem from_succ {g : Gr} (hok : okGraph g = true) : ∀ x ∈ asc g.nodes, ∀ y, y ∈ gSucc g x ↔ y ∈ sFrom g x := fun x hx y => by
  rw [gSucc_mem hok (asc_mem.1 hx)]
  unfold sFrom
  rw [List.mem_filter, asc_mem]

theorem from_sym {g : Gr} (hd : g.dir = false) : ∀ x ∈ asc g.nodes, ∀ y ∈ sFrom g x, y ∈ asc g.nodes ∧ x ∈ sFrom g y := fun x hx y hy => by
  unfold sFrom at hy ⊢
  rw [List.mem_filter] at hy ⊢
  refine ⟨hy.1, hx, ?_⟩
  have h2 := hy.2
  unfold arcB at h2 ⊢
  rw [List.any_eq_true] at h2 ⊢
  obtain ⟨e, he, hh⟩ := h2
  refine ⟨e, he, decide_eq_true ?_⟩
  rcases of_decide_eq_true hh with ⟨e1, e2⟩ | ⟨e0, e1, e2⟩
  · exact .inr ⟨hd, e1, e2⟩
  · exact .inl ⟨e1, e2⟩

theorem succ_sym {g : Gr} (hok : okGraph g = true) (hd : g.dir = false) : ∀ x ∈ asc g.nodes, ∀ y ∈ gSucc g x, y ∈ asc g.nodes ∧ x ∈ gSucc g y := fun x hx y hy => by
  obtain ⟨h1, h2⟩ := from_sym hd x hx y ((from_succ hok x hx y).1 hy)
  exact ⟨h1, (from_succ hok y h1 x).2 h2⟩
end Go.Proofs.YthpjmjohdliohaaGreat

namespace Go.Proofs.YthpjmjohdliohaaGreat
open Go.RowKit

/-- The record of a walk depth first. -/
def DBlk (w : World) (tb : Nat) (fv ft s m : Value) : Prop := w.heap[tb]? = some (.cells #[fv, ft, s, m] 105 (0, 0))
section
variable {w : World} {tb : Nat} {fv ft s m : Value} (h : DBlk w tb fv ft s m)
include h
theorem DBlk.lt : tb < w.heap.size := lt_of_block h
theorem DBlk.c0 : w.cell? ⟨tb, 0, none⟩ = some fv := by unfold DBlk at h; simp [World.cell?, h]
theorem DBlk.c1 : w.cell? ⟨tb, 1, none⟩ = some ft := by unfold DBlk at h; simp [World.cell?, h]
theorem DBlk.c2 : w.cell? ⟨tb, 2, none⟩ = some s := by unfold DBlk at h; simp [World.cell?, h]
theorem DBlk.c3 : w.cell? ⟨tb, 3, none⟩ = some m := by unfold DBlk at h; simp [World.cell?, h]
theorem DBlk.free (j : Nat) : w.frozen? ⟨tb, j, none⟩ = false := by unfold DBlk at h; simp [World.frozen?, h]
theorem DBlk.set2 (u : Value) : DBlk (w.setCell ⟨tb, 2, none⟩ u) tb fv ft u m := (heap_set_self h 2 _).trans rfl
theorem DBlk.set3 (u : Value) : DBlk (w.setCell ⟨tb, 3, none⟩ u) tb fv ft s u := (heap_set_self h 3 _).trans rfl
end

/-- A variable in a block of its own. -/
def VBlk (w : World) (b : Nat) (t : TypeId) (v : Value) : Prop := w.heap[b]? = some (.cells #[v] t (0, 0))
section
variable {w : World} {b : Nat} {t : TypeId} {v : Value} (h : VBlk w b t v)
include h
theorem VBlk.lt : b < w.heap.size := lt_of_block h
theorem VBlk.c0 : w.cell? ⟨b, 0, none⟩ = some v := by unfold VBlk at h; simp [World.cell?, h]
theorem VBlk.free (j : Nat) : w.frozen? ⟨b, j, none⟩ = false := by unfold VBlk at h; simp [World.frozen?, h]
theorem VBlk.set (u : Value) : VBlk (w.setCell ⟨b, 0, none⟩ u) b t u := (heap_set_self h 0 _).trans rfl
end

/-- The blocks of a walk. -/
def dfoot (tb mb pb : Nat) (sa pa : Value) : List Nat := [tb, mb, pb] ++ sa.ownBlock.toList ++ pa.ownBlock.toList
theorem mem_dfoot {j tb mb pb : Nat} {sa pa : Value} : j ∈ dfoot tb mb pb sa pa ↔ j = tb ∨ j = mb ∨ j = pb ∨ sa.ownBlock = some j ∨ pa.ownBlock = some j := by
  unfold dfoot
  cases h1 : sa.ownBlock <;> cases h2 : pa.ownBlock <;> simp [eq_comm]

structure DfsAt (w : World) (ids : List Int) (A B tb mb pb : Nat) (fv ft : Value) (tp te : TypeId) (rep : Int → Value) (O S P : List Int) (sa pa : Value) : Prop where
  blk : DBlk w tb fv ft sa (.map (some mb))
  stk : w.ownsRow B 85 1 sa S.length (nodes S.reverse)
  set : ISetAt w ids mb O
  pblk : VBlk w pb tp pa
  prow : w.ownsRow B te 1 pa P.length (P.map rep)
  lts : tb < B ∧ mb < B ∧ pb < B ∧ B ≤ w.heap.size
  low : A ≤ tb ∧ A ≤ mb ∧ A ≤ pb
  ne : tb ≠ mb ∧ tb ≠ pb ∧ mb ≠ pb
  ap : ∀ j, sa.ownBlock = some j → pa.ownBlock ≠ some j

section
variable {w w' : World} {ids : List Int} {A B tb mb pb : Nat} {fv ft : Value} {tp te : TypeId} {rep : Int → Value} {O S P : List Int} {sa pa : Value}

theorem DfsAt.footlow (h : DfsAt w ids A B tb mb pb fv ft tp te rep O S P sa pa) : ∀ k ∈ dfoot tb mb pb sa pa, A ≤ k := fun k hk => by
  have l := h.lts
  have o := h.low
  rcases mem_dfoot.1 hk with e | e | e | e | e
  · omega
  · omega
  · omega
  · have := (h.stk.lt k e).1; omega
  · have := (h.prow.lt k e).1; omega

theorem DfsAt.footlt (h : DfsAt w ids A B tb mb pb fv ft tp te rep O S P sa pa) : ∀ k ∈ dfoot tb mb pb sa pa, k < w.heap.size := fun k hk => by
  have l := h.lts
  rcases mem_dfoot.1 hk with e | e | e | e | e
  · omega
  · omega
  · omega
  · exact (h.stk.lt k e).2
  · exact (h.prow.lt k e).2

theorem DfsAt.same (h : DfsAt w ids A B tb mb pb fv ft tp te rep O S P sa pa) (hf : ∀ j ∈ dfoot tb mb pb sa pa, w'.heap[j]? = w.heap[j]?) (hs : w.heap.size ≤ w'.heap.size) : DfsAt w' ids A B tb mb pb fv ft tp te rep O S P sa pa :=
  ⟨(hf tb (mem_dfoot.2 (by simp))).trans h.blk, owns_same h.stk fun j hj => hf j (mem_dfoot.2 (by simp [hj])), h.set.same (hf mb (mem_dfoot.2 (by simp))), (hf pb (mem_dfoot.2 (by simp))).trans h.pblk,
    owns_same h.prow fun j hj => hf j (mem_dfoot.2 (by simp [hj])), ⟨h.lts.1, h.lts.2.1, h.lts.2.2.1, Nat.le_trans h.lts.2.2.2 hs⟩, h.low, h.ne, h.ap⟩

theorem DfsAt.below (h : DfsAt w ids A B tb mb pb fv ft tp te rep O S P sa pa) (hb : Below w.heap.size w w') : DfsAt w' ids A B tb mb pb fv ft tp te rep O S P sa pa :=
  h.same (fun j hj => hb.block j (h.footlt j hj)) hb.size

/-- The set of what was visited has grown. -/
theorem DfsAt.put (h : DfsAt w ids A B tb mb pb fv ft tp te rep O S P sa pa) {O' : List Int} (hg : w.grownBy w' (some mb)) (hi : ISetAt w' ids mb O') : DfsAt w' ids A B tb mb pb fv ft tp te rep O' S P sa pa := by
  have l := h.lts
  have hk : ∀ j, j < w.heap.size → j ≠ mb → w'.heap[j]? = w.heap[j]? := fun j hj hn => hg.block j hj (fun e => by injection e with e; exact hn e)
  refine ⟨(hk tb (by omega) h.ne.1).trans h.blk, owns_same h.stk fun j hj => ?_, hi, (hk pb (by omega) (fun e => h.ne.2.2 e.symm)).trans h.pblk, owns_same h.prow fun j hj => ?_, ⟨l.1, l.2.1, l.2.2.1, Nat.le_trans l.2.2.2 hg.size⟩, h.low, h.ne, h.ap⟩
  · have := h.stk.lt j hj; exact hk j this.2 (by omega)
  · have := h.prow.lt j hj; exact hk j this.2 (by omega)

/-- Another stack, behind what may have written its row. -/
theorem DfsAt.setS (h : DfsAt w ids A B tb mb pb fv ft tp te rep O S P sa pa) {w1 : World} {sa' : Value} {T : List Int} (hk : ∀ j, j < w.heap.size → sa.ownBlock ≠ some j → w1.heap[j]? = w.heap[j]?) (hz : w.heap.size ≤ w1.heap.size)
    (ho : w1.ownsRow B 85 1 sa' T.length (nodes T.reverse)) (hv : ∀ j, sa'.ownBlock = some j → pa.ownBlock ≠ some j) :
    DBlk w1 tb fv ft sa (.map (some mb)) ∧ DfsAt (w1.setCell ⟨tb, 2, none⟩ sa') ids A B tb mb pb fv ft tp te rep O T P sa' pa := by
  have l := h.lts
  have n := h.ne
  have hs := h.stk.lt
  have hlow : ∀ j, j < B → sa.ownBlock ≠ some j := fun j hj e => by have := (hs j e).1; omega
  have b1 : DBlk w1 tb fv ft sa (.map (some mb)) := (hk tb (by omega) (hlow tb (by omega))).trans h.blk
  have hh : ∀ j, j ≠ tb → (w1.setCell ⟨tb, 2, none⟩ sa').heap[j]? = w1.heap[j]? := fun j hj => Below.heap_setCell _ _ _ _ hj
  refine ⟨b1, b1.set2 _, owns_same ho (fun j hj => by have := ho.lt j hj; exact hh j (by omega)), h.set.same ((hh mb (by omega)).trans (hk mb (by omega) (hlow mb (by omega)))), (hh pb (by omega)).trans ((hk pb (by omega) (hlow pb (by omega))).trans h.pblk),
    owns_same h.prow (fun j hj => by have := h.prow.lt j hj; exact (hh j (by omega)).trans (hk j (by omega) (fun e => h.ap j e hj))), ⟨l.1, l.2.1, l.2.2.1, by simp [World.setCell]; omega⟩, h.low, h.ne, hv⟩

/-- A node pushed: behind the append, and the store of its result. -/
theorem DfsAt.push {a : Option Addr} {k c : Nat} (h : DfsAt w ids A B tb mb pb fv ft tp te rep O S P (.slice a k c) pa) (x : Int) {o : Obj} {w1 : World} {b1 : Option Addr} {c1 : Nat} (hk : k = S.length) (hg : (w.alloc o).grownBy w1 (Value.slice a k c).ownBlock)
    (ho : w1.ownsRow B 85 1 (.slice b1 (k + 1) c1) (k + 1) (nodes S.reverse ++ [.iface 127 (.int .i64 x)])) (hat : b1 = a ∨ b1 = some ⟨(w.alloc o).heap.size, 0, none⟩) :
    DBlk w1 tb fv ft (.slice a k c) (.map (some mb)) ∧ Hid (DfsAt (w1.setCell ⟨tb, 2, none⟩ (.slice b1 (k + 1) c1)) ids A B tb mb pb fv ft tp te rep O (x :: S) P (.slice b1 (k + 1) c1) pa ∧
      Moves (dfoot tb mb pb (.slice a k c) pa) w (dfoot tb mb pb (.slice b1 (k + 1) c1) pa) (w1.setCell ⟨tb, 2, none⟩ (.slice b1 (k + 1) c1))) := by
  subst hk
  have l := h.lts
  have hz : (w.alloc o).heap.size = w.heap.size + 1 := by simp
  have hkk : ∀ j, j < w.heap.size → (Value.slice a S.length c).ownBlock ≠ some j → w1.heap[j]? = w.heap[j]? := fun j hj hn => by
    rw [hg.block j (by omega) (fun e => hn e.symm), Below.heap_alloc _ _ _ hj]
  have hsz : w.heap.size ≤ w1.heap.size := by have := hg.size; omega
  have hnew : ∀ j, (Value.slice b1 (S.length + 1) c1).ownBlock = some j → (Value.slice a S.length c).ownBlock = some j ∨ w.heap.size ≤ j := by
    intro j hj
    rcases hat with rfl | rfl
    · left; cases b1 <;> exact hj
    · right
      simp only [Value.ownBlock] at hj
      injection hj with hj
      omega
  obtain ⟨q1, q2⟩ := h.setS hkk hsz (T := x :: S) (by
    rw [List.reverse_cons]
    unfold nodes at ho ⊢
    rw [List.map_append]
    exact ho) (fun j hj => by
      rcases hnew j hj with e | e
      · exact h.ap j e
      · exact fun e' => by have := (h.prow.lt j e').2; omega)
  refine ⟨q1, q2, hg.os, hg.tape, hg.output, by simp [World.setCell]; omega, fun j hj hn => ?_, fun j hj => ?_⟩
  · have hjt : j ≠ tb := fun e => hn (mem_dfoot.2 (.inl e))
    rw [Below.heap_setCell _ _ _ _ hjt]
    exact hkk j hj (fun e => hn (mem_dfoot.2 (by simp [e])))
  · rcases mem_dfoot.1 hj with e | e | e | e | e
    · exact .inl (mem_dfoot.2 (by simp [e]))
    · exact .inl (mem_dfoot.2 (by simp [e]))
    · exact .inl (mem_dfoot.2 (by simp [e]))
    · rcases hnew j e with e' | e'
      · exact .inl (mem_dfoot.2 (by simp [e']))
      · exact .inr e'
    · exact .inl (mem_dfoot.2 (by simp [e]))

/-- The top of the stack taken off. -/
theorem DfsAt.pop {g k c : Nat} {y : Int} {T : List Int} (h : DfsAt w ids A B tb mb pb fv ft tp te rep O S P (.slice (some ⟨g, 0, none⟩) k c) pa) (hs : S = y :: T) (hk : k = S.length) :
    w.cell? ⟨g, k - 1, none⟩ = some (.iface 127 (.int .i64 y)) ∧ k ≤ c ∧ DfsAt (w.setCell ⟨tb, 2, none⟩ (.slice (some ⟨g, 0, none⟩) (k - 1) c)) ids A B tb mb pb fv ft tp te rep O T P (.slice (some ⟨g, 0, none⟩) (k - 1) c) pa ∧
      Moves (dfoot tb mb pb (.slice (some ⟨g, 0, none⟩) k c) pa) w (dfoot tb mb pb (.slice (some ⟨g, 0, none⟩) (k - 1) c) pa) (w.setCell ⟨tb, 2, none⟩ (.slice (some ⟨g, 0, none⟩) (k - 1) c)) := by
  subst hk
  have hos := h.stk
  have hl : S.length = T.length + 1 := by rw [hs]; simp
  have hrev : nodes S.reverse = nodes T.reverse ++ [.iface 127 (.int .i64 y)] := by
    rw [hs, List.reverse_cons]; unfold nodes; rw [List.map_append]; rfl
  have hcap : S.length ≤ c := by
    obtain ⟨_, _, _, _, h4⟩ := owns_at hos (by omega)
    exact h4
  have hcut := owns_cut hos (i := S.length - 1) (by omega)
  rw [hrev, Nat.mul_one, List.take_left' (by rw [nodes_length, List.length_reverse]; omega)] at hcut
  refine ⟨owns_cell hos ?_, hcap, (h.setS (w1 := w) (sa' := .slice (some ⟨g, 0, none⟩) (S.length - 1) c) (T := T) (fun _ _ _ => rfl) (Nat.le_refl _) ?_ (fun j hj => h.ap j hj)).2, (Moves.of_setCell w _ (mem_dfoot.2 (.inl rfl))).sub fun k hk => .inl ?_⟩
  · rw [hrev, List.getElem?_append_right (by rw [nodes_length, List.length_reverse]; omega), nodes_length, List.length_reverse]
    have : S.length - 1 - T.length = 0 := by omega
    rw [this]; rfl
  · rw [show T.length = S.length - 1 by omega]; exact hcut
  · exact mem_dfoot.2 (mem_dfoot.1 hk)

/-- A visit noted: behind the append, and the store of its result. -/
theorem DfsAt.note {a : Option Addr} {k c : Nat} (h : DfsAt w ids A B tb mb pb fv ft tp te rep O S P sa (.slice a k c)) (x : Int) {o : Obj} {w1 : World} {b1 : Option Addr} {c1 : Nat} (hk : k = P.length) (hg : (w.alloc o).grownBy w1 (Value.slice a k c).ownBlock)
    (ho : w1.ownsRow B te 1 (.slice b1 (k + 1) c1) (k + 1) (P.map rep ++ [rep x])) (hat : ∀ j, (Value.slice b1 (k + 1) c1).ownBlock = some j → (Value.slice a k c).ownBlock = some j ∨ w.heap.size ≤ j) :
    VBlk w1 pb tp (.slice a k c) ∧ Hid (DfsAt (w1.setCell ⟨pb, 0, none⟩ (.slice b1 (k + 1) c1)) ids A B tb mb pb fv ft tp te rep O S (P ++ [x]) sa (.slice b1 (k + 1) c1) ∧
      Moves (dfoot tb mb pb sa (.slice a k c)) w (dfoot tb mb pb sa (.slice b1 (k + 1) c1)) (w1.setCell ⟨pb, 0, none⟩ (.slice b1 (k + 1) c1))) := by
  subst hk
  have l := h.lts
  have n := h.ne
  have hp := h.prow.lt
  have hz : (w.alloc o).heap.size = w.heap.size + 1 := by simp
  have hkk : ∀ j, j < w.heap.size → (Value.slice a P.length c).ownBlock ≠ some j → w1.heap[j]? = w.heap[j]? := fun j hj hn => by
    rw [hg.block j (by omega) (fun e => hn e.symm), Below.heap_alloc _ _ _ hj]
  have hsz : w.heap.size ≤ w1.heap.size := by have := hg.size; omega
  have hlow : ∀ j, j < B → (Value.slice a P.length c).ownBlock ≠ some j := fun j hj e => by have := (hp j e).1; omega
  have b1' : VBlk w1 pb tp (.slice a P.length c) := (hkk pb (by omega) (hlow pb (by omega))).trans h.pblk
  have hh : ∀ j, j ≠ pb → (w1.setCell ⟨pb, 0, none⟩ (.slice b1 (P.length + 1) c1)).heap[j]? = w1.heap[j]? := fun j hj => Below.heap_setCell _ _ _ _ hj
  refine ⟨b1', ⟨?_, ?_, ?_, b1'.set _, ?_, ⟨l.1, l.2.1, l.2.2.1, by simp [World.setCell]; omega⟩, h.low, h.ne, fun j hj e => ?_⟩, hg.os, hg.tape, hg.output, by simp [World.setCell]; omega, fun j hj hn => ?_, fun j hj => ?_⟩
  · exact (hh tb (by omega)).trans ((hkk tb (by omega) (hlow tb (by omega))).trans h.blk)
  · exact owns_same h.stk fun j hj => by have := h.stk.lt j hj; exact (hh j (by omega)).trans (hkk j this.2 (h.ap j hj))
  · exact h.set.same ((hh mb (by omega)).trans (hkk mb (by omega) (hlow mb (by omega))))
  · have e1 : (P ++ [x]).length = P.length + 1 := by simp
    have e2 : (P ++ [x]).map rep = P.map rep ++ [rep x] := by simp
    rw [e1, e2]
    exact owns_same ho fun j hj => by have := ho.lt j hj; exact hh j (by omega)
  · rcases hat j e with e' | e'
    · exact h.ap j hj e'
    · have := (h.stk.lt j hj).2; omega
  · have hjt : j ≠ pb := fun e => hn (mem_dfoot.2 (.inr (.inr (.inl e))))
    rw [hh j hjt]
    exact hkk j hj (fun e => hn (mem_dfoot.2 (by simp [e])))
  · rcases mem_dfoot.1 hj with e | e | e | e | e
    · exact .inl (mem_dfoot.2 (by simp [e]))
    · exact .inl (mem_dfoot.2 (by simp [e]))
    · exact .inl (mem_dfoot.2 (by simp [e]))
    · exact .inl (mem_dfoot.2 (by simp [e]))
    · rcases hat j e with e' | e'
      · exact .inl (mem_dfoot.2 (by simp [e']))
      · exact .inr e'
end

/-- A plain graph in the blocks from lo to hi. -/
def FarIn (lo hi : Nat) (w : World) (gb : Nat) (ids : List Int) (outs ins : List (List Arc)) : Prop :=
  hi ≤ w.heap.size ∧ ∀ W : World, hi ≤ W.heap.size → (∀ j, lo ≤ j → j < hi → W.heap[j]? = w.heap[j]?) → PlainAt W gb ids outs ins
section
variable {lo hi : Nat} {w w' : World} {gb : Nat} {ids : List Int} {outs ins : List (List Arc)}
theorem FarAt.within (h : FarAt lo w gb ids outs ins) : FarIn lo w.heap.size w gb ids outs ins := ⟨Nat.le_refl _, h⟩
theorem FarIn.plain (h : FarIn lo hi w gb ids outs ins) : PlainAt w gb ids outs ins := h.2 w h.1 fun _ _ _ => rfl
theorem FarIn.keep (h : FarIn lo hi w gb ids outs ins) (hs : w.heap.size ≤ w'.heap.size) (hk : ∀ j, lo ≤ j → j < hi → w'.heap[j]? = w.heap[j]?) : FarIn lo hi w' gb ids outs ins :=
  ⟨Nat.le_trans h.1 hs, fun W h1 h2 => h.2 W h1 fun j hj hl => (h2 j hj hl).trans (hk j hj hl)⟩
theorem FarIn.below (h : FarIn lo hi w gb ids outs ins) (hb : Below w.heap.size w w') : FarIn lo hi w' gb ids outs ins := h.keep hb.size fun j _ hj => hb.block j (Nat.lt_of_lt_of_le hj h.1)
theorem FarIn.moves (h : FarIn lo hi w gb ids outs ins) {S S' : List Nat} (m : Moves S w S' w') (hS : ∀ k ∈ S, k < lo ∨ hi ≤ k) : FarIn lo hi w' gb ids outs ins :=
  h.keep m.size fun j h1 h2 => m.block j (Nat.lt_of_lt_of_le h2 h.1) fun hj => by have := hS j hj; omega
end
end Go.Proofs.YthpjmjohdliohaaGreat

namespace Go.Proofs.YthpjmjohdliohaaGreat
open Go.RowKit

section
variable {ids : List Int} {A B tb mb pb : Nat} {fv ft : Value} {tp te : TypeId} {rep : Int → Value} {O S P : List Int} {pa : Value}

set_option maxHeartbeats 1000000 in
theorem spush_any (a : Option Addr) (n c : Nat) (x : Int) (w : World) (hn : n = S.length) (hS : n ≤ 2097000) (h : DfsAt w ids A B tb mb pb fv ft tp te rep O S P (.slice a n c) pa) :
    Calls Tryz.prog 54 #[.pointer (some ⟨tb, 2, none⟩), .iface 127 (.int .i64 x)] w
      fun e w' => e = .returned (.tuple #[]) ∧ ∃ b1 c1, DfsAt w' ids A B tb mb pb fv ft tp te rep O (x :: S) P (.slice b1 (n + 1) c1) pa ∧ Moves (dfoot tb mb pb (.slice a n c) pa) w (dfoot tb mb pb (.slice b1 (n + 1) c1) pa) w' := by
  have c2 := h.blk.c2
  have ho : Hid (∀ o, (w.alloc o).ownsRow B 85 1 (.slice a n c) n (nodes S.reverse)) := fun o => by have := h.stk.alloc o; rw [← hn] at this; exact this
  have hBz := h.lts.2.2.2
  have hh := Lib.hid h
  have hnh := Lib.hid hn
  clear h hn
  go_enter Tryz.func54, Tryz.ntmps54
  go_wp2_with (at_builtin; refine append_law 101 85 .nilIface 1 16 Tryz.underlying101 info_node rfl (by omega) (by omega) rfl _ _ rfl B a n c (nodes S.reverse) rfl (unhide ho _) ⟨w.heap.size, 0, none⟩ 1 1 [.iface 127 (.int .i64 x)] rfl rfl (new_one w _ _) (one_node _) (by omega) (by simp; omega) ?_; intro b2 c2' w2 hown2 hg2 hat2; obtain ⟨q1, q2⟩ := hh.out.push x hnh.out hg2 hown2 hat2; have q3 := q1.c2; have q4 := q1.free 2; clear hown2 hg2 hat2 ho hh)
  go_end0
  exact ⟨rfl, _, _, q2.out.1, q2.out.2⟩

theorem slen_any (n c : Nat) (a : Option Addr) (w : World) (hc : w.cell? ⟨tb, 2, none⟩ = some (.slice a n c)) :
    Calls Tryz.prog 55 #[.pointer (some ⟨tb, 2, none⟩)] w fun e w' => e = .returned (.int .i64 n) ∧ w' = w := by
  go_enter Tryz.func55, Tryz.ntmps55
  go_wp2
  go_ret
  exact ⟨rfl, rfl⟩

set_option maxHeartbeats 1000000 in
theorem spop_any (a : Option Addr) (n c : Nat) (y : Int) (w : World) (hn : n = S.length) (hS : n ≤ 2097000) (h : DfsAt w ids A B tb mb pb fv ft tp te rep O (y :: S) P (.slice a (n + 1) c) pa) :
    Calls Tryz.prog 56 #[.pointer (some ⟨tb, 2, none⟩)] w
      fun e w' => e = .returned (.iface 127 (.int .i64 y)) ∧ ∃ b1 c1, DfsAt w' ids A B tb mb pb fv ft tp te rep O S P (.slice b1 n c1) pa ∧ Moves (dfoot tb mb pb (.slice a (n + 1) c) pa) w (dfoot tb mb pb (.slice b1 n c1) pa) w' := by
  have c2 := h.blk.c2
  have f2 := h.blk.free 2
  have hos := h.stk
  rw [show (y :: S).length = n + 1 by simp [hn]] at hos
  obtain ⟨g, rfl, _, _, hcap⟩ := owns_at hos (by omega)
  have hP : Hid (∀ W, Below w.heap.size w W → W.cell? ⟨g, n, none⟩ = some (.iface 127 (.int .i64 y)) ∧ DfsAt (W.setCell ⟨tb, 2, none⟩ (.slice (some ⟨g, 0, none⟩) n c)) ids A B tb mb pb fv ft tp te rep O S P (.slice (some ⟨g, 0, none⟩) n c) pa ∧
      Moves (dfoot tb mb pb (.slice (some ⟨g, 0, none⟩) (n + 1) c) pa) w (dfoot tb mb pb (.slice (some ⟨g, 0, none⟩) n c) pa) (W.setCell ⟨tb, 2, none⟩ (.slice (some ⟨g, 0, none⟩) n c))) := fun W hW => by
    obtain ⟨p1, _, p3, p4⟩ := (h.below hW).pop rfl (by simp [hn])
    have e1 : n + 1 - 1 = n := by omega
    rw [e1] at p1 p3 p4
    exact ⟨p1, p3, (Moves.of_below _ hW).trans p4⟩
  obtain ⟨p1, _, _⟩ := hP.out w (Below.refl _ _)
  have i1 : ((n + 1 : Nat) : Int) - 1 = (n : Int) := by omega
  have e2 : (n : Int) < ((n + 1 : Nat) : Int) := by omega
  have e3 : (n : Int) ≤ (c : Int) := by omega
  clear h hos hn
  go_enter Tryz.func56, Tryz.ntmps56
  go_wp2_with fail
  go_quiet (fail)
  obtain ⟨_, q1, q2⟩ := hP.out (w.drewN nq) (drewN_below w nq)
  have q1h := Lib.hid q1
  have q2h := Lib.hid q2
  clear q1 q2 hP
  go_wp2_with fail
  go_ret
  exact ⟨rfl, _, _, q1h.out, q2h.out⟩
end
end Go.Proofs.YthpjmjohdliohaaGreat

namespace Go.Proofs.YthpjmjohdliohaaGreat
open Go.RowKit

/-- Lists of nodes, each in a row of its own. -/
def CRows (w : World) (B : Nat) (vs : List Value) (l : List (List Int)) : Prop :=
  vs.length = l.length ∧ ∀ (k : Nat) (v : Value) (c : List Int), vs[k]? = some v → l[k]? = some c → w.ownsRow B 85 1 v c.length (nodes c)
theorem CRows.lt {w : World} {B : Nat} {vs : List Value} {l : List (List Int)} (h : CRows w B vs l) : ∀ j ∈ blks vs, B ≤ j ∧ j < w.heap.size := by
  intro j hj
  obtain ⟨v, hv, hvj⟩ := List.mem_filterMap.1 hj
  obtain ⟨k, hk, rfl⟩ := List.mem_iff_getElem.1 hv
  have hl : k < l.length := by rw [← h.1]; exact hk
  exact (h.2 k _ _ (List.getElem?_eq_getElem hk) (List.getElem?_eq_getElem hl)).lt j hvj
theorem CRows.same {w w' : World} {B : Nat} {vs : List Value} {l : List (List Int)} (h : CRows w B vs l) (hs : ∀ j ∈ blks vs, w'.heap[j]? = w.heap[j]?) : CRows w' B vs l :=
  ⟨h.1, fun k v c hv hc => owns_same (h.2 k v c hv hc) fun j hj => hs j (blks_mem hv hj)⟩
theorem CRows.more {w : World} {B : Nat} {vs : List Value} {l : List (List Int)} {v : Value} {c : List Int} (h : CRows w B vs l) (hv : w.ownsRow B 85 1 v c.length (nodes c)) : CRows w B (vs ++ [v]) (l ++ [c]) := by
  refine ⟨by simp [h.1], fun k v' c' hv' hc' => ?_⟩
  rcases Nat.lt_or_ge k vs.length with hk | hk
  · rw [List.getElem?_append_left hk] at hv'
    rw [List.getElem?_append_left (by rw [← h.1]; exact hk)] at hc'
    exact h.2 k v' c' hv' hc'
  · rw [List.getElem?_append_right hk] at hv'
    rw [List.getElem?_append_right (by rw [← h.1]; exact hk), ← h.1] at hc'
    rcases hj : k - vs.length with _ | m
    · rw [hj] at hv' hc'
      simp at hv' hc'
      subst hv'; subst hc'
      exact hv
    · rw [hj] at hv'; simp at hv'


/-- The function that notes a visit. -/
def noteC (pb : Nat) : Value := .func (.func 47) #[] #[.pointer (some ⟨pb, 0, none⟩)]

section
variable {ids : List Int} {A B tb mb pb : Nat} {fv ft : Value} {O S P : List Int} {sa : Value}

set_option maxRecDepth 100000 in
set_option maxHeartbeats 2000000 in
theorem noteC_any (a : Option Addr) (n c : Nat) (x : Int) (w : World) (hn : n = P.length) (hP : n ≤ 2097000) (h : DfsAt w ids A B tb mb pb fv ft 50 85 nodev O S P sa (.slice a n c)) :
    Calls Tryz.prog 47 #[.iface 127 (.int .i64 x), .pointer (some ⟨pb, 0, none⟩)] w
      fun e w' => e = .returned (.tuple #[]) ∧ ∃ b1 c1, DfsAt w' ids A B tb mb pb fv ft 50 85 nodev O S (P ++ [x]) sa (.slice b1 (n + 1) c1) ∧ Moves (dfoot tb mb pb sa (.slice a n c)) w (dfoot tb mb pb sa (.slice b1 (n + 1) c1)) w' := by
  have c0 := h.pblk.c0
  have c01 : ∀ o, (w.alloc o).cell? ⟨pb, 0, none⟩ = some (.slice a n c) := fun o => cell_alloc c0 o
  have ho : Hid (∀ o, (w.alloc o).ownsRow B 85 1 (.slice a n c) n (P.map nodev)) := fun o => by have := h.prow.alloc o; rw [← hn] at this; exact this
  have hBz := h.lts.2.2.2
  have hh := Lib.hid h
  have hnh := Lib.hid hn
  have hadd := Lib.hid fun (o : Obj) (w1 : World) (b1 : Option Addr) (c1 : Nat) (hg : (w.alloc o).grownBy w1 (Value.slice a n c).ownBlock) (h2 : w1.ownsRow B 85 1 (.slice b1 (n + 1) c1) (n + 1) (P.map nodev ++ [.iface 127 (.int .i64 x)])) (hat : b1 = a ∨ b1 = some ⟨(w.alloc o).heap.size, 0, none⟩) =>
    hh.out.note x hnh.out hg (show w1.ownsRow B 85 1 (.slice b1 (n + 1) c1) (n + 1) (P.map nodev ++ [nodev x]) from h2) (fun j hj => by
      rcases hat with rfl | rfl
      · left; cases b1 <;> exact hj
      · right
        simp only [Value.ownBlock] at hj
        injection hj with hj
        have : (w.alloc o).heap.size = w.heap.size + 1 := by simp
        omega)
  clear h hn
  go_enter Tryz.func47, Tryz.ntmps47
  go_wp2_with (at_builtin; refine append_law 50 85 .nilIface 1 16 Tryz.underlying50 info_node rfl (by omega) (by omega) rfl _ _ rfl B a n c (P.map nodev) rfl (unhide ho _) ⟨w.heap.size, 0, none⟩ 1 1 [.iface 127 (.int .i64 x)] rfl rfl (new_one w _ _) (one_node _) (by omega) (by simp; omega) ?_; intro b2 c2 w6 hown6 hg6 hat6; obtain ⟨s1, s2⟩ := hadd.out _ _ _ _ hg6 hown6 hat6; have s3 := s1.c0; have s4 := s1.free 0; clear hown6 hg6 hat6 s1)
  go_end0
  exact ⟨rfl, _, _, s2.out.1, s2.out.2⟩

theorem func_noteC (pb : Nat) (w : World) : (binOp .neq 99 (noteC pb) .nilFunc).run Tryz.prog w = .ok (.bool true) w := by unfold noteC; kernel_rfl

set_option maxHeartbeats 1000000 in
theorem duntilC_any (a : Option Addr) (n c : Nat) (db : Nat) (x : Int) (w : World) (hn : n = P.length) (hP : n ≤ 2097000) (hdb : w.cell? ⟨db, 0, none⟩ = some (noteC pb)) (h : DfsAt w ids A B tb mb pb fv ft 50 85 nodev O S P sa (.slice a n c)) :
    Calls Tryz.prog 86 #[.iface 127 (.int .i64 x), .pointer (some ⟨db, 0, none⟩)] w
      fun e w' => e = .returned (.bool false) ∧ ∃ b1 c1, DfsAt w' ids A B tb mb pb fv ft 50 85 nodev O S (P ++ [x]) sa (.slice b1 (n + 1) c1) ∧ Moves (dfoot tb mb pb sa (.slice a n c)) w (dfoot tb mb pb sa (.slice b1 (n + 1) c1)) w' := by
  have hnt := Lib.hid (noteC_any a n c x w hn hP h)
  have hfn := func_noteC pb
  unfold noteC at hdb hfn
  clear h hn
  go_enter Tryz.func86, Tryz.ntmps86
  go_wp2_with fail
  refine (unhide hnt).mono ?_
  rintro e w2 ⟨rfl, b1, c1, h1, h2⟩
  have h1h := Lib.hid h1
  have h2h := Lib.hid h2
  clear h1 h2 hnt
  go_wp2_with fail
  go_ret
  exact ⟨rfl, _, _, h1h.out, h2h.out⟩
end
end Go.Proofs.YthpjmjohdliohaaGreat

namespace Go.Proofs.YthpjmjohdliohaaGreat
open Go.RowKit Go.Sort Go.Lib

section
variable {α : Type} [Inhabited α] {enc : α → Value}
theorem holds_encS {w : World} {base e n cap g : Nat} {zs : List α} (h : w.ownsRow base e 1 (.slice (some ⟨g, 0, none⟩) n cap) n (zs.map enc)) : Holds enc w g 0 zs.toArray := by
  intro j hj
  have hj' : j < zs.length := by simpa using hj
  rw [Nat.zero_add]
  refine ⟨?_, owns_free h j⟩
  have e : zs.toArray[j]! = zs[j] := by simp [hj']
  rw [e]
  exact owns_cell h (by rw [List.getElem?_map, List.getElem?_eq_getElem hj']; rfl)
theorem owns_putS {w : World} {base e n cap g k : Nat} {os : Array Obj} {zs ys : List α} (h : w.ownsRow base e 1 (.slice (some ⟨g, 0, none⟩) n cap) n (zs.map enc)) (hl : ys.length = zs.length) :
    (grow (putRow enc (Sort.ahead w k) g 0 ys.toArray) os).ownsRow base e 1 (.slice (some ⟨g, 0, none⟩) n cap) n (ys.map enc) := by
  have hzl : (zs.map enc).length = n * 1 := h.1
  have hzs : zs.length = n := by rw [List.length_map] at hzl; omega
  obtain ⟨_, h | ⟨g', cap', cur, hv, hg, hh, hn, hm, hs, ht⟩⟩ := h
  · simp at h
  · injection hv with hv _ hcap
    injection hv with hv
    injection hv with hv _ _
    subst hv; subst hcap
    refine ⟨by rw [List.length_map, hl, hzs, Nat.mul_one], .inr ⟨g, cap, putCells enc 0 ys.toArray cur, rfl, hg, ?_, hn, hm, by simp [putCells, hs], ?_⟩⟩
    · have hgl : g < w.heap.size := lt_of_block hh
      rw [heap_grow_old _ _ (by simpa using hgl)]
      simp [putRow, mapBlock, Sort.ahead, Array.getElem?_modify, hh, onCells]
    · apply List.ext_getElem?
      intro j
      by_cases hj : j < n
      · rw [List.getElem?_take_of_lt (by omega), Array.getElem?_toList]
        simp [putCells, hl, hzs, hj, show j < cur.size by omega]
      · rw [List.getElem?_take_eq_none (by omega), List.getElem?_eq_none (by rw [List.length_map]; omega)]
theorem grown_putS {w : World} {g n : Nat} {os : Array Obj} (d : Array α) : w.grownBy (grow (putRow enc (Sort.ahead w n) g 0 d) os) (some g) := by
  refine ⟨rfl, rfl, rfl, by simp, fun k hk hne => ?_⟩
  rw [heap_grow_old _ _ (by simpa using hk)]
  have : g ≠ k := fun e => hne (by rw [e])
  simp [putRow, mapBlock, Sort.ahead, Array.getElem?_modify, this]
end

/-- The rows that the heads name, in whatever is done to the row of rows. -/
def HSort (w : World) (own : Option Nat) (hs : List Int) (fv : Int → Value) (fc : Int → List Int) : Prop :=
  ∀ x ∈ hs, ∃ (a : Option Addr) (c : Nat) (t : List Int), fv x = .slice a (fc x).length c ∧ fc x = x :: t ∧ (fc x).length ≤ 1000 ∧ ∀ w', w.grownBy w' own → Cells w' a (ints (fc x))

def cmpH {hs : List Int} (fc : Int → List Int) (x y : { x // x ∈ hs }) : Int := lexC (fc x.1) (fc y.1)

theorem cmpH_lt {hs : List Int} {fc : Int → List Int} (h : ∀ x ∈ hs, ∃ t, fc x = x :: t) (x y : { x // x ∈ hs }) : ltOf (cmpH fc) x y = decide (x.1 < y.1) := by
  unfold ltOf cmpH
  obtain ⟨s, hs'⟩ := h x.1 x.2
  obtain ⟨t, ht⟩ := h y.1 y.2
  rw [hs', ht]
  by_cases e : x.1 = y.1
  · rw [e] at hs' ⊢
    have : s = t := by rw [hs'] at ht; injection ht
    rw [this, lexC_self]
    simp
  · rw [lexC_heads s t e]
    by_cases h1 : x.1 < y.1
    · simp [h1]
    · simp [h1]

theorem cmpH_swo {hs : List Int} {fc : Int → List Int} (h : ∀ x ∈ hs, ∃ t, fc x = x :: t) : SWO (ltOf (cmpH (hs := hs) fc)) where
  irrefl := fun x => by rw [cmpH_lt h]; simp
  trans := fun x y z h1 h2 => by rw [cmpH_lt h] at *; simp at *; omega
  ntrans := fun x y z h1 h2 => by rw [cmpH_lt h] at *; simp at *; omega

set_option maxRecDepth 100000 in
theorem sortRows_any (base n cap : Nat) (a : Option Addr) (hs : List Int) (fv : Int → Value) (fc : Int → List Int) (w : World) (hn : n ≤ 1048576) (hown : w.ownsRow base 22 1 (.slice a n cap) n (hs.map fv)) (hr : HSort w (Value.slice a n cap).ownBlock hs fv fc) :
    Calls Tryz.prog 45 #[.slice a n cap, .func (.func 46) #[] #[]] w
      fun e w' => e = .returned (.tuple #[]) ∧ w'.ownsRow base 22 1 (.slice a n cap) n ((asc hs).map fv) ∧ w.grownBy w' (Value.slice a n cap).ownBlock := by
  have hl : hs.length = n := by have := hown.1; rw [List.length_map] at this; omega
  by_cases h0 : n = 0
  · subst h0
    have hz : hs = [] := List.eq_nil_of_length_eq_zero hl
    subst hz
    refine (Tryz.slices_SortFunc_none (α := Int) a cap _ w).mono ?_
    rintro e w' ⟨rfl, rfl⟩
    exact ⟨rfl, by simpa [asc] using hown, World.grownBy.refl _ _⟩
  · obtain ⟨g, rfl, _, hg, _⟩ := owns_at hown (by omega)
    have hhd : ∀ x ∈ hs, ∃ t, fc x = x :: t := fun x hx => by
      obtain ⟨_, _, t, _, h2, _⟩ := hr x hx
      exact ⟨t, h2⟩
    haveI : Inhabited { x // x ∈ hs } := ⟨⟨hs[0]'(by omega), List.getElem_mem _⟩⟩
    obtain ⟨enc, henc⟩ : ∃ enc : { x // x ∈ hs } → Value, enc = fun x => fv x.1 := ⟨_, rfl⟩
    have hmap : hs.map fv = hs.attach.map enc := by
      rw [henc]
      exact (List.attach_map_val (l := hs) (f := fv)).symm
    have hone : OneCell enc := fun x => by
      obtain ⟨_, _, _, h1, _⟩ := hr x.1 x.2
      rw [henc]
      show (fv x.1).oneCell' = true
      rw [h1]; rfl
    have hown' := hown
    rw [hmap] at hown'
    have hal : hs.attach.length = n := by rw [List.length_attach]; exact hl
    have hsz : hs.attach.toArray.size = n := by simp [hl]
    have := Tryz.slices_SortFunc_total enc hone (cmpH fc) (cmpH_swo hhd) 46 #[] g 0 cap hs.attach.toArray w (fun args w => by simp [go_sem]) (CmpReads.lays (fun m os dk _ x y => ?_)) (holds_encS hown') hg (by rw [hsz]; omega) (fun x y h1 h2 => by
      rw [cmpH_lt hhd] at h1 h2
      simp at h1 h2
      exact Subtype.ext (by omega))
    · rw [hsz] at this
      refine this.mono ?_
      rintro e w' ⟨rfl, k, os, rfl⟩
      have e1 : (hs.attach.toArray.toList.mergeSort fun x y => !ltOf (cmpH fc) y x).map enc = (asc hs).map fv := by
        have e2 : (hs.attach.toArray.toList.mergeSort fun x y => !ltOf (cmpH fc) y x).map Subtype.val = asc hs := by
          unfold asc
          rw [List.map_mergeSort (s := fun x y => decide (x ≤ y))]
          · simp
          · intro x _ y _
            rw [cmpH_lt hhd]
            by_cases h : y.1 < x.1
            · simp [h]
            · simp [h]; omega
        rw [← e2, List.map_map, henc]
        rfl
      refine ⟨rfl, ?_, grown_putS _⟩
      rw [← e1]
      exact owns_putS hown' (List.length_mergeSort _)
    · obtain ⟨ax, cx, s, h1, h2, h3, h4⟩ := hr x.1 x.2
      obtain ⟨ay, cy, t, h5, h6, h7, h8⟩ := hr y.1 y.2
      have hgr : w.grownBy (sortWorld enc w g 0 m dk os) (Value.slice (some ⟨g, 0, none⟩) n cap).ownBlock := grown_putS _
      have hx : enc x = .slice ax (fc x.1).length cx := by rw [henc]; exact h1
      have hy : enc y = .slice ay (fc y.1).length cy := by rw [henc]; exact h5
      rw [hx, hy]
      exact lexCompare_any ax ay _ _ cx cy (fc x.1) (fc y.1) _ rfl rfl (by omega) (by omega) (h4 _ hgr) (h8 _ hgr)

/-- Lists of numbers where they stand. -/
def LRows (w : World) (a : Option Addr) (L : List (List Int)) : Prop :=
  ∃ vs : List Value, vs.length = L.length ∧ Cells w a vs ∧ ∀ k (hk : k < L.length), ∃ ax cx, vs[k]? = some (.slice ax L[k].length cx) ∧ Cells w ax (ints L[k])

theorem hsort_of {w : World} {D : Nat} {own : Option Nat} {vs : List Value} {M : List (List Int)} (hnd : (headsC M).Nodup) (hne : ∀ c ∈ M, c ≠ []) (hl : ∀ c ∈ M, c.length ≤ 1000) (hr : IRows w D vs M) (hdis : ∀ j ∈ blks vs, own ≠ some j) :
    HSort w own (headsC M) (byHead M vs (.slice none 0 0)) (byHead M M []) := fun x hx => by
  obtain ⟨c, hc, rfl⟩ := List.mem_map.1 hx
  obtain ⟨i, hi, rfl⟩ := List.mem_iff_getElem.1 hc
  have hvi : i < vs.length := by rw [hr.1]; exact hi
  have e1 : byHead M vs (.slice none 0 0) (M[i].headD 0) = vs[i] := byHead_at hnd hr.1 hi
  have e2 : byHead M M [] (M[i].headD 0) = M[i] := byHead_at hnd rfl hi
  have hrow := hr.2 i _ _ (List.getElem?_eq_getElem hvi) (List.getElem?_eq_getElem hi)
  obtain ⟨ax, cx, ev, _, _, _⟩ := owns_cells hrow
  have hne' := hne _ hc
  have hhd : ∃ t, M[i] = M[i].headD 0 :: t := by
    match h : M[i], hne' with
    | a :: t, _ => exact ⟨t, rfl⟩
  obtain ⟨t, ht⟩ := hhd
  refine ⟨ax, cx, t, by rw [e1, e2]; exact ev, by rw [e2]; exact ht, by rw [e2]; exact hl _ hc, fun w' hg => ?_⟩
  have hrow' : w'.ownsRow D 3 1 vs[i] M[i].length (ints M[i]) := owns_same hrow fun j hj => hg.block j (hrow.lt j hj).2 (fun e => hdis j (blks_mem (List.getElem?_eq_getElem hvi) hj) e.symm)
  obtain ⟨ay, cy, ev', _, hcs, _⟩ := owns_cells hrow'
  rw [ev] at ev'
  injection ev' with ev'
  subst ev'
  rw [e2]
  exact hcs

theorem lrows_of {w : World} {B n cap : Nat} {a : Option Addr} {own : Option Nat} {w0 : World} {hs : List Int} {fv : Int → Value} {fc : Int → List Int} (hr : HSort w0 own hs fv fc) (hg : w0.grownBy w own) (ho : w.ownsRow B 22 1 (.slice a n cap) n ((asc hs).map fv)) : LRows w a ((asc hs).map fc) := by
  obtain ⟨ax, cx, ex, _, hcx, _⟩ := owns_cells ho
  injection ex with ex1 _ ex2
  subst ex1; subst ex2
  refine ⟨_, by rw [List.length_map, List.length_map], hcx, fun k hk => ?_⟩
  rw [List.length_map] at hk
  obtain ⟨ay, cy, t, h1, _, _, h4⟩ := hr _ (asc_mem.1 (List.getElem_mem hk))
  rw [List.getElem_map, List.getElem?_map, List.getElem?_eq_getElem hk]
  exact ⟨ay, cy, by rw [← h1]; rfl, h4 w hg⟩

set_option maxRecDepth 100000 in
set_option maxHeartbeats 2000000 in
theorem lists_any (B n : Nat) (a : Option Addr) (c : Nat) (vs : List Value) (L : List (List Int)) (w : World) (hn : n = L.length) (hL : L.length ≤ 1000) (hl : ∀ c ∈ L, c.length ≤ 1000) (hov : w.ownsRow B 50 1 (.slice a n c) n vs) (hrows : CRows w B vs L)
    (hnd : (headsC (L.map asc)).Nodup) (hne : ∀ c ∈ L.map asc, c ≠ []) :
    Calls Tryz.prog 27 #[.slice a n c] w fun e w' => ∃ a' c', e = .returned (.slice a' n c') ∧ LRows w' a' (ordC (L.map asc)) ∧ Below w.heap.size w w' := by
  obtain ⟨D, hD⟩ : ∃ D, D = w.heap.size := ⟨_, rfl⟩
  have hDh := Lib.hid hD
  have hnh := Lib.hid hn
  have hovh := Lib.hid hov
  have hrowsh := Lib.hid hrows
  have hcl : Hid (∀ k (hk : k < L.length), L[k].length ≤ 1000) := fun k hk => hl _ (List.getElem_mem hk)
  have hndh := Lib.hid hnd
  have hneh := Lib.hid hne
  have hn1 : n ≤ 1000 := by omega
  clear hov hrows hl hD hnd hne hn hL
  go_enter Tryz.func27, Tryz.ntmps27
  go_wp2_with fail
  go_loopw [3, 5, 6, 9] (fun s _ _ i wr => ∃ (k : Nat) (b : Option Addr) (cb : Nat) (vs2 : List Value), k ≤ n ∧ i = .int .i64 k ∧ s = .slice b k cb ∧ wr.ownsRow D 22 1 (.slice b k cb) k vs2 ∧ IRows wr D vs2 ((L.take k).map asc) ∧
    (∀ j ∈ blks vs2, (Value.slice b k cb).ownBlock ≠ some j) ∧ Below D w wr) (fun _ _ _ i _ => n - (intOf i).toNat)
  case atStart => exact ⟨0, none, 0, [], Nat.zero_le _, rfl, rfl, World.ownsRow_nil _ _ _ _, ⟨rfl, fun k v c hv => by simp at hv⟩, by simp [blks], Below.refl _ _⟩
  case round =>
    obtain ⟨k, b, cb, vs2, hk, rfl, rfl, hown, hir, hdis, hb⟩ := hrel
    have hbw : Below w.heap.size w wr := by rw [← hDh.out]; exact hb
    by_cases hlt : k < n
    · have hkL : k < L.length := by rw [← hnh.out]; exact hlt
      have hvl : vs.length = L.length := hrowsh.out.1
      have hv : vs[k]? = some (vs[k]'(by omega)) := List.getElem?_eq_getElem _
      have hrow := hrowsh.out.2 k _ _ hv (List.getElem?_eq_getElem hkL)
      obtain ⟨cl, hcle⟩ : ∃ cl, cl = L[k] := ⟨_, rfl⟩
      obtain ⟨v4, hv4⟩ : ∃ v4, v4 = vs[k]'(by omega) := ⟨_, rfl⟩
      rw [← hcle, ← hv4] at hrow
      rw [← hv4] at hv
      have hcl1 : cl.length ≤ 1000 := by rw [hcle]; exact hcl.out k hkL
      have htk : Hid ((L.take (k + 1)).map asc = (L.take k).map asc ++ [asc cl]) := by
        unfold Hid; rw [List.take_succ_eq_append_getElem hkL, List.map_append, hcle]; rfl
      obtain ⟨g4, rfl, _⟩ := owns_at hovh.out (by omega)
      have hcell := cell_below hbw (owns_cell hovh.out hv)
      obtain ⟨ag, cg, rfl, _, hcs, _⟩ := owns_cells hrow
      have hnum := Lib.hid (numbers_any ag cl.length cg cl wr rfl (by omega) (hcs.below hbw))
      have hDw : D ≤ wr.heap.size := by rw [hDh.out]; exact hbw.size
      have hownh := Lib.hid hown
      have hirh := Lib.hid hir
      have hdish := Lib.hid hdis
      have hbh := Lib.hid hb
      clear hvl hv hrow hcle hv4 hcs hown hir hdis hb hbw hkL
      go_wp2_with fail
      refine (unhide hnum).mono ?_
      rintro e w5 ⟨ax, cx, rfl, own5, hb5⟩
      have hsort := Lib.hid (sortInt_any wr.heap.size cl.length cx ax cl w5 (by omega) own5)
      have hb5h := Lib.hid hb5
      clear own5 hb5 hnum hcell
      go_wp2_with fail
      refine (unhide hsort).mono ?_
      rintro e w6 ⟨rfl, own6, hg6⟩
      obtain ⟨o6, hD6, hst⟩ := irow_step (o := .cells #[.slice ax cl.length cx] 22) (c := asc cl) (asc_length cl).symm hownh.out hirh.out hdish.out hb5h.out own6 hg6 hDw
      have ho6 := Lib.hid (fun o => o6.alloc o)
      clear own6 hg6 o6 hsort
      go_wp2_with (at_builtin; refine append_law 28 22 (.slice none 0 0) 1 24 Tryz.underlying28 info_irow rfl (by omega) (by omega) rfl _ _ rfl D b k cb vs2 rfl (ho6.out _) ⟨w6.heap.size, 0, none⟩ 1 1 [.slice ax cl.length cx] rfl rfl (new_one w6 _ _) (one_irow _ _ _) (by omega) (by simp; omega) ?_; intro b2 c2 w7 hown7 hg7 hat7; have hq := Lib.hid (hst.out w7 b2 c2 hg7 hown7 hat7); have hown7h := Lib.hid hown7; clear hown7 hg7 hat7 ho6)
      go_roundw
      case rel => exact ⟨k + 1, b2, c2, _, by omega, by go_num, rfl, hown7h.out, by rw [htk.out]; exact hq.out.1, hq.out.2.1, hbh.out.trans hq.out.2.2⟩
      case measure => simp [intOf]; omega
    · have hkn : k = n := by omega
      subst hkn
      rw [hnh.out, List.take_length] at hir
      have hir' : IRows wr D vs2 (L.map asc) := hir
      have hS := Lib.hid (hsort_of (own := (Value.slice b k cb).ownBlock) hndh.out hneh.out (fun c hc => by
        obtain ⟨d, hd, rfl⟩ := List.mem_map.1 hc
        obtain ⟨i, hi, rfl⟩ := List.mem_iff_getElem.1 hd
        rw [asc_length]
        exact hcl.out i hi) hir' hdis)
      have hown' := hown
      rw [← byHead_map (C := L.map asc) (d := .slice none 0 0) hndh.out hir'.1] at hown'
      have hso := Lib.hid (sortRows_any D k cb b (headsC (L.map asc)) _ _ wr (by omega) hown' hS.out)
      have hbwh := Lib.hid hb
      have hDo : Hid (∀ j, (Value.slice b k cb).ownBlock = some j → D ≤ j) := fun j hj => (hown.lt j hj).1
      clear hir hir' hdis hown hown' hb hbw hk
      go_wp2_with fail
      refine (unhide hso).mono ?_
      rintro e w5 ⟨rfl, own5, hg5⟩
      have hfin : Hid (LRows w5 b (ordC (L.map asc)) ∧ Below w.heap.size w w5) := by
        refine ⟨lrows_of hS.out hg5 own5, ?_⟩
        rw [← hDh.out]
        refine hbwh.out.grown hg5 (by have := hbwh.out.size; rw [← hDh.out] at this; exact this) (fun j hj => hDo.out j hj)
      clear own5 hg5 hso hS
      go_wp2_with fail
      go_ret
      exact ⟨b, cb, rfl, hfin.out⟩
end Go.Proofs.YthpjmjohdliohaaGreat
