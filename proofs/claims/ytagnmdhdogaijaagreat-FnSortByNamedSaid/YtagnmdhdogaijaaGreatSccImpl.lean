/- impl.SCC. -/
import Derived.Test.YtagnmdhdogaijaaGreatScc
import Derived.Test.YtagnmdhdogaijaaGreatNumbers
import Derived.Test.YtagnmdhdogaijaaGreatOneWay
import Derived.Test.YtagnmdhdogaijaaGreatSucc
namespace Go.Proofs.YtagnmdhdogaijaaGreat
open Go.RowKit

theorem tarjanScc_any (pb : Nat) (ids : List Int) (outs ins : List (List Arc)) (w : World) (hids : ids.length ≤ 1000) (h64 : ∀ x ∈ ids, In64 x) (hp : PlainAt w pb ids outs ins) :
    Calls Tryz.prog 25 #[.iface 53 (.agg #[.pointer (some ⟨pb, 0, none⟩)])] w (SccPost w (sccsOf (succOf ids outs) ids)) := by
  have hs := Lib.hid (stab_any pb ids outs ins w hids h64 hp)
  clear hp h64
  go_enter Tryz.func25, Tryz.ntmps25
  go_wp2_with fail
  refine (unhide hs).mono ?_
  rintro e w1 hpost
  obtain ⟨a, c, B, vs, rfl, h1⟩ := hpost
  have hfin : Hid (SccPost w (sccsOf (succOf ids outs) ids) (.returned (.slice a (sccsOf (succOf ids outs) ids).length c)) w1) := ⟨a, c, B, vs, rfl, h1⟩
  clear h1 hs
  go_wp2_with fail
  go_ret
  exact hfin.out

/-- Lists of numbers, each in a row of its own. -/
def IRows (w : World) (B : Nat) (vs : List Value) (l : List (List Int)) : Prop :=
  vs.length = l.length ∧ ∀ (k : Nat) (v : Value) (c : List Int), vs[k]? = some v → l[k]? = some c → w.ownsRow B 3 1 v c.length (ints c)
theorem IRows.lt {w : World} {B : Nat} {vs : List Value} {l : List (List Int)} (h : IRows w B vs l) : ∀ j ∈ blks vs, B ≤ j ∧ j < w.heap.size := by
  intro j hj
  obtain ⟨v, hv, hvj⟩ := List.mem_filterMap.1 hj
  obtain ⟨k, hk, rfl⟩ := List.mem_iff_getElem.1 hv
  have hl : k < l.length := by rw [← h.1]; exact hk
  exact (h.2 k _ _ (List.getElem?_eq_getElem hk) (List.getElem?_eq_getElem hl)).lt j hvj
theorem IRows.same {w w' : World} {B : Nat} {vs : List Value} {l : List (List Int)} (h : IRows w B vs l) (hs : ∀ j ∈ blks vs, w'.heap[j]? = w.heap[j]?) : IRows w' B vs l :=
  ⟨h.1, fun k v c hv hc => owns_same (h.2 k v c hv hc) fun j hj => hs j (blks_mem hv hj)⟩
theorem IRows.more {w : World} {B : Nat} {vs : List Value} {l : List (List Int)} {v : Value} {c : List Int} (h : IRows w B vs l) (hv : w.ownsRow B 3 1 v c.length (ints c)) : IRows w B (vs ++ [v]) (l ++ [c]) := by
  refine ⟨by simp [h.1], fun k v' c' hv' hc' => ?_⟩
  rcases Nat.lt_or_ge k vs.length with hk | hk
  · rw [List.getElem?_append_left hk] at hv'
    rw [List.getElem?_append_left (by rw [← h.1]; exact hk)] at hc'
    exact h.2 k v' c' hv' hc'
  · rw [List.getElem?_append_right hk] at hv'
    rw [List.getElem?_append_right (by rw [← h.1]; exact hk), ← h.1] at hc'
    rcases hj : k - vs.length with _ | m
    · rw [hj] at hv' hc'
      simp at hv' hc'
      subst hv'; subst hc'
      exact hv
    · rw [hj] at hv'; simp at hv'

/-- What impl.SCC gives of a graph that is none too bad. -/
def SccRes (w : World) (l : List (List Int)) (e : Ending) (w' : World) : Prop :=
  ∃ (a : Option Addr) (c B : Nat) (vs : List Value), e = .returned (.tuple #[.slice a l.length c, .bool false]) ∧ w'.ownsRow B 22 1 (.slice a l.length c) l.length vs ∧ IRows w' B vs l ∧ B ≤ w'.heap.size ∧ Below w.heap.size w w'

theorem info_irow : (Tryz.prog.info? 22).map (fun i => (i.zero, i.size, i.bytes)) = some (some (.slice none 0 0), 1, 24) := by kernel_rfl

/-- One row more: what stands behind numbers, Sort and the append. -/
theorem irow_step {wr w5 w6 : World} {D k n : Nat} {b ax : Option Addr} {cb cx : Nat} {vs2 : List Value} {l : List (List Int)} {c : List Int} {o : Obj} (hn : n = c.length) (hown : wr.ownsRow D 22 1 (.slice b k cb) k vs2) (hrows : IRows wr D vs2 l)
    (hdis : ∀ j ∈ blks vs2, (Value.slice b k cb).ownBlock ≠ some j) (hb5 : Below wr.heap.size wr w5) (own6 : w6.ownsRow wr.heap.size 3 1 (.slice ax n cx) n (ints c)) (hg6 : w5.grownBy w6 (Value.slice ax n cx).ownBlock) (hD : D ≤ wr.heap.size) :
    w6.ownsRow D 22 1 (.slice b k cb) k vs2 ∧ D ≤ w6.heap.size ∧ Hid (∀ w7 b2 c2, (w6.alloc o).grownBy w7 (Value.slice b k cb).ownBlock → w7.ownsRow D 22 1 (.slice b2 (k + 1) c2) (k + 1) (vs2 ++ [.slice ax n cx]) → (b2 = b ∨ b2 = some ⟨(w6.alloc o).heap.size, 0, none⟩) →
      IRows w7 D (vs2 ++ [.slice ax n cx]) (l ++ [c]) ∧ (∀ j ∈ blks (vs2 ++ [.slice ax n cx]), (Value.slice b2 (k + 1) c2).ownBlock ≠ some j) ∧ Below D wr w7) := by
  subst hn
  have hz5 := hb5.size
  have hz6 := hg6.size
  have hold : ∀ j, j < wr.heap.size → w6.heap[j]? = wr.heap[j]? := fun j hj => by
    rw [hg6.block j (by omega) (fun e => by have := (own6.lt j e.symm).1; omega), hb5.block j hj]
  have hown6 : w6.ownsRow D 22 1 (.slice b k cb) k vs2 := owns_same hown fun j hj => hold j (hown.lt j hj).2
  refine ⟨hown6, by omega, fun w7 b2 c2 hg7 ho7 hat => ?_⟩
  have hsz : (w6.alloc o).heap.size = w6.heap.size + 1 := by simp
  have h7 : ∀ j, j < w6.heap.size → (Value.slice b k cb).ownBlock ≠ some j → w7.heap[j]? = w6.heap[j]? := fun j hj hne => by
    rw [hg7.block j (by omega) (fun e => hne e.symm), Below.heap_alloc _ _ _ hj]
  have hr7 : IRows w7 D vs2 l := hrows.same fun j hj => by
    have := hrows.lt j hj
    rw [h7 j (by omega) (hdis j hj), hold j this.2]
  have hx7 : w7.ownsRow D 3 1 (.slice ax c.length cx) c.length (ints c) := by
    have h1 : w7.ownsRow wr.heap.size 3 1 (.slice ax c.length cx) c.length (ints c) := owns_same own6 fun j hj => h7 j (own6.lt j hj).2 (fun e => by
      have h1 := (own6.lt j hj).1
      have h2 := (hown.lt j e).2
      omega)
    exact owns_base h1 hD
  have hnew : ∀ j, (Value.slice b2 (k + 1) c2).ownBlock = some j → (Value.slice b k cb).ownBlock = some j ∨ w6.heap.size ≤ j := by
    intro j hj
    rcases hat with rfl | rfl
    · left; cases b2 <;> exact hj
    · right
      simp only [Value.ownBlock] at hj
      injection hj with hj
      omega
  refine ⟨hr7.more hx7, fun j hj e => ?_, ⟨(hg7.os.trans rfl).trans (hg6.os.trans hb5.os), (hg7.tape.trans rfl).trans (hg6.tape.trans hb5.tape), (hg7.output.trans rfl).trans (hg6.output.trans hb5.output), by have := hg7.size; omega, fun j hj => ?_⟩⟩
  · have hbl : blks (vs2 ++ [.slice ax c.length cx]) = blks vs2 ++ (Value.slice ax c.length cx).ownBlock.toList := by
      unfold blks; rw [List.filterMap_append]; congr 1
    rw [hbl] at hj
    rcases List.mem_append.1 hj with hj | hj
    · have h1 := hrows.lt j hj
      rcases hnew j e with e' | e'
      · exact hdis j hj e'
      · omega
    · rw [Option.mem_toList] at hj
      have h1 := own6.lt j hj
      rcases hnew j e with e' | e'
      · have := (hown.lt j e').2; omega
      · omega
  · rw [h7 j (by omega) (fun e => by have := (hown.lt j e).1; omega), hold j (by omega)]

theorem mem_len {c : List Int} {l : List (List Int)} (h : c ∈ l) : c.length ≤ l.flatten.length := by
  induction l with
  | nil => cases h
  | cons d l ih =>
    rw [List.flatten_cons, List.length_append]
    rcases List.mem_cons.1 h with e | e
    · rw [e]; omega
    · have := ih e; omega

/-- The components of a graph, each ascending. -/
def gSccs (g : Gr) : List (List Int) := (sccsOf (gSucc g) (asc g.nodes)).map asc

set_option maxRecDepth 100000 in
set_option maxHeartbeats 2000000 in
theorem scc_any (g : Gr) (an : Option Addr) (cn : Nat) (ae : Option Addr) (ce : Nat) (w : World) (hn : g.nodes.length ≤ 1000) (he : g.edges.length ≤ 1048576) (hg : GrAt w g an cn ae) (hok : okGraph g = true) (hd : g.dir = true) (h64 : ∀ x ∈ g.nodes, In64 x) :
    Calls Tryz.prog 9 #[.agg #[.bool g.dir, .slice an g.nodes.length cn, .slice ae g.edges.length ce]] w (SccRes w (gSccs g)) := by
  have how := oneWay_any g an cn ae ce (w.alloc (.cells #[.bool g.dir, .slice an g.nodes.length cn, .slice ae g.edges.length ce] 25)) (by omega) he (hg.below (alloc_below w _))
  have howh := Lib.hid how
  have hokh := Lib.hid hok
  have hdh := Lib.hid hd
  have h64h := Lib.hid h64
  have hids : (asc g.nodes).length ≤ 1000 := by rw [asc_length]; exact hn
  have hsok := Lib.hid (sccs_ok (ids := asc g.nodes) (succ := gSucc g) (fun x hx y hy => by
    have := (gSucc_mem hok (asc_mem.1 hx)).1 hy
    exact asc_mem.2 this.1))
  clear how hok hd h64 hg
  go_enter Tryz.func9, Tryz.ntmps9
  go_wp2_with fail
  refine (unhide howh).mono ?_
  rintro e w1 ⟨pb, rfl, hb1, hp⟩
  rw [hokh.out, hdh.out]
  have hp1 := hp hokh.out
  have hb1' : Below w.heap.size w w1 := (alloc_below w _).trans (hb1.mono (by simp))
  have hts := Lib.hid (fun o => tarjanScc_any pb (asc g.nodes) _ _ (w1.alloc o) hids (fun x hx => h64h.out x (asc_mem.1 hx)) (hp1.below (alloc_below w1 o)))
  have hb1h := Lib.hid hb1'
  clear hb1 hp hp1 hb1' howh
  go_wp2_with fail
  refine (hts.out _).mono ?_
  rintro e w4 ⟨a4, c4, B4, vs4, rfl, hB4, hov, hrows, _, _, _, hb4⟩
  obtain ⟨L, hL⟩ : ∃ L, L = sccsOf (gSucc g) (asc g.nodes) := ⟨_, rfl⟩
  have hov' : w4.ownsRow B4 58 1 (.slice a4 L.length c4) L.length vs4 := by rw [hL]; exact hov
  have hrows' : NRows w4 B4 vs4 L := by rw [hL]; exact hrows
  have hLs : sccsOf (succOf (asc g.nodes) (tabs bitsOf (asc g.nodes) g.dir g.edges).1) (asc g.nodes) = L := by rw [hL]; rfl
  rw [hLs]
  have hfl : L.flatten.length ≤ 1000 := by
    have h1 := hsok.out.nd
    have h2 := nodup_len h1 (fun x hx => (hsok.out.mem x).1 hx)
    rw [hL]
    show (sccsOf (gSucc g) (asc g.nodes)).flatten.length ≤ 1000
    omega
  have hLl : L.length ≤ 1000 := by
    have h1 := flatten_len hsok.out.ne
    rw [hL] at hfl ⊢
    have h2 : (sccsOf (gSucc g) (asc g.nodes)).length ≤ (sccsOf (gSucc g) (asc g.nodes)).flatten.length := h1
    omega
  have hcl : Hid (∀ k (hk : k < L.length), L[k].length ≤ 1000) := fun k hk => by have := mem_len (List.getElem_mem hk); omega
  have hbw4 : Hid (Below w.heap.size w w4) := hb1h.out.trans (((alloc_below w1 _).trans (hb4.mono (by simp))).mono (hb1h.out.size))
  have hovh := Lib.hid hov'
  have hrowsh := Lib.hid hrows'
  have hLh : Hid (gSccs g = L.map asc) := by unfold Hid gSccs; rw [hL]
  obtain ⟨D, hD⟩ : ∃ D, D = w4.heap.size := ⟨_, rfl⟩
  have hDh := Lib.hid hD
  clear hov hrows hov' hrows' hL hLs hb4 hts hsok hB4 hD
  go_wp2_with fail
  go_loopw [2, 7, 8, 20] (fun s _ _ i wr => ∃ (k : Nat) (b : Option Addr) (cb : Nat) (vs2 : List Value), k ≤ L.length ∧ i = .int .i64 k ∧ s = .slice b k cb ∧ wr.ownsRow D 22 1 (.slice b k cb) k vs2 ∧ IRows wr D vs2 ((L.take k).map asc) ∧
    (∀ j ∈ blks vs2, (Value.slice b k cb).ownBlock ≠ some j) ∧ Below D w4 wr) (fun _ _ _ i _ => L.length - (intOf i).toNat)
  case atStart => exact ⟨0, none, 0, [], Nat.zero_le _, rfl, rfl, World.ownsRow_nil _ _ _ _, ⟨rfl, fun k v c hv => by simp at hv⟩, by simp [blks], Below.refl _ _⟩
  case round =>
    obtain ⟨k, b, cb, vs2, hk, rfl, rfl, hown, hir, hdis, hb⟩ := hrel
    have hbw : Below w4.heap.size w4 wr := by rw [← hDh.out]; exact hb
    by_cases hlt : k < L.length
    · have hvl : vs4.length = L.length := hrowsh.out.1
      have hv : vs4[k]? = some (vs4[k]'(by omega)) := List.getElem?_eq_getElem _
      have hrow := hrowsh.out.2 k _ _ hv (List.getElem?_eq_getElem hlt)
      obtain ⟨cl, hcle⟩ : ∃ cl, cl = L[k] := ⟨_, rfl⟩
      obtain ⟨v4, hv4⟩ : ∃ v4, v4 = vs4[k]'(by omega) := ⟨_, rfl⟩
      rw [← hcle, ← hv4] at hrow
      rw [← hv4] at hv
      have hcl1 : cl.length ≤ 1000 := by rw [hcle]; exact hcl.out k hlt
      have htk : Hid ((L.take (k + 1)).map asc = (L.take k).map asc ++ [asc cl]) := by
        unfold Hid; rw [List.take_succ_eq_append_getElem hlt, List.map_append, hcle]; rfl
      obtain ⟨g4, rfl, _⟩ := owns_at hovh.out (by omega)
      have hcell := cell_below hbw (owns_cell hovh.out hv)
      obtain ⟨ag, cg, rfl, _, hcs, _⟩ := owns_cells hrow
      have hnum := Lib.hid (numbers_any ag cl.length cg cl wr rfl (by omega) (hcs.below hbw))
      have hDw : D ≤ wr.heap.size := by rw [hDh.out]; exact hbw.size
      have hownh := Lib.hid hown
      have hirh := Lib.hid hir
      have hdish := Lib.hid hdis
      have hbh := Lib.hid hb
      clear hvl hv hrow hcle hv4 hcs hown hir hdis hb hbw
      go_wp2_with fail
      refine (unhide hnum).mono ?_
      rintro e w5 ⟨ax, cx, rfl, own5, hb5⟩
      have hsort := Lib.hid (sortInt_any wr.heap.size cl.length cx ax cl w5 (by omega) own5)
      have hb5h := Lib.hid hb5
      clear own5 hb5 hnum hcell
      go_wp2_with fail
      refine (unhide hsort).mono ?_
      rintro e w6 ⟨rfl, own6, hg6⟩
      obtain ⟨o6, hD6, hst⟩ := irow_step (o := .cells #[.slice ax cl.length cx] 22) (c := asc cl) (asc_length cl).symm hownh.out hirh.out hdish.out hb5h.out own6 hg6 hDw
      have ho6 := Lib.hid (fun o => o6.alloc o)
      clear own6 hg6 o6 hsort
      go_wp2_with (at_builtin; refine append_law 28 22 (.slice none 0 0) 1 24 Tryz.underlying28 info_irow rfl (by omega) (by omega) rfl _ _ rfl D b k cb vs2 rfl (ho6.out _) ⟨w6.heap.size, 0, none⟩ 1 1 [.slice ax cl.length cx] rfl rfl (new_one w6 _ _) (one_row _ _ _) (by omega) (by simp; omega) ?_; intro b2 c2 w7 hown7 hg7 hat7; have hq := Lib.hid (hst.out w7 b2 c2 hg7 hown7 hat7); have hown7h := Lib.hid hown7; clear hown7 hg7 hat7 ho6)
      go_roundw
      case rel => exact ⟨k + 1, b2, c2, _, by omega, by go_num, rfl, hown7h.out, by rw [htk.out]; exact hq.out.1, hq.out.2.1, hbh.out.trans hq.out.2.2⟩
      case measure => simp [intOf]; omega
    · have hkn : k = L.length := by omega
      subst hkn
      rw [List.take_length] at hir
      have hfin : Hid (SccRes w (gSccs g) (.returned (.tuple #[.slice b L.length cb, .bool false])) wr) := by
        have h1 : (gSccs g).length = L.length := by rw [hLh.out, List.length_map]
        refine ⟨b, cb, D, vs2, by rw [h1], by rw [h1]; exact hown, by rw [hLh.out]; exact hir, by rw [hDh.out]; exact hbw.size, hbw4.out.trans (hbw.mono hbw4.out.size)⟩
      clear hown hir hdis hb hbw
      go_wp2_with fail
      go_ret2
      exact hfin.out
end Go.Proofs.YtagnmdhdogaijaaGreat
