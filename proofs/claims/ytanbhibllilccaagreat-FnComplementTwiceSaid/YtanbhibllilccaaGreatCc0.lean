/- topo.ConnectedComponents: rows of nodes; what is done at each visit. -/
import Derived.Test.YtanbhibllilccaaGreatDfs1
import Derived.Test.YtanbhibllilccaaGreatIRows
import Derived.Test.YtanbhibllilccaaGreatNumbers
namespace Go.Proofs.YtanbhibllilccaaGreat
open Go.RowKit

/-- Lists of nodes, each in a row of its own. -/
def CRows (w : World) (B : Nat) (vs : List Value) (l : List (List Int)) : Prop :=
  vs.length = l.length ∧ ∀ (k : Nat) (v : Value) (c : List Int), vs[k]? = some v → l[k]? = some c → w.ownsRow B 104 1 v c.length (nodes c)
theorem CRows.lt {w : World} {B : Nat} {vs : List Value} {l : List (List Int)} (h : CRows w B vs l) : ∀ j ∈ blks vs, B ≤ j ∧ j < w.heap.size := by
  intro j hj
  obtain ⟨v, hv, hvj⟩ := List.mem_filterMap.1 hj
  obtain ⟨k, hk, rfl⟩ := List.mem_iff_getElem.1 hv
  have hl : k < l.length := by rw [← h.1]; exact hk
  exact (h.2 k _ _ (List.getElem?_eq_getElem hk) (List.getElem?_eq_getElem hl)).lt j hvj
theorem CRows.same {w w' : World} {B : Nat} {vs : List Value} {l : List (List Int)} (h : CRows w B vs l) (hs : ∀ j ∈ blks vs, w'.heap[j]? = w.heap[j]?) : CRows w' B vs l :=
  ⟨h.1, fun k v c hv hc => owns_same (h.2 k v c hv hc) fun j hj => hs j (blks_mem hv hj)⟩
theorem CRows.more {w : World} {B : Nat} {vs : List Value} {l : List (List Int)} {v : Value} {c : List Int} (h : CRows w B vs l) (hv : w.ownsRow B 104 1 v c.length (nodes c)) : CRows w B (vs ++ [v]) (l ++ [c]) := by
  refine ⟨by simp [h.1], fun k v' c' hv' hc' => ?_⟩
  rcases Nat.lt_or_ge k vs.length with hk | hk
  · rw [List.getElem?_append_left hk] at hv'
    rw [List.getElem?_append_left (by rw [← h.1]; exact hk)] at hc'
    exact h.2 k v' c' hv' hc'
  · rw [List.getElem?_append_right hk] at hv'
    rw [List.getElem?_append_right (by rw [← h.1]; exact hk), ← h.1] at hc'
    rcases hj : k - vs.length with _ | m
    · rw [hj] at hv' hc'
      simp at hv' hc'
      subst hv'; subst hc'
      exact hv
    · rw [hj] at hv'; simp at hv'


/-- The function that notes a visit. -/
def noteC (pb : Nat) : Value := .func (.func 43) #[] #[.pointer (some ⟨pb, 0, none⟩)]

section
variable {ids : List Int} {A B tb mb pb : Nat} {fv ft : Value} {O S P : List Int} {sa : Value}

set_option maxRecDepth 100000 in
set_option maxHeartbeats 2000000 in
theorem noteC_any (a : Option Addr) (n c : Nat) (x : Int) (w : World) (hn : n = P.length) (hP : n ≤ 2097000) (h : DfsAt w ids A B tb mb pb fv ft 89 104 nodev O S P sa (.slice a n c)) :
    Calls Tryz.prog 43 #[.iface 253 (.int .i64 x), .pointer (some ⟨pb, 0, none⟩)] w
      fun e w' => e = .returned (.tuple #[]) ∧ ∃ b1 c1, DfsAt w' ids A B tb mb pb fv ft 89 104 nodev O S (P ++ [x]) sa (.slice b1 (n + 1) c1) ∧ Moves (dfoot tb mb pb sa (.slice a n c)) w (dfoot tb mb pb sa (.slice b1 (n + 1) c1)) w' := by
  have c0 := h.pblk.c0
  have c01 : ∀ o, (w.alloc o).cell? ⟨pb, 0, none⟩ = some (.slice a n c) := fun o => cell_alloc c0 o
  have ho : Hid (∀ o, (w.alloc o).ownsRow B 104 1 (.slice a n c) n (P.map nodev)) := fun o => by have := h.prow.alloc o; rw [← hn] at this; exact this
  have hBz := h.lts.2.2.2
  have hh := Lib.hid h
  have hnh := Lib.hid hn
  have hadd := Lib.hid fun (o : Obj) (w1 : World) (b1 : Option Addr) (c1 : Nat) (hg : (w.alloc o).grownBy w1 (Value.slice a n c).ownBlock) (h2 : w1.ownsRow B 104 1 (.slice b1 (n + 1) c1) (n + 1) (P.map nodev ++ [.iface 253 (.int .i64 x)])) (hat : b1 = a ∨ b1 = some ⟨(w.alloc o).heap.size, 0, none⟩) =>
    hh.out.note x hnh.out hg (show w1.ownsRow B 104 1 (.slice b1 (n + 1) c1) (n + 1) (P.map nodev ++ [nodev x]) from h2) (fun j hj => by
      rcases hat with rfl | rfl
      · left; cases b1 <;> exact hj
      · right
        simp only [Value.ownBlock] at hj
        injection hj with hj
        have : (w.alloc o).heap.size = w.heap.size + 1 := by simp
        omega)
  clear h hn
  go_enter Tryz.func43, Tryz.ntmps43
  go_wp2_with (at_builtin; refine append_law 89 104 .nilIface 1 16 Tryz.underlying89 info_node rfl (by omega) (by omega) rfl _ _ rfl B a n c (P.map nodev) rfl (unhide ho _) ⟨w.heap.size, 0, none⟩ 1 1 [.iface 253 (.int .i64 x)] rfl rfl (new_one w _ _) (one_node _) (by omega) (by simp; omega) ?_; intro b2 c2 w6 hown6 hg6 hat6; obtain ⟨s1, s2⟩ := hadd.out _ _ _ _ hg6 hown6 hat6; have s3 := s1.c0; have s4 := s1.free 0; clear hown6 hg6 hat6 s1)
  go_end0
  exact ⟨rfl, _, _, s2.out.1, s2.out.2⟩

theorem func_noteC (pb : Nat) (w : World) : (binOp .neq 96 (noteC pb) .nilFunc).run Tryz.prog w = .ok (.bool true) w := by unfold noteC; kernel_rfl

set_option maxHeartbeats 1000000 in
theorem duntilC_any (a : Option Addr) (n c : Nat) (db : Nat) (x : Int) (w : World) (hn : n = P.length) (hP : n ≤ 2097000) (hdb : w.cell? ⟨db, 0, none⟩ = some (noteC pb)) (h : DfsAt w ids A B tb mb pb fv ft 89 104 nodev O S P sa (.slice a n c)) :
    Calls Tryz.prog 63 #[.iface 253 (.int .i64 x), .pointer (some ⟨db, 0, none⟩)] w
      fun e w' => e = .returned (.bool false) ∧ ∃ b1 c1, DfsAt w' ids A B tb mb pb fv ft 89 104 nodev O S (P ++ [x]) sa (.slice b1 (n + 1) c1) ∧ Moves (dfoot tb mb pb sa (.slice a n c)) w (dfoot tb mb pb sa (.slice b1 (n + 1) c1)) w' := by
  have hnt := Lib.hid (noteC_any a n c x w hn hP h)
  have hfn := func_noteC pb
  unfold noteC at hdb hfn
  clear h hn
  go_enter Tryz.func63, Tryz.ntmps63
  go_wp2_with fail
  refine (unhide hnt).mono ?_
  rintro e w2 ⟨rfl, b1, c1, h1, h2⟩
  have h1h := Lib.hid h1
  have h2h := Lib.hid h2
  clear h1 h2 hnt
  go_wp2_with fail
  go_ret
  exact ⟨rfl, _, _, h1h.out, h2h.out⟩
end
end Go.Proofs.YtanbhibllilccaaGreat
