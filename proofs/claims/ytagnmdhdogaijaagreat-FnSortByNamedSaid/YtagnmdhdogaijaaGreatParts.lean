/- laws.fewOf; laws.parts where it answers true. -/
import Derived.Test.YtagnmdhdogaijaaGreatSccImpl
import Derived.Test.YtagnmdhdogaijaaGreatLaws1
import Derived.Test.YtagnmdhdogaijaaGreatEqRows
namespace Go.Proofs.YtagnmdhdogaijaaGreat
open Go.RowKit

theorem fewOf_any (g : Gr) (an : Option Addr) (cn : Nat) (ae : Option Addr) (ce : Nat) (d : Bool) (w : World) (N : Nat) (hN : N ≤ 1000) (hg : GrAt w g an cn ae) :
    Calls Tryz.prog 8 #[.agg #[.bool g.dir, .slice an g.nodes.length cn, .slice ae g.edges.length ce], .bool d, .int .i64 N] w fun e w' => e = .returned (.bool (g.dir == d && fewB g N)) ∧ Below w.heap.size w w' := by
  have hf := Lib.hid (few_any g an cn ae ce (w.alloc (.cells #[.bool g.dir, .slice an g.nodes.length cn, .slice ae g.edges.length ce] 25)) N hN (hg.below (alloc_below w _)))
  clear hg
  obtain ⟨q, hq⟩ : ∃ q, q = fewB g N := ⟨_, rfl⟩
  rw [← hq] at hf
  obtain ⟨gd, hgd⟩ : ∃ gd, gd = g.dir := ⟨_, rfl⟩
  rw [← hgd] at hf ⊢
  rw [← hq]
  clear hq hgd
  by_cases hd : gd = d
  · subst hd
    have hdd : (gd == gd) = true := by simp
    go_enter Tryz.func8, Tryz.ntmps8
    go_wp2_with fail
    refine (unhide hf).mono ?_
    rintro e w1 ⟨rfl, hb⟩
    have hbh : Hid (Below w.heap.size w w1) := (alloc_below w _).trans (hb.mono (by simp))
    clear hb hf
    go_wp2_with fail
    go_ret
    exact ⟨ret_bool (by simp), hbh.out⟩
  · have hdd : (gd == d) = false := by simpa using hd
    clear hd
    go_enter Tryz.func8, Tryz.ntmps8
    go_wp2_with fail
    go_ret
    exact ⟨ret_bool (by rw [hdd]; rfl), alloc_below w _⟩

theorem cells_adds {w : World} {ad : Addr} {zs : List Int} (h : Cells w (some ad) (ints zs)) : ∀ j u, (ints zs)[j]? = some u → w.cell? (ad.add j) = some u := h.add

set_option maxRecDepth 100000 in
set_option maxHeartbeats 2000000 in
theorem parts_true (a : Option Addr) (c D : Nat) (vs : List Value) (l : List (List Int)) (an : Option Addr) (cn : Nat) (ns : List Int) (w : World) (hl : l.length ≤ 1000) (hfl : l.flatten.length ≤ 1000) (hns : ns.length ≤ 1000)
    (ho : w.ownsRow D 22 1 (.slice a l.length c) l.length vs) (hr : IRows w D vs l) (hn : Cells w an (ints ns)) (h0 : an = none → cn = 0)
    (hne : ∀ x ∈ l, x ≠ []) (hinc : ∀ x ∈ l, incr x = true) (hperm : asc l.flatten = asc ns) :
    Calls Tryz.prog 10 #[.slice a l.length c, .slice an ns.length cn] w fun e w' => e = .returned (.bool true) ∧ Below w.heap.size w w' := by
  have hoh := Lib.hid ho
  have hrh := Lib.hid hr
  have hnh := Lib.hid hn
  have h0h := Lib.hid h0
  have hneh := Lib.hid hne
  have hinch := Lib.hid hinc
  have hph := Lib.hid hperm
  clear ho hr hn h0 hne hinc hperm
  go_enter Tryz.func10, Tryz.ntmps10
  go_wp2_with fail
  go_loopw [5, 6] (fun s i wr => ∃ (k : Nat) (b : Option Addr) (cb : Nat), k ≤ l.length ∧ i = .int .i64 k ∧ s = .slice b (l.take k).flatten.length cb ∧ wr.ownsRow w.heap.size 3 1 (.slice b (l.take k).flatten.length cb) (l.take k).flatten.length (ints (l.take k).flatten) ∧ Below w.heap.size w wr) (fun _ i _ => l.length - (intOf i).toNat)
  case atStart => exact ⟨0, none, 0, Nat.zero_le _, rfl, rfl, World.ownsRow_nil _ _ _ _, Below.refl _ _⟩
  case round =>
    obtain ⟨k, b, cb, hk, rfl, rfl, hown, hb⟩ := hrel
    by_cases hlt : k < l.length
    · have hvl : vs.length = l.length := hrh.out.1
      have hv : vs[k]? = some (vs[k]'(by omega)) := List.getElem?_eq_getElem _
      have hrow := hrh.out.2 k _ _ hv (List.getElem?_eq_getElem hlt)
      have hxne := hneh.out _ (List.getElem_mem hlt)
      have hxinc := hinch.out _ (List.getElem_mem hlt)
      have htk : (l.take (k + 1)).flatten = (l.take k).flatten ++ l[k] := by rw [List.take_succ_eq_append_getElem hlt, List.flatten_append]; simp
      have hlen : (l.take (k + 1)).flatten.length ≤ 1000 := by
        have h1 : (l.take (k + 1)).flatten.length ≤ l.flatten.length := by
          have h2 : l.flatten = (l.take (k + 1)).flatten ++ (l.drop (k + 1)).flatten := by rw [← List.flatten_append, List.take_append_drop]
          rw [h2, List.length_append]; omega
        omega
      obtain ⟨x, hx⟩ : ∃ x, x = l[k] := ⟨_, rfl⟩
      obtain ⟨v, hvv⟩ : ∃ v, v = vs[k]'(by omega) := ⟨_, rfl⟩
      rw [← hvv] at hrow hv
      rw [← hx] at hrow hxne hxinc htk
      obtain ⟨F, hF⟩ : ∃ F, F = (l.take k).flatten := ⟨_, rfl⟩
      rw [← hF] at hown htk ⊢
      have hxl : 0 < x.length := List.length_pos_iff.2 hxne
      rw [htk, List.length_append] at hlen
      obtain ⟨ga, rfl, _⟩ := owns_at hoh.out (by omega)
      have hcell := cell_below hb (owns_cell hoh.out hv)
      obtain ⟨ag, cg, rfl, _, hcs, _⟩ := owns_cells hrow
      obtain ⟨gg, rfl, _⟩ := owns_at hrow hxl
      have hcs' := hcs.below hb
      have hris := Lib.hid (rising_any (some ⟨gg, 0, none⟩) x.length cg x wr rfl (by omega) hcs')
      rw [hxinc] at hris
      have hx0 : ((x.length : Int) == 0) = false := by simp; omega
      have htkh := Lib.hid htk
      have hBs := hb.size
      have hownh := Lib.hid hown
      have hbh := Lib.hid hb
      have hcsh := Lib.hid hcs'
      clear hvl hv hrow hxne hxinc htk hx hvv hF hcs hcs' hown hb
      go_wp2_with fail
      refine (unhide hris).mono ?_
      rintro e w5 ⟨rfl, q, hw5⟩
      have ho5 := hownh.out.kept (w' := w5) (row := none) (by rw [hw5]; exact ⟨rfl, rfl, rfl, Nat.le_refl _, fun _ _ _ => rfl⟩) (by cases b <;> simp [Value.ownBlock])
      have hb5 : Below w.heap.size w w5 := by rw [hw5]; exact below_draws hbh.out _
      have hcs5 : Cells w5 (some ⟨gg, 0, none⟩) (ints x) := by rw [hw5]; exact hcsh.out.drewN q
      have hcell5 : w5.cell? ⟨ga, k, none⟩ = some (.slice (some ⟨gg, 0, none⟩) x.length cg) := by rw [hw5]; exact hcell
      have hz5 : w.heap.size ≤ w5.heap.size := hb5.size
      have ho5h := Lib.hid ho5
      have hb5h := Lib.hid hb5
      have hcs5h := Lib.hid hcs5
      clear hw5 ho5 hb5 hcs5 hcell hris hownh hbh hcsh hBs
      go_wp2_with (at_builtin; refine append_law 22 3 (.int .i64 0) 1 8 Tryz.underlying22 info_int rfl (by omega) (by omega) rfl _ _ rfl w.heap.size b F.length cb (ints F) rfl (unhide ho5h) ⟨gg, 0, none⟩ x.length cg (ints x) rfl (by simp) (cells_adds (unhide hcs5h)) (ints_one x) (by omega) hz5 ?_; intro b2 c2 w7 hown7 hg7 hat7; have hown7h := Lib.hid hown7; have hb7 := Lib.hid (hb5h.out.grown hg7 hz5 (fun j e => (ho5h.out.lt j e).1)); clear hown7 hg7 hat7)
      go_roundw
      case rel =>
        refine ⟨k + 1, b2, c2, by omega, by go_num, ?_, ?_, hb7.out⟩
        · rw [htkh.out, List.length_append]
        · rw [htkh.out, List.length_append]
          have e : ints (F ++ x) = ints F ++ ints x := by unfold ints; rw [List.map_append]
          rw [e]; exact hown7h.out
      case measure => simp [intOf]; omega
    · have hkn : k = l.length := by omega
      subst hkn
      rw [List.take_length] at hown
      rw [List.take_length]
      have hph2 := hph.out
      obtain ⟨Fl, hFl⟩ : ∃ Fl, Fl = l.flatten := ⟨_, rfl⟩
      rw [← hFl] at hown hph2 hfl ⊢
      have hph3 := Lib.hid hph2
      clear hFl hph2
      obtain ⟨aa, ca, he, hz, hc, _⟩ := owns_cells hown
      injection he with he1 _ he3
      have hbz : b = none → cb = 0 := fun e => by rw [he3]; exact hz (by rw [← he1]; exact e)
      have hs1 := Lib.hid (sorted_any b _ cb Fl wr rfl (by omega) (by rw [he1]; exact hc) hbz)
      have hbh := Lib.hid hb
      clear hown he1 he3 hz hc hb hbz
      go_wp2_with fail
      refine (unhide hs1).mono ?_
      rintro e w5 ⟨a5, c5, rfl, hown5, _, hb5⟩
      have hbw5 : Hid (Below w.heap.size w w5) := hbh.out.trans (hb5.mono hbh.out.size)
      have hs2 := Lib.hid (sorted_any an _ cn ns w5 rfl (by omega) (hnh.out.below hbw5.out) h0h.out)
      have hown5h := Lib.hid hown5
      clear hown5 hb5 hs1
      go_wp2_with fail
      refine (unhide hs2).mono ?_
      rintro e w6 ⟨a6, c6, rfl, hown6, _, hb6⟩
      have hbw6 : Hid (Below w.heap.size w w6) := hbw5.out.trans (hb6.mono hbw5.out.size)
      have hC : ∀ {W : World} {B e n : Nat} {ad : Option Addr} {cp : Nat} {zs : List Value}, W.ownsRow B e 1 (.slice ad n cp) n zs → Cells W ad zs := fun {W B e n ad cp zs} h => by
        obtain ⟨aa, ca, he, _, hc, _⟩ := owns_cells h
        injection he with he1 _ _
        rw [he1]; exact hc
      have heq := Lib.hid (eqInts_any a5 a6 _ _ c5 c6 (asc Fl) (asc ns) w6 (asc_length _).symm (asc_length _).symm (by rw [asc_length]; omega) (by rw [asc_length]; omega) ((hC hown5h.out).below hb6) (hC hown6))
      rw [hph3.out] at heq
      clear hown6 hb6 hC hs2
      go_wp2_with fail
      refine (unhide heq).mono ?_
      rintro e w7 ⟨rfl, q, hw7⟩
      have hb7 : Hid (Below w.heap.size w w7) := by unfold Hid; rw [hw7]; exact below_draws hbw6.out _
      clear hw7 heq
      go_wp2_with fail
      go_ret
      exact ⟨ret_bool (by simp), hb7.out⟩
end Go.Proofs.YtagnmdhdogaijaaGreat
