/- The closure that tells successors; the tables of Tarjan as they are made; the loop over all nodes, plain. -/
import Derived.Test.YtagnmdhdogaijaaGreatSucc
import Derived.Test.YtagnmdhdogaijaaGreatTarjan0
import Derived.Deep.RegionHeld3
import Derived.Deep.DeepCutAuto
namespace Go.Proofs.YtagnmdhdogaijaaGreat
open Go.RowKit

set_option maxHeartbeats 1000000 in
theorem succClo_any (gb pb : Nat) (ids : List Int) (outs ins : List (List Arc)) (x : Int) (W : World) (hids : ids.length ≤ 1000) (hg : W.cell? ⟨gb, 0, none⟩ = some (.iface 53 (.agg #[.pointer (some ⟨pb, 0, none⟩)]))) (hp : PlainAt W pb ids outs ins) (hx : x ∈ ids) :
    Calls Tryz.prog 65 #[.int .i64 x, .pointer (some ⟨gb, 0, none⟩)] W
      fun e w' => ∃ a c, e = .returned (.slice a (succOf ids outs x).length c) ∧ w'.ownsRow W.heap.size 81 1 (.slice a (succOf ids outs x).length c) (succOf ids outs x).length (nodes (succOf ids outs x)) ∧ Below W.heap.size W w' := by
  have hfrom := Lib.hid (fromDir_any pb ids outs ins x W (by omega) hp hx)
  have hl := succ_len hp x
  have hb : Hid (succOf ids outs x = endsOf ids (outs.getD (posOf ids x) [])) := rfl
  clear hp hx
  go_enter Tryz.func65, Tryz.ntmps65
  go_wp2_with (go_at_call 148; refine (unhide hfrom).mono ?_; rintro e w1 ⟨ib, rfl, hit, hb1⟩)
  rw [← hb.out] at hit
  have hno := Lib.hid (nodesOf_any W.heap.size w1.heap.size ib (succOf ids outs x) w1 (by omega) hit)
  have hib : W.heap.size ≤ ib := hit.1
  have hb1h := Lib.hid hb1
  clear hit hb1 hfrom
  refine (unhide hno).mono ?_
  rintro e w2 ⟨a, c, rfl, hown, _, hg2⟩
  have hfin : Hid (Below W.heap.size W w2) := hb1h.out.grown hg2 hb1h.out.size (fun k hk => by injection hk with hk; omega)
  have hownh := Lib.hid hown
  clear hno hown hg2
  go_wp2_with fail
  go_ret
  exact ⟨a, c, rfl, hownh.out, hfin.out⟩

theorem succOf_ids {w : World} {pb : Nat} {ids : List Int} {outs ins : List (List Arc)} (h : PlainAt w pb ids outs ins) : ∀ x ∈ ids, ∀ y ∈ succOf ids outs x, y ∈ ids := fun x _ => succ_mem h x

/-- Tarjan's state as it is made. -/
theorem tar_new {w : World} {ids : List Int} {A tb m1 m2 m3 : Nat} {fn : Value} (h0 : w.heap[tb]? = some (.cells #[fn, .int .i64 0, .map (some m1), .map (some m2), .map (some m3), .slice none 0 0, .slice none 0 0] 122 (0, 0)))
    (h1 : w.heap[m1]? = some (.map #[] 0)) (h2 : w.heap[m2]? = some (.map #[] 0)) (h3 : w.heap[m3]? = some (.map #[] 0)) (ht : A ≤ tb) (l1 : A ≤ m1) (l2 : A ≤ m2) (l3 : A ≤ m3) (n1 : m1 ≠ m2) (n2 : m1 ≠ m3) (n3 : m2 ≠ m3) :
    TarAt w ids A w.heap.size tb m1 m2 m3 fn tStart.tm (.slice none 0 0) (.slice none 0 0) [] := by
  have k0 := lt_of_block h0
  have hm : ∀ m, w.heap[m]? = some (.map #[] 0) → m < w.heap.size := fun m hm => (Array.getElem?_eq_some_iff.1 hm).1
  have hne : ∀ m, w.heap[m]? = some (.map #[] 0) → tb ≠ m := fun m hm e => by rw [← e, h0] at hm; cases hm
  have hmap : ∀ m, w.heap[m]? = some (.map #[] 0) → IMapAt w ids m (fun _ => 0) := fun m hm => by
    obtain ⟨D, ⟨es, clock, hb, r⟩, hD⟩ := imap_new w ids
    have e := (MapKept.heap_alloc w (.map #[] 0)).1
    exact ⟨D, ⟨es, clock, hm.trans (e.symm.trans hb), r⟩, hD⟩
  have hset : ISetAt w ids m3 [] := by
    obtain ⟨D, ⟨es, clock, hb, r⟩, hD⟩ := iset_new w ids
    have e := (MapKept.heap_alloc w (.map #[] 0)).1
    exact ⟨D, ⟨es, clock, h3.trans (e.symm.trans hb), r⟩, hD⟩
  have q1 := hm m1 h1
  have q2 := hm m2 h2
  have q3 := hm m3 h3
  exact ⟨h0, hmap m1 h1, hmap m2 h2, hset, World.ownsRow_nil _ _ _ _, World.ownsRow_nil _ _ _ _, ⟨rfl, fun k v c hv => by simp at hv⟩, ⟨k0, q1, q2, q3, Nat.le_refl _⟩, ⟨ht, l1, l2, l3, by omega⟩, ⟨hne m1 h1, hne m2 h2, hne m3 h3, n1, n2, n3⟩, by simp [Value.ownBlock], by simp [blks], by simp [blks]⟩

theorem tAll_succ (succ : Int → List Int) (f : Nat) (l : List Int) {k : Nat} (hk : k < l.length) : tAll succ f (l.take (k + 1)) tStart = if (tAll succ f (l.take k) tStart).idx l[k] = 0 then sc succ f (tAll succ f (l.take k) tStart) l[k] else tAll succ f (l.take k) tStart := by
  unfold tAll
  rw [List.take_succ_eq_append_getElem hk, List.foldl_append]; rfl

theorem tAll_part {ids : List Int} {succ : Int → List Int} (hs : ∀ x ∈ ids, ∀ y ∈ succ x, y ∈ ids) (k : Nat) : TInv ids succ (tAll succ ids.length (ids.take k) tStart) ∧ (tAll succ ids.length (ids.take k) tStart).stack = [] := by
  obtain ⟨a, b, _⟩ := tAll_inv hs (ids.take k) (fun x hx => List.mem_of_mem_take hx) tStart (tStart_inv ids succ) rfl
  exact ⟨a, b⟩

/-- Four new blocks and a draw. -/
theorem four_new (w : World) (a b c d : Obj) : ((((w.alloc a).alloc b).alloc c).alloc d).drew.heap[w.heap.size]? = some a ∧ ((((w.alloc a).alloc b).alloc c).alloc d).drew.heap[w.heap.size + 1]? = some b ∧
    ((((w.alloc a).alloc b).alloc c).alloc d).drew.heap[w.heap.size + 1 + 1]? = some c ∧ ((((w.alloc a).alloc b).alloc c).alloc d).drew.heap[w.heap.size + 1 + 1 + 1]? = some d ∧ Below w.heap.size w ((((w.alloc a).alloc b).alloc c).alloc d).drew := by
  have e : ∀ (v : World) (o : Obj), (v.alloc o).heap.size = v.heap.size + 1 := fun v o => by simp
  have n1 := heap_alloc_new w a
  have n2 := heap_alloc_new (w.alloc a) b
  have n3 := heap_alloc_new ((w.alloc a).alloc b) c
  have n4 := heap_alloc_new (((w.alloc a).alloc b).alloc c) d
  simp only [e] at n2 n3 n4
  refine ⟨?_, ?_, ?_, n4, ((((Below.refl _ _).alloc (Nat.le_refl _) a).alloc (by simp) b).alloc (by simp; omega) c).alloc (by simp; omega) d |>.drew⟩
  · show ((((w.alloc a).alloc b).alloc c).alloc d).heap[w.heap.size]? = _
    rw [Below.heap_alloc _ _ _ (by simp only [e]; omega), Below.heap_alloc _ _ _ (by simp only [e]; omega), Below.heap_alloc _ _ _ (by simp only [e]; omega)]; exact n1
  · show ((((w.alloc a).alloc b).alloc c).alloc d).heap[w.heap.size + 1]? = _
    rw [Below.heap_alloc _ _ _ (by simp only [e]; omega), Below.heap_alloc _ _ _ (by simp only [e]; omega)]; exact n2
  · show ((((w.alloc a).alloc b).alloc c).alloc d).heap[w.heap.size + 1 + 1]? = _
    rw [Below.heap_alloc _ _ _ (by simp only [e]; omega)]; exact n3
end Go.Proofs.YtagnmdhdogaijaaGreat
