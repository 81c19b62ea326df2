/- impl.slots. -/
import Derived.Test.YtagnmdhdogaijaaGreatSorted
import Derived.Handy
import Derived.OwnWalk
namespace Go.Proofs.YtagnmdhdogaijaaGreat
open Go.RowKit

/-- What stands for a component in the order: its node, or none. -/
def topO (c : List Int) : Option Int := if c.length = 1 then some (c.headD 0) else none
def nodeO : Option Int → Value
  | some x => nodev x
  | none => .nilIface
theorem topV_eq (c : List Int) : topV c = nodeO (topO c) := by unfold topV topO; split <;> rfl
theorem topV_map (M : List (List Int)) : (M.map topV).reverse = ((M.map topO).reverse).map nodeO := by
  rw [List.map_reverse, List.map_map]
  congr 1
  exact List.map_congr_left fun c _ => topV_eq c

def slotC : Option Int → List Value
  | some x => [.bool false, .int .i64 x]
  | none => [.bool true, .int .i64 0]
def slotCells (os : List (Option Int)) : List Value := os.flatMap slotC
theorem slotC_length (o : Option Int) : (slotC o).length = 2 := by cases o <;> rfl
theorem slotCells_length (os : List (Option Int)) : (slotCells os).length = os.length * 2 := by
  induction os with
  | nil => rfl
  | cons o os ih =>
    unfold slotCells at ih ⊢
    rw [List.flatMap_cons, List.length_append, ih, slotC_length, List.length_cons]
    omega
theorem slotCells_take {os : List (Option Int)} {k : Nat} (hk : k < os.length) : slotCells (os.take (k + 1)) = slotCells (os.take k) ++ slotC os[k] := by
  unfold slotCells
  rw [List.take_succ_eq_append_getElem hk, List.flatMap_append]
  congr 1
  exact List.flatMap_singleton _ _

theorem info_slot : (Tryz.prog.info? 48).map (fun i => (i.zero, i.size, i.bytes)) = some (some (.agg #[.bool false, .int .i64 0]), 2, 16) := by kernel_rfl
theorem new_two (w : World) (x y : Value) (e : TypeId) : ∀ (j : Nat) u, [x, y][j]? = some u → (w.alloc (.cells #[x, y] e)).cell? ((⟨w.heap.size, 0, none⟩ : Addr).add j) = some u := by
  intro j u hj
  rw [Addr.add_mid, Nat.zero_add]
  rcases j with _ | _ | j
  · simp at hj; subst hj; unfold World.cell?; rw [heap_alloc_new]; rfl
  · simp at hj; subst hj; unfold World.cell?; rw [heap_alloc_new]; rfl
  · simp at hj
theorem one_slot (b : Bool) (x : Int) : ∀ u ∈ [Value.bool b, Value.int .i64 x], u.oneCell' = true := by
  intro u hu
  simp at hu
  rcases hu with rfl | rfl <;> rfl

theorem unord_yes (v : Value) (w : World) : (Instr.typeAssert (.iface 96 v) 63 96 true).run Tryz.prog w = .ok (.tuple #[v, .bool true]) w := by
  simp [Instr.typeAssert, run_underlying Tryz.underlying96]

/-- What slots gives. -/
def SlotsPost (w : World) (os : List (Option Int)) (ls : List (List Int)) (e : Ending) (w' : World) : Prop :=
  ∃ (a1 : Option Addr) (c1 : Nat) (a2 : Option Addr) (c2 : Nat) (vs : List Value), e = .returned (.tuple #[.slice a1 os.length c1, .slice a2 ls.length c2, .bool (decide (ls = []))]) ∧
    w'.ownsRow w.heap.size 48 2 (.slice a1 os.length c1) os.length (slotCells os) ∧ w'.ownsRow w.heap.size 22 1 (.slice a2 ls.length c2) ls.length vs ∧ IRows w' w.heap.size vs ls ∧
    (∀ j ∈ blks vs, (Value.slice a2 ls.length c2).ownBlock ≠ some j) ∧ Below w.heap.size w w'

theorem nodeO_get {os : List (Option Int)} {w : World} {b o : Nat} (hr : w.rangeAt b o (os.map nodeO)) {k : Nat} (hk : k < os.length) : w.cell? ⟨b, o + k, none⟩ = some (nodeO os[k]) :=
  hr k _ (by rw [List.getElem?_map, List.getElem?_eq_getElem hk]; rfl)

theorem IRows.base {w : World} {B B' : Nat} {vs : List Value} {l : List (List Int)} (h : IRows w B vs l) (hB : B' ≤ B) : IRows w B' vs l :=
  ⟨h.1, fun k v c hv hc => owns_base (h.2 k v c hv hc) hB⟩

set_option maxRecDepth 100000 in
set_option maxHeartbeats 2000000 in
theorem slots_any (a : Option Addr) (n c S B : Nat) (os : List (Option Int)) (er : Value) (ls : List (List Int)) (w : World) (hn : n = os.length) (ho : os.length ≤ 1000) (hls : ls.length ≤ 1000) (hll : ∀ k (hk : k < ls.length), ls[k].length ≤ 1000)
    (hc : Cells w a (os.map nodeO)) (he : ErrIs w S B ls er) :
    Calls Tryz.prog 30 #[.slice a n c, er] w (SlotsPost w os ls) := by
  subst hn
  have hch := Lib.hid hc
  have heh := Lib.hid he
  have hllh := Lib.hid hll
  clear hc he hll
  go_enter Tryz.func30, Tryz.ntmps30
  go_wp2
  go_loopw [4, 8, 15] (fun s _ i wr => ∃ (k : Nat) (b : Option Addr) (cb : Nat), k ≤ os.length ∧ i = .int .i64 k ∧ s = .slice b k cb ∧ wr.ownsRow w.heap.size 48 2 (.slice b k cb) k (slotCells (os.take k)) ∧ Below w.heap.size w wr) (fun _ _ i _ => os.length - (intOf i).toNat)
  case atStart => exact ⟨0, none, 0, Nat.zero_le _, rfl, rfl, World.ownsRow_nil _ _ _ _, Below.refl _ _⟩
  case round =>
    obtain ⟨k, b, cb, hk, rfl, rfl, hown, hb⟩ := hrel
    by_cases hlt : k < os.length
    · obtain ⟨nb, no, rfl, _, hr⟩ := (hch.out.below hb).at (by rw [List.length_map]; omega)
      have hnd := nodeO_get hr hlt
      have htk := slotCells_take hlt
      obtain ⟨x, hx⟩ : ∃ x, x = os[k] := ⟨_, rfl⟩
      rw [← hx] at hnd htk
      have hBs := hb.size
      have hso := Lib.hid (fun o => hown.alloc o)
      have hfin := Lib.hid (fun o b2 c2 w2 (h2 : w2.ownsRow w.heap.size 48 2 (.slice b2 (k + 1) c2) (k + 1) (slotCells (os.take k) ++ slotC x)) (hg : (wr.alloc o).grownBy w2 (Value.slice b k cb).ownBlock) =>
        show w2.ownsRow w.heap.size 48 2 (.slice b2 (k + 1) c2) (k + 1) (slotCells (os.take (k + 1))) ∧ Below w.heap.size w w2 from
          ⟨by rw [htk]; exact h2, (hb.alloc hBs o).grown hg (by simp; omega) (fun j e => (hown.lt j e).1)⟩)
      clear hx hr hown hb htk
      rcases x with _ | x
      · unfold nodeO at hnd
        unfold slotC at hfin
        go_wp2_with (at_builtin; refine append_law 35 48 (.agg #[.bool false, .int .i64 0]) 2 16 Tryz.underlying35 info_slot rfl (by omega) (by omega) rfl _ _ rfl w.heap.size b k cb (slotCells (os.take k)) rfl (unhide hso _) ⟨wr.heap.size, 0, none⟩ 1 1 [.bool true, .int .i64 0] rfl rfl (new_two wr _ _ _) (one_slot _ _) (by omega) (by simp; omega) ?_; intro b2 c2 w2 hown2 hg2 hat2; have hf := Lib.hid (unhide hfin _ _ _ _ hown2 hg2); clear hown2 hg2 hat2)
        go_roundw
        case rel => exact ⟨k + 1, b2, c2, by omega, by go_num, rfl, hf.out.1, hf.out.2⟩
        case measure => simp [intOf]; omega
      · unfold nodeO nodev at hnd
        unfold slotC at hfin
        go_wp2_with (first
          | (go_at_call 41; refine (number_any _ _).mono ?_; rintro e w' ⟨rfl, rfl⟩)
          | (at_builtin; refine append_law 35 48 (.agg #[.bool false, .int .i64 0]) 2 16 Tryz.underlying35 info_slot rfl (by omega) (by omega) rfl _ _ rfl w.heap.size b k cb (slotCells (os.take k)) rfl (unhide hso _) ⟨wr.heap.size, 0, none⟩ 1 1 [.bool false, .int .i64 x] rfl rfl (new_two wr _ _ _) (one_slot _ _) (by omega) (by simp; omega) ?_; intro b2 c2 w2 hown2 hg2 hat2; have hf := Lib.hid (unhide hfin _ _ _ _ hown2 hg2); clear hown2 hg2 hat2))
        go_roundw
        case rel => exact ⟨k + 1, b2, c2, by omega, by go_num, rfl, hf.out.1, hf.out.2⟩
        case measure => simp [intOf]; omega
    · have hkn : k = os.length := by omega
      subst hkn
      rw [List.take_length] at hown
      have hwl := hb.size
      rcases heh.out with ⟨rfl, rfl⟩ | ⟨hne, b4, c4, vs4, rfl, ho4, hr4⟩
      · have hfin : Hid (SlotsPost w os [] (.returned (.tuple #[.slice b os.length cb, .slice none 0 0, .bool true])) wr) :=
          ⟨b, cb, none, 0, [], rfl, hown, World.ownsRow_nil _ _ _ _, ⟨rfl, fun k v c hv => by simp at hv⟩, by simp [blks], hb⟩
        clear hown hb
        go_wp2_with fail
        go_ret3
        exact hfin.out
      · obtain ⟨wa, hwa⟩ : ∃ wa, wa = wr := ⟨_, rfl⟩
        subst hwa
        obtain ⟨D, hD⟩ : ∃ D, D = wa.heap.size := ⟨_, rfl⟩
        have hDh := Lib.hid hD
        have hownh := Lib.hid hown
        have hbh := Lib.hid hb
        have hrow : Hid (∀ (j : Nat) (hj : j < ls.length), ∃ g4 ag cg, b4 = some ⟨g4, 0, none⟩ ∧ ∀ W, Below D wa W → W.cell? ⟨g4, j, none⟩ = some (.slice ag ls[j].length cg) ∧ Cells W ag (nodes ls[j])) := fun j hj => by
          have hv : vs4[j]? = some (vs4[j]'(by rw [hr4.1]; exact hj)) := List.getElem?_eq_getElem _
          have hrw := hr4.2 j _ _ hv (List.getElem?_eq_getElem hj)
          obtain ⟨g4, rfl, _⟩ := owns_at ho4 (by omega)
          have hcell := owns_cell ho4 hv
          obtain ⟨ag, cg, e, _, hcs, _⟩ := owns_cells hrw
          rw [e] at hcell
          refine ⟨g4, ag, cg, rfl, fun W hW => ?_⟩
          have hW' : Below wa.heap.size wa W := by rw [← hD]; exact hW
          have hw' : Below w.heap.size w W := hb.trans (hW'.mono hwl)
          exact ⟨cell_below hw' hcell, hcs.below hw'⟩
        have hfalse : decide (ls = []) = false := decide_eq_false hne
        have hta := unord_yes
        clear ho4 hr4 hown hb hD
        go_wp2_with fail
        clear hta
        go_loopw [5, 12, 42] (fun s _ i wr2 => ∃ (k : Nat) (b2 : Option Addr) (cb2 : Nat) (vs2 : List Value), k ≤ ls.length ∧ i = .int .i64 k ∧ s = .slice b2 k cb2 ∧ wr2.ownsRow D 22 1 (.slice b2 k cb2) k vs2 ∧ IRows wr2 D vs2 (ls.take k) ∧
          (∀ j ∈ blks vs2, (Value.slice b2 k cb2).ownBlock ≠ some j) ∧ Below D wa wr2) (fun _ _ i _ => ls.length - (intOf i).toNat)
        case atStart => exact ⟨0, none, 0, [], Nat.zero_le _, rfl, rfl, World.ownsRow_nil _ _ _ _, ⟨rfl, fun k v c hv => by simp at hv⟩, by simp [blks], Below.refl _ _⟩
        case round =>
          obtain ⟨k, b2, cb2, vs2, hk, rfl, rfl, hown2, hir, hdis, hb2⟩ := hrel
          have hsz2 := hb2.size
          by_cases hlt : k < ls.length
          · obtain ⟨g4, ag, cg, rfl, hat⟩ := hrow.out k hlt
            obtain ⟨hcell, hcs⟩ := hat wr hb2
            have hll := hllh.out k hlt
            obtain ⟨cl, hcle⟩ : ∃ cl, cl = ls[k] := ⟨_, rfl⟩
            rw [← hcle] at hcell hcs hll
            have htk : Hid (ls.take (k + 1) = ls.take k ++ [cl]) := by unfold Hid; rw [List.take_succ_eq_append_getElem hlt, hcle]
            have hnum := Lib.hid (numbers_any ag cl.length cg cl wr rfl (by omega) hcs)
            have hDw : D ≤ wr.heap.size := by rw [hDh.out]; exact hsz2
            have hownh2 := Lib.hid hown2
            have hirh := Lib.hid hir
            have hdish := Lib.hid hdis
            have hbh2 := Lib.hid hb2
            clear hcle hcs hown2 hir hdis hb2 hat
            go_wp2_with fail
            refine (unhide hnum).mono ?_
            rintro e w5 ⟨ax, cx, rfl, own5, hb5⟩
            obtain ⟨o6, hD6, hst⟩ := irow_step (o := .cells #[.slice ax cl.length cx] 22) (c := cl) rfl hownh2.out hirh.out hdish.out hb5 own5 (World.grownBy.refl _ _) hDw
            have ho6 := Lib.hid (fun o => o6.alloc o)
            clear own5 hb5 o6 hnum hcell
            go_wp2_with (at_builtin; refine append_law 28 22 (.slice none 0 0) 1 24 Tryz.underlying28 info_irow rfl (by omega) (by omega) rfl _ _ rfl D b2 k cb2 vs2 rfl (ho6.out _) ⟨w5.heap.size, 0, none⟩ 1 1 [.slice ax cl.length cx] rfl rfl (new_one w5 _ _) (one_row _ _ _) (by omega) (by simp; omega) ?_; intro b3 c3 w7 hown7 hg7 hat7; have hq := Lib.hid (hst.out w7 b3 c3 hg7 hown7 hat7); have hown7h := Lib.hid hown7; clear hown7 hg7 hat7 ho6)
            go_roundw
            case rel => exact ⟨k + 1, b3, c3, _, by omega, by go_num, rfl, hown7h.out, by rw [htk.out]; exact hq.out.1, hq.out.2.1, hbh2.out.trans hq.out.2.2⟩
            case measure => simp [intOf]; omega
          · have hkn : k = ls.length := by omega
            subst hkn
            rw [List.take_length] at hir
            have hb2' : Below wa.heap.size wa wr := by rw [← hDh.out]; exact hb2
            have hD0 : w.heap.size ≤ D := by rw [hDh.out]; exact hwl
            have hfin : Hid (SlotsPost w os ls (.returned (.tuple #[.slice b os.length cb, .slice b2 ls.length cb2, .bool false])) wr) :=
              ⟨b, cb, b2, cb2, vs2, by rw [hfalse], owns_same hownh.out fun j hj => hb2'.block j (hownh.out.lt j hj).2, owns_base hown2 hD0, hir.base hD0, hdis, hbh.out.trans (hb2'.mono hwl)⟩
            clear hown2 hir hdis hb2 hb2'
            go_wp2_with fail
            go_ret3
            exact hfin.out
end Go.Proofs.YtagnmdhdogaijaaGreat
