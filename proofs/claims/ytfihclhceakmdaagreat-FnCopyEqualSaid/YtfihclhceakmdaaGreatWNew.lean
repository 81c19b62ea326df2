/- New simple graphs with weights; the infinity. -/
import Derived.Test.YtfihclhceakmdaaGreatWG
import Derived.Laws.Externs
import Derived.Handy
namespace Go.Proofs.YtfihclhceakmdaaGreat
open Go.RowKit Go.Maps

theorem vmap_block {w : World} {ids : List Int} {j : Nat} (h : w.heap[j]? = some (.map #[] 0)) : VMap w ids j (fun _ => none) := by
  have hj : j < w.heap.size := lt_of_block h
  obtain ⟨D, ⟨es, clock, hb, r⟩, hD⟩ := vmap_new w ids
  rw [heap_alloc_new] at hb
  injection hb with hb
  injection hb with h1 h2
  subst h1; subst h2
  exact ⟨D, ⟨_, _, h, r⟩, hD⟩

/-- Where the parts of a new graph lie. -/
def adNew (dir : Bool) (b : Nat) : WR → Option Nat
  | .nm => some b
  | .em => some (b + 1)
  | .tm => if dir then some (b + 2) else none
  | .us => some (b + if dir then 3 else 2)
  | .fr => some (b + if dir then 4 else 3)
  | .u => some (b + if dir then 5 else 4)
  | .g => some (b + if dir then 6 else 5)
  | .ei _ => none
  | .ti _ => none
def cNew (cg cu : List Value) : WR → Cont
  | .g => .cells cg
  | .u => .cells cu
  | _ => .map fun _ => none

theorem nfun_nil : nfun [] = fun _ => none := by funext x; unfold nfun; simp
theorem mfun_none : mfun (fun _ => none) = fun _ => none := rfl

theorem wg_new {dir : Bool} {w w' : World} {ids : List Int} {t1 t2 : TypeId} (hm : ∀ i, i < (if dir then 5 else 4) → w'.heap[w.heap.size + i]? = some (.map #[] 0))
    (hu : w'.heap[w.heap.size + if dir then 5 else 4]? = some (.cells #[.int .i64 (-1), .map (some (w.heap.size + if dir then 3 else 2)), .map (some (w.heap.size + if dir then 4 else 3))] t1 (0, 0)))
    (hgb : w'.heap[w.heap.size + if dir then 6 else 5]? = some (.cells (gCells dir w.heap.size (w.heap.size + 1) (w.heap.size + 2) (w.heap.size + if dir then 5 else 4)).toArray t2 (0, 0))) :
    ∃ ad c, WG dir w' ids (fun j => w.heap.size ≤ j) ad c (w.heap.size + if dir then 6 else 5) w.heap.size (w.heap.size + 1) (w.heap.size + 2) (w.heap.size + if dir then 5 else 4) (w.heap.size + if dir then 3 else 2) (w.heap.size + if dir then 4 else 3) [] (fun _ _ => none) := by
  obtain ⟨b, hb⟩ : ∃ b, b = w.heap.size := ⟨_, rfl⟩
  rw [← hb] at hm hu hgb ⊢
  refine ⟨adNew dir b, cNew (gCells dir b (b + 1) (b + 2) (b + if dir then 5 else 4)) [.int .i64 (-1), .map (some (b + if dir then 3 else 2)), .map (some (b + if dir then 4 else 3))], ⟨fun r j hr => ?_, fun r j hr => ?_, fun r r' j hr hr' => ?_, fun j hj => ?_⟩, rfl, rfl, rfl, rfl, fun hd => by subst hd; rfl, rfl, rfl, rfl, ⟨-1, by show (Lit.int .i64 (-1)).wf = true; rfl, rfl⟩, ?_, ?_, fun _ => ?_, fun x j h => by simp [adNew] at h, fun _ _ _ => rfl, fun x j h => by simp [adNew] at h, ⟨_, rfl⟩, ⟨_, rfl⟩⟩
  · cases dir <;> cases r <;> simp only [adNew, cNew, if_true, Bool.false_eq_true, if_false, reduceCtorEq, Option.some.injEq] at hr hm hu hgb ⊢ <;> subst hr
    case false.g => exact ⟨_, hgb⟩
    case false.u => exact ⟨_, hu⟩
    case false.nm => exact vmap_block (hm 0 (by omega))
    case false.em => exact vmap_block (hm 1 (by omega))
    case false.us => exact vmap_block (hm 2 (by omega))
    case false.fr => exact vmap_block (hm 3 (by omega))
    case true.g => exact ⟨_, hgb⟩
    case true.u => exact ⟨_, hu⟩
    case true.nm => exact vmap_block (hm 0 (by omega))
    case true.em => exact vmap_block (hm 1 (by omega))
    case true.tm => exact vmap_block (hm 2 (by omega))
    case true.us => exact vmap_block (hm 3 (by omega))
    case true.fr => exact vmap_block (hm 4 (by omega))
  · show b ≤ j
    cases dir <;> cases r <;> simp only [adNew, if_true, Bool.false_eq_true, if_false, reduceCtorEq, Option.some.injEq] at hr <;> omega
  · cases dir <;> cases r <;> simp only [adNew, if_true, Bool.false_eq_true, if_false, reduceCtorEq, Option.some.injEq] at hr <;> cases r' <;> simp only [adNew, if_true, Bool.false_eq_true, if_false, reduceCtorEq, Option.some.injEq] at hr' <;> first | rfl | (exfalso; omega)
  · show b ≤ j
    have := lt_of_block hgb
    omega
  · rw [nfun_nil]; rfl
  · show Cont.map _ = _
    rfl
  · show Cont.map _ = _
    rfl

theorem frombits_run (w : World) : (callFunc 38 #[.int .u64 9218868437227405312]).run Tryz.prog w = .ok (.value (.float .f64 flInf)) w := by
  rw [run_callFunc_extern Tryz.func38 (by kernel_rfl) (by kernel_rfl) (by kernel_rfl) (e := Extern.MathFloatBits.float64frombits) (by kernel_rfl)]
  rfl

theorem inf_any (w : World) : Calls Tryz.prog 19 #[.int .i64 1] w fun e w' => e = .returned (.float .f64 flInf) ∧ w = w' := by
  have h := frombits_run
  go_enter Tryz.func19, Tryz.ntmps19
  go_wp2_with fail
  go_ret
  exact ⟨rfl, rfl⟩

theorem uidNew_any (w : World) : Calls Tryz.prog 37 #[] w fun e w' => e = .returned (.pointer (some ⟨w.heap.size + 2, 0, none⟩)) ∧
    w' = ((w.alloc (.map #[] 0)).alloc (.map #[] 0)).alloc (.cells #[.int .i64 (-1), .map (some w.heap.size), .map (some (w.heap.size + 1))] 133) := by
  have hmm := @run_makeMap Tryz.prog
  go_enter Tryz.func37, Tryz.ntmps37
  go_wp2_with fail
  go_ret
  exact ⟨rfl, rfl⟩

theorem below_allocs (os : List Obj) (w : World) : Below w.heap.size w (os.foldl World.alloc w) := by
  induction os generalizing w with
  | nil => exact Below.refl _ _
  | cons o os ih => exact (alloc_below w o).trans ((ih (w.alloc o)).mono (by simp))
theorem heap_allocs (os : List Obj) (w : World) (i : Nat) : (os.foldl World.alloc w).heap[w.heap.size + i]? = os[i]? := by
  induction os generalizing w i with
  | nil => simp
  | cons o os ih =>
    cases i with
    | zero =>
      show (os.foldl World.alloc (w.alloc o)).heap[w.heap.size]? = some o
      rw [(below_allocs os (w.alloc o)).block _ (by simp)]
      exact heap_alloc_new w o
    | succ i =>
      have := ih (w.alloc o) i
      rw [show (w.alloc o).heap.size + i = w.heap.size + (i + 1) by simp; omega] at this
      rw [List.getElem?_cons_succ]
      exact this

/-- What a new graph is. -/
def NewPost (dir : Bool) (ids : List Int) (w : World) (e : Ending) (w' : World) : Prop :=
  ∃ ad c gb jn je jt ju js jr, e = .returned (.pointer (some ⟨gb, 0, none⟩)) ∧ WG dir w' ids (fun j => w.heap.size ≤ j) ad c gb jn je jt ju js jr [] (fun _ _ => none) ∧ Below w.heap.size w w'

set_option maxHeartbeats 1000000 in
theorem newDir_any (ids : List Int) (w : World) : Calls Tryz.prog 18 #[.float .f64 0, .float .f64 flInf] w (NewPost true ids w) := by
  have hmm := @run_makeMap Tryz.prog
  go_enter Tryz.func18, Tryz.ntmps18
  go_wp2_with (go_at_call 37; refine (uidNew_any _).mono ?_; rintro e w' ⟨rfl, rfl⟩)
  go_ret
  have hh := heap_allocs [.map #[] 0, .map #[] 0, .map #[] 0, .map #[] 0, .map #[] 0, .cells #[.int .i64 (-1), .map (some (w.heap.size + 3)), .map (some (w.heap.size + 4))] 133, .cells (gCells true w.heap.size (w.heap.size + 1) (w.heap.size + 2) (w.heap.size + 5)).toArray 86] w
  have hb := below_allocs [.map #[] 0, .map #[] 0, .map #[] 0, .map #[] 0, .map #[] 0, .cells #[.int .i64 (-1), .map (some (w.heap.size + 3)), .map (some (w.heap.size + 4))] 133, .cells (gCells true w.heap.size (w.heap.size + 1) (w.heap.size + 2) (w.heap.size + 5)).toArray 86] w
  obtain ⟨ad, c, h⟩ := wg_new (dir := true) (w := w) (ids := ids) (t1 := 133) (t2 := 86) (fun i hi => by
    rw [hh i]
    match i, hi with
    | 0, _ => rfl
    | 1, _ => rfl
    | 2, _ => rfl
    | 3, _ => rfl
    | 4, _ => rfl) (hh 5) (hh 6)
  exact ⟨ad, c, _, _, _, _, _, _, _, rfl, h, hb⟩

set_option maxHeartbeats 1000000 in
theorem newUnd_any (ids : List Int) (w : World) : Calls Tryz.prog 23 #[.float .f64 0, .float .f64 flInf] w (NewPost false ids w) := by
  have hmm := @run_makeMap Tryz.prog
  go_enter Tryz.func23, Tryz.ntmps23
  go_wp2_with (go_at_call 37; refine (uidNew_any _).mono ?_; rintro e w' ⟨rfl, rfl⟩)
  go_ret
  have hh := heap_allocs [.map #[] 0, .map #[] 0, .map #[] 0, .map #[] 0, .cells #[.int .i64 (-1), .map (some (w.heap.size + 2)), .map (some (w.heap.size + 3))] 133, .cells (gCells false w.heap.size (w.heap.size + 1) (w.heap.size + 2) (w.heap.size + 4)).toArray 114] w
  have hb := below_allocs [.map #[] 0, .map #[] 0, .map #[] 0, .map #[] 0, .cells #[.int .i64 (-1), .map (some (w.heap.size + 2)), .map (some (w.heap.size + 3))] 133, .cells (gCells false w.heap.size (w.heap.size + 1) (w.heap.size + 2) (w.heap.size + 4)).toArray 114] w
  obtain ⟨ad, c, h⟩ := wg_new (dir := false) (w := w) (ids := ids) (t1 := 133) (t2 := 114) (fun i hi => by
    rw [hh i]
    match i, hi with
    | 0, _ => rfl
    | 1, _ => rfl
    | 2, _ => rfl
    | 3, _ => rfl) (hh 4) (hh 5)
  exact ⟨ad, c, _, _, _, _, _, _, _, rfl, h, hb⟩
end Go.Proofs.YtfihclhceakmdaaGreat
