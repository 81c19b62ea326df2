/- 'for k, v := range m' over a map by numbers of nodes, in an order that nobody knows: the keys met so far. -/
import Derived.Test.YtgkimjjodhnmiaaGreatVMap
import Derived.Maps.RangeWalk
namespace Go.Proofs.YtgkimjjodhnmiaaGreat
open Go.RowKit Go.Maps

/-- Block r goes over map mb, which reads as f; done: the keys met so far. -/
def VRange (w : World) (ids : List Int) (mb r : Nat) (f : Int → Option Value) (done : List Int) : Prop :=
  ∃ (n : Nat) (D : DataW Value) (left : Lit → Bool) (cnt : Nat), w.ranges Tryz.prog 2 heldElem mb r n D left cnt ∧ n ≤ ids.length ∧ (∀ l, Maps.has D l = true → ∃ x ∈ ids, l = .int .i64 x) ∧ (∀ x, saysOf D x (f x)) ∧
    (∀ x : Int, left (.int .i64 x) = (Maps.has D (.int .i64 x) && !decide (x ∈ done))) ∧ (∀ l, left l = true → Maps.has D l = true) ∧ done.Nodup ∧ ∀ x ∈ done, f x ≠ none

theorem saysOf_has {D : DataW Value} {x : Int} {o : Option Value} (h : saysOf D x o) : Maps.has D (.int .i64 x) = o.isSome := by
  cases o with
  | none => exact h
  | some v => exact h.1

section
variable {w w' : World} {ids : List Int} {mb r : Nat} {f : Int → Option Value} {done : List Int}

theorem VRange.map (h : VRange w ids mb r f done) : VMap w ids mb f := by
  obtain ⟨n, D, left, cnt, hr, hn, hk, hs, _⟩ := h
  exact ⟨D, hr.owns.mono hn, hk, hs⟩
theorem VRange.kept {row : Option Nat} (h : VRange w ids mb r f done) (hg : w.grownBy w' row) (h1 : row ≠ some mb) (h2 : row ≠ some r) : VRange w' ids mb r f done := by
  obtain ⟨n, D, left, cnt, hr, rest⟩ := h
  exact ⟨n, D, left, cnt, hr.kept hg (fun e => h1 e.symm) (fun e => h2 e.symm), rest⟩
theorem VRange.lt (h : VRange w ids mb r f done) : mb < w.heap.size ∧ r < w.heap.size ∧ r ≠ mb := by
  obtain ⟨n, D, left, cnt, hr, _⟩ := h
  exact ⟨hr.owns.lt, hr.lt, hr.ne⟩
theorem VRange.sub (h : VRange w ids mb r f done) : ∀ x ∈ done, x ∈ ids := by
  obtain ⟨n, D, left, cnt, hr, hn, hk, hs, h1, h2, h3, h4⟩ := h
  intro x hx
  have hf := h4 x hx
  have := saysOf_has (hs x)
  cases e : f x with
  | none => exact absurd e hf
  | some v =>
    rw [e] at this
    obtain ⟨y, hy, e2⟩ := hk _ this
    injection e2 with _ e2
    rw [e2]; exact hy
theorem VRange.len (h : VRange w ids mb r f done) : done.length ≤ ids.length := by
  have h1 := h.sub
  obtain ⟨n, D, left, cnt, hr, hn, hk, hs, _, _, h3, _⟩ := h
  exact nodup_len h3 h1
end

theorem vrange_start {w0 : World} {ids : List Int} {mb r n : Nat} {D : DataW Value} {f : Int → Option Value} (hk : ∀ l, Maps.has D l = true → ∃ x ∈ ids, l = .int .i64 x) (hs : ∀ x, saysOf D x (f x)) (hn : n ≤ ids.length)
    (h : w0.ranges Tryz.prog 2 heldElem mb r n D (Maps.has D) (Maps.size D)) : VRange w0 ids mb r f [] :=
  ⟨n, D, _, _, h, hn, hk, hs, fun x => by simp, fun _ h => h, List.nodup_nil, by simp⟩

section
variable {w : World} {ops : Array Oper} {rest : List Oper} {o : Oper} {a : Act} {Q : Exit → Act → World → Prop}

/-- 'range m'. -/
theorem wpList_vrange (hg : o.guard = none) (m : Operand) (t e : TypeId) (hop : o.op = Op.range t m) (ht : Tryz.prog.underlying t = some (.map 2 e)) {ids : List Int} {mb : Nat} {f : Int → Option Value}
    (hm : a.eval m = .map (some mb)) (h : VMap w ids mb f)
    (hK : ∀ w', VRange w' ids mb w.heap.size f [] → w.grownBy w' none → w'.heap.size = w.heap.size + 1 → wpList Tryz.prog ops Q rest (a.put o.dst (.pointer (some ⟨w.heap.size, 0, none⟩))) w') :
    wpList Tryz.prog ops Q (o :: rest) a w := by
  obtain ⟨D, hown, hk, hs⟩ := h
  exact wpList_range_own w hg m t hop 2 e keyed64 ht heldElem mb ids.length D hm hown fun w' h1 h2 h3 => hK w' (vrange_start hk hs (Nat.le_refl _) h1) h2 h3

/-- The step. -/
theorem wpList_vnext (hg : o.guard = none) (it : Operand) (hop : o.op = Op.next it false) {ids : List Int} {mb r : Nat} {f : Int → Option Value} {done : List Int}
    (hit : a.eval it = .pointer (some ⟨r, 0, none⟩)) (h : VRange w ids mb r f done)
    (hDone : (∀ x, f x ≠ none → x ∈ done) → wpList Tryz.prog ops Q rest (a.put o.dst (.tuple #[.bool false])) w)
    (hMore : ∀ (x : Int) (v : Value) (w' : World), f x = some v → x ∉ done → x ∈ ids → In64 x → VRange w' ids mb r f (done ++ [x]) → w.grownBy w' (some r) → w'.heap.size = w.heap.size →
      (Instr.entry (.pointer (some ⟨r, 0, none⟩))).run Tryz.prog w' = .ok (.tuple #[.int .i64 x, v]) w' → wpList Tryz.prog ops Q rest (a.put o.dst (.tuple #[.bool true, .int .i64 x, v])) w') :
    wpList Tryz.prog ops Q (o :: rest) a w := by
  obtain ⟨n, D, left, cnt, hr, hn, hk, hs, h1, h2, h3, h4⟩ := h
  refine wpList_next_ranges w hg it hop 2 keyed64 heldElem (fun x : Int => Value.int .i64 x) (fun v : Value => v) (fun key kl hkey => by obtain ⟨x, rfl, _⟩ := Maps.keyOf_int_inv Tryz.underlying2 hkey; exact ⟨x, rfl⟩) (fun v y _ => ⟨v, rfl⟩) mb r n D left cnt hit hr ?_ ?_
  · intro _ hl0
    refine hDone fun x hx => ?_
    have e1 := h1 x
    rw [hl0] at e1
    have e2 := saysOf_has (hs x)
    have e3 : (f x).isSome = true := by
      cases e : f x with
      | none => exact absurd e hx
      | some v => rfl
    rw [e2, e3] at e1
    simpa using e1
  · intro x v kl y w' cnt' hkey hlk hv hat hrg hlt hgr hsz hen
    obtain ⟨x', ex, rfl, hwx⟩ := Maps.keyOf_int_inv Tryz.underlying2 hkey
    cases ex
    have e1 := h1 x
    rw [hlk] at e1
    have e1' := e1.symm
    rw [Bool.and_eq_true] at e1'
    have hxd : x ∉ done := by simpa using e1'.2
    have e2 := saysOf_has (hs x)
    rw [e1'.1] at e2
    cases e : f x with
    | none => rw [e] at e2; cases e2
    | some u =>
      have hsx := hs x
      rw [e] at hsx
      have hy := heldElem_inv (v := v) (d := y.1) (ps := y.2) hv
      have h5 := hat (.held v)
      rw [hsx.2 (.held v)] at h5
      rw [hy] at h5
      injection h5 with h5
      subst h5
      obtain ⟨z, hz, ez⟩ := hk _ e1'.1
      injection ez with _ ez
      refine hMore x u w' e hxd (by rw [ez]; exact hz) hwx ⟨n, D, _, cnt', hrg, hn, hk, hs, fun z => ?_, fun l hl => h2 l (by rw [Bool.and_eq_true] at hl; exact hl.1), ?_, fun z hz => ?_⟩ hgr hsz hen
      · rw [h1 z]
        by_cases ezx : z = x
        · subst ezx
          simp [Lit.sameKey]
        · have : (Lit.int .i64 z).sameKey (.int .i64 x) = false := by simp [Lit.sameKey, ezx]
          rw [this]
          simp [ezx]
      · rw [List.nodup_append]
        exact ⟨h3, by simp, fun a ha b hb => by rw [List.mem_singleton] at hb; rw [hb]; exact fun e => hxd (by rw [← e]; exact ha)⟩
      · rcases List.mem_append.1 hz with hz | hz
        · exact h4 z hz
        · rw [List.mem_singleton] at hz
          rw [hz, e]; simp
end
end Go.Proofs.YtgkimjjodhnmiaaGreat
