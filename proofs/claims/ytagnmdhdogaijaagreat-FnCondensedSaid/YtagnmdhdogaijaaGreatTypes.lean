/- The closed facts on element types, and append at each of them, with one bound on lengths. -/
import Derived.Test.YtagnmdhdogaijaaGreatProg
import Derived.Test.YtagnmdhdogaijaaGreatBase
import Derived.KernelRfl
import Derived.Maps.AppendAt
namespace Go.Proofs.YtagnmdhdogaijaaGreat
open Go.RowKit

theorem info_int : (Tryz.prog.info? 3).map (fun i => (i.zero, i.size, i.bytes)) = some (some (.int .i64 0), 1, 8) := by kernel_rfl
theorem info_int64 : (Tryz.prog.info? 2).map (fun i => (i.zero, i.size, i.bytes)) = some (some (.int .i64 0), 1, 8) := by kernel_rfl
theorem info_node : (Tryz.prog.info? 81).map (fun i => (i.zero, i.size, i.bytes)) = some (some .nilIface, 1, 16) := by kernel_rfl
theorem info_arc : (Tryz.prog.info? 172).map (fun i => (i.zero, i.size, i.bytes)) = some (some (.agg #[.int .i64 0, .float .f64 0]), 2, 16) := by kernel_rfl
theorem info_arcs : (Tryz.prog.info? 146).map (fun i => (i.zero, i.size, i.bytes)) = some (some (.slice none 0 0), 1, 24) := by kernel_rfl

section
variable {w : World} {ops : Array Oper} {rest : List Oper} {o : Oper} {a : Act} {Q : Exit → Act → World → Prop}

/-- append at an element type of which the table's row is known. -/
theorem append_law {P : Program} (t e : TypeId) (z : Value) (size bytes : Nat) (ht : P.underlying t = some (.slice e)) (hi : (P.info? e).map (fun i => (i.zero, i.size, i.bytes)) = some (some z, size, bytes))
    (hzs : z.cells.size = size) (hsz : 0 < size) (hby : bytes ≤ 64)
    (hgd : o.guard = none) (s x : Operand) (ho : o.op = .call { callee := .builtin .append, args := #[s, x], argTypes := #[t, t] })
    (base : Nat) (b : Option Addr) (n cap : Nat) (xs : List Value) (hs : a.eval s = .slice b n cap) (hown : w.ownsRow base e size (.slice b n cap) n xs)
    (ad : Addr) (m c : Nat) (news : List Value) (hx : a.eval x = .slice (some ad) m c) (hl : news.length = m * size)
    (hnews : ∀ j u, news[j]? = some u → w.cell? (ad.add j) = some u) (h1 : ∀ u ∈ news, u.oneCell' = true)
    (hn : n + m ≤ 2097152) (hbase : base ≤ w.heap.size)
    (h : ∀ b' cap' w', w'.ownsRow base e size (.slice b' (n + m) cap') (n + m) (xs ++ news) → w.grownBy w' (Value.slice b n cap).ownBlock → (b' = b ∨ b' = some ⟨w.heap.size, 0, none⟩) →
      wpList P ops Q rest (a.put o.dst (.slice b' (n + m) cap')) w') : wpList P ops Q (o :: rest) a w := by
  obtain ⟨i0, hi0, hz0, hz1, hz2⟩ := info_parts hi
  refine wpList_append_own_at w hgd s x t ho base e i0 z size bytes ht hi0 hz0 hz1 hz2 hzs hsz (.slice b n cap) n xs hs hown ad m c news hx hl hnews h1 (by unfold maxLen; omega) ?_ hbase fun v' w' h2 h3 _ h5 => ?_
  · have := Nat.mul_le_mul hn hby
    omega
  · obtain ⟨b', cap', hv, _, _, _⟩ := owns_cells h2
    subst hv
    refine h b' cap' w' h2 h3 ?_
    rcases owns_head hown with hb | ⟨g, hb⟩
    · subst hb
      rcases owns_head h2 with hb' | ⟨g', hb'⟩
      · subst hb'; exact .inl rfl
      · subst hb'
        rcases h5 with h5 | h5
        · simp [Value.ownBlock] at h5
        · simp only [Value.ownBlock, Option.some.injEq] at h5
          subst h5; exact .inr rfl
    · subst hb
      rcases owns_head h2 with hb' | ⟨g', hb'⟩
      · subst hb'
        rcases h5 with h5 | h5 <;> simp [Value.ownBlock] at h5
      · subst hb'
        rcases h5 with h5 | h5
        · simp only [Value.ownBlock, Option.some.injEq] at h5
          subst h5; exact .inl rfl
        · simp only [Value.ownBlock, Option.some.injEq] at h5
          subst h5; exact .inr rfl
end
end Go.Proofs.YtagnmdhdogaijaaGreat
