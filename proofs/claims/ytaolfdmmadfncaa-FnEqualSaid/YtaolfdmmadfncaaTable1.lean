/- The tables of two graphs compared: what FnEqual wants. -/
import Derived.Test.YtaolfdmmadfncaaTable0
import Derived.Test.YtaolfdmmadfncaaEqualLaw
namespace Go.Proofs.Ytaolfdmmadfncaa

/-- The rows of Booleans of a graph. -/
def rowsB (g : Gr) : List (List Bool) := (tableP (asc g.nodes) g.dir g.edges).1

theorem rowB_ext {n : Nat} {s t : List (List Bool)} (hs : Square n s) (ht : Square n t) (i : Nat) (hi : i < n) : s.getD i [] = t.getD i [] ↔ ∀ k, k < n → atB s i k = atB t i k := by
  have h1 : i < s.length := by rw [hs.1]; exact hi
  have h2 : i < t.length := by rw [ht.1]; exact hi
  have e1 : s.getD i [] = s[i] := by simp [h1]
  have e2 : t.getD i [] = t[i] := by simp [h2]
  have l1 : s[i].length = n := hs.2 _ (List.getElem_mem h1)
  have l2 : t[i].length = n := ht.2 _ (List.getElem_mem h2)
  unfold atB
  rw [e1, e2]
  constructor
  · intro h k _; rw [h]
  · intro h
    refine List.ext_getElem (by omega) fun k k1 k2 => ?_
    have := h k (by omega)
    simpa [k1, k2] using this

theorem table_same {a b : Gr} (ha : okGraph a = true) (hb : okGraph b = true) (h : asc a.nodes = asc b.nodes) :
    (∀ k, k < (asc a.nodes).length → (rowsB a).getD k [] = (rowsB b).getD k []) ↔ ∀ x ∈ asc a.nodes, ∀ y ∈ asc a.nodes, arcB a x y = arcB b x y := by
  have hta := graph_table ha
  have htb := graph_table hb
  have sb : Square (asc a.nodes).length (rowsB b) := by rw [h]; exact htb.s1
  have key : ∀ (i k : Nat) (hi : i < (asc a.nodes).length) (hk : k < (asc a.nodes).length), (atB (rowsB a) i k = arcB a (asc a.nodes)[i] (asc a.nodes)[k]) ∧ (atB (rowsB b) i k = arcB b (asc a.nodes)[i] (asc a.nodes)[k]) := by
    intro i k hi hk
    refine ⟨hta.at_ i k hi hk, ?_⟩
    have := htb.at_ i k (by rw [← h]; exact hi) (by rw [← h]; exact hk)
    simp only [← h] at this
    unfold rowsB arcB
    simp only [← h]
    exact this
  constructor
  · intro hr x hx y hy
    obtain ⟨i, hi, rfl⟩ := List.mem_iff_getElem.1 hx
    obtain ⟨k, hk, rfl⟩ := List.mem_iff_getElem.1 hy
    have := (rowB_ext hta.s1 sb i hi).1 (hr i hi) k hk
    have e1 := (key i k hi hk).1
    have e2 := (key i k hi hk).2
    rw [← e1, ← e2]; exact this
  · intro hr i hi
    refine (rowB_ext hta.s1 sb i hi).2 fun k hk => ?_
    rw [show atB (tableP (asc a.nodes) a.dir a.edges).1 i k = _ from (key i k hi hk).1, (key i k hi hk).2]
    exact hr _ (List.getElem_mem _) _ (List.getElem_mem _)
end Go.Proofs.Ytaolfdmmadfncaa
