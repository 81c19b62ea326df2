/- The plain law of FnPathStep: no walk. -/
import Derived.Test.YtaolfdmmadfncaaPath
import Derived.Test.YtaolfdmmadfncaaTabs
namespace Go.Proofs.Ytaolfdmmadfncaa

theorem gSucc_mem {g : Gr} (hok : okGraph g = true) {x y : Int} (hx : x ∈ g.nodes) : y ∈ gSucc g x ↔ y ∈ g.nodes ∧ arcB g x y = true := by
  have ht := graph_tabs hok
  have hup : (asc g.nodes).Pairwise (· < ·) := asc_incr (by
    unfold okGraph at hok
    rw [Bool.and_eq_true] at hok
    exact of_decide_eq_true hok.1)
  obtain ⟨hp, hpe⟩ := posOf_mem hup (asc_mem.2 hx)
  have hlen : posOf (asc g.nodes) x < (outsOf g).length := by rw [show (outsOf g).length = (asc g.nodes).length from ht.l1]; exact hp
  have hrow : RowOk (asc g.nodes).length ((outsOf g).getD (posOf (asc g.nodes) x) []) := by
    refine ht.r1 _ ?_
    show (outsOf g).getD _ [] ∈ outsOf g
    simp [hlen]
  unfold gSucc succOf endsOf
  rw [List.mem_map]
  constructor
  · rintro ⟨a, ha, rfl⟩
    have hal := hrow.2 a ha
    have h1 := ht.out (posOf (asc g.nodes) x) a.1 hp hal
    have h2 : arcHas ((outsOf g).getD (posOf (asc g.nodes) x) []) a.1 = true := List.any_eq_true.2 ⟨a, ha, by simp⟩
    have e : (asc g.nodes).getD a.1 0 = (asc g.nodes)[a.1] := by simp [hal]
    rw [e]
    refine ⟨asc_mem.1 (List.getElem_mem _), ?_⟩
    rw [show arcHas ((tabs bitsOf (asc g.nodes) g.dir g.edges).1.getD (posOf (asc g.nodes) x) []) a.1 = true from h2, hpe] at h1
    exact h1.symm
  · rintro ⟨hy, harc⟩
    obtain ⟨hq, hqe⟩ := posOf_mem hup (asc_mem.2 hy)
    have h1 := ht.out (posOf (asc g.nodes) x) (posOf (asc g.nodes) y) hp hq
    rw [hpe, hqe] at h1
    have h2 : arcHas ((outsOf g).getD (posOf (asc g.nodes) x) []) (posOf (asc g.nodes) y) = true := h1.trans harc
    obtain ⟨a, ha, hae⟩ := List.any_eq_true.1 h2
    refine ⟨a, ha, ?_⟩
    have : a.1 = posOf (asc g.nodes) y := by simpa using hae
    rw [this]
    simp [hq, hqe]

/-- What the loop of FnPathStep gathers. -/
noncomputable def wantB (g : Gr) (u v : Int) (k : Nat) : Bool := (g.nodes.take k).any fun y => arcB g u y && pathB (gSucc g) y v

theorem wantB_zero (g : Gr) (u v : Int) : wantB g u v 0 = false := by simp [wantB]
theorem wantB_succ (g : Gr) (u v : Int) (k : Nat) (hk : k < g.nodes.length) : wantB g u v (k + 1) = (wantB g u v k || (arcB g u g.nodes[k] && pathB (gSucc g) g.nodes[k] v)) := by
  unfold wantB
  rw [List.take_succ_eq_append_getElem hk, List.any_append]
  simp

theorem step_law {g : Gr} (hok : okGraph g = true) {u v : Int} (hu : u ∈ g.nodes) (hne : u ≠ v) : pathB (gSucc g) u v = wantB g u v g.nodes.length := by
  rw [Bool.eq_iff_iff, pathB_iff, reach_step hne]
  unfold wantB
  rw [List.take_length, List.any_eq_true]
  constructor
  · rintro ⟨y, hy, hr⟩
    obtain ⟨h1, h2⟩ := (gSucc_mem hok hu).1 hy
    exact ⟨y, h1, by rw [h2, Bool.true_and]; exact pathB_iff.2 hr⟩
  · rintro ⟨y, hy, h⟩
    rw [Bool.and_eq_true] at h
    exact ⟨y, (gSucc_mem hok hu).2 ⟨hy, h.1⟩, pathB_iff.1 h.2⟩

theorem path_self (g : Gr) (v : Int) : pathB (gSucc g) v v = true := pathB_iff.2 .refl
end Go.Proofs.Ytaolfdmmadfncaa
