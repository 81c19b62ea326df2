/- A simple graph with weights (of either kind) in memory: the map of its nodes, the map of maps of its edges, the numbers in use. -/
import Derived.Test.YtfihclhceakmdaaGreatRoles
import Derived.Test.YtfihclhceakmdaaGreatVRange
import Derived.Test.YtfihclhceakmdaaGreatIter
import Derived.Test.YtfihclhceakmdaaGreatFl
namespace Go.Proofs.YtfihclhceakmdaaGreat
open Go.RowKit Go.Maps

/-- Its parts. -/
inductive WR
  | g | u | nm | em | tm | us | fr
  | ei (x : Int)
  | ti (x : Int)

def gCells (dir : Bool) (jn je jt ju : Nat) : List Value :=
  if dir then [.map (some jn), .map (some je), .map (some jt), .float .f64 0, .float .f64 flInf, .pointer (some ⟨ju, 0, none⟩)]
  else [.map (some jn), .map (some je), .float .f64 0, .float .f64 flInf, .pointer (some ⟨ju, 0, none⟩)]

/-- The nodes' map, as a function. -/
def nfun (N : List Int) : Int → Option Value := fun x => if x ∈ N then some (nodev x) else none
/-- A map of maps, as a function. -/
def mfun (b : Int → Option Nat) : Int → Option Value := fun x => (b x).map fun j => .map (some j)

structure WG (dir : Bool) (w : World) (ids : List Int) (B : Nat → Prop) (ad : WR → Option Nat) (c : WR → Cont) (gb jn je jt ju js jr : Nat) (N : List Int) (F : Int → Int → Option Value) : Prop where
  R : Roles w ids B ad c
  ag : ad .g = some gb
  au : ad .u = some ju
  an : ad .nm = some jn
  ae : ad .em = some je
  at_ : dir = true → ad .tm = some jt
  as_ : ad .us = some js
  ar : ad .fr = some jr
  cg : c .g = .cells (gCells dir jn je jt ju)
  cu : ∃ m : Int, In64 m ∧ c .u = .cells [.int .i64 m, .map (some js), .map (some jr)]
  cn : c .nm = .map (nfun N)
  ce : c .em = .map (mfun fun x => ad (.ei x))
  ct : dir = true → c .tm = .map (mfun fun x => ad (.ti x))
  ei : ∀ x j, ad (.ei x) = some j → c (.ei x) = .map (F x)
  en : ∀ x, ad (.ei x) = none → ∀ y, F x y = none
  ti : ∀ x j, ad (.ti x) = some j → ∃ f, c (.ti x) = .map f
  cs : ∃ f, c .us = .map f
  cr : ∃ f, c .fr = .map f

/-- F, but v from x to y. -/
def updE (F : Int → Int → Option Value) (x y : Int) (v : Value) : Int → Int → Option Value := fun a => if a = x then updV (F a) y (some v) else F a
theorem updE_at (F : Int → Int → Option Value) (x y a b : Int) (v : Value) : updE F x y v a b = if a = x ∧ b = y then some v else F a b := by
  unfold updE updV
  by_cases h : a = x
  · by_cases h2 : b = y
    · simp [h, h2]
    · simp [h, h2]
  · simp [h]

section
variable {dir : Bool} {w w' : World} {ids : List Int} {B : Nat → Prop} {ad : WR → Option Nat} {c : WR → Cont} {gb jn je jt ju js jr : Nat} {N : List Int} {F : Int → Int → Option Value}

theorem WG.grown (h : WG dir w ids B ad c gb jn je jt ju js jr N F) (hg : w.grownBy w' none) : WG dir w' ids B ad c gb jn je jt ju js jr N F :=
  { h with R := h.R.grown hg }
theorem WG.below (h : WG dir w ids B ad c gb jn je jt ju js jr N F) (hb : Below w.heap.size w w') : WG dir w' ids B ad c gb jn je jt ju js jr N F :=
  { h with R := h.R.below hb }
theorem WG.far (h : WG dir w ids B ad c gb jn je jt ju js jr N F) {row : Option Nat} (hg : w.grownBy w' row) (hn : ∀ r j, ad r = some j → row ≠ some j) : WG dir w' ids B ad c gb jn je jt ju js jr N F :=
  { h with R := h.R.far hg hn }

theorem WG.zone (h : WG dir w ids B ad c gb jn je jt ju js jr N F) {B' : Nat → Prop} (hl : ∀ r j, ad r = some j → B' j) (hn : ∀ j, w.heap.size ≤ j → B' j) : WG dir w ids B' ad c gb jn je jt ju js jr N F :=
  { h with R := h.R.zone hl hn }

theorem WG.cell (h : WG dir w ids B ad c gb jn je jt ju js jr N F) {k : Nat} {v : Value} (hv : (gCells dir jn je jt ju)[k]? = some v) : w.cell? ⟨gb, k, none⟩ = some v := h.R.cell h.ag h.cg hv
theorem WG.nmap (h : WG dir w ids B ad c gb jn je jt ju js jr N F) : VMap w ids jn (nfun N) := h.R.map h.an h.cn
theorem WG.emap (h : WG dir w ids B ad c gb jn je jt ju js jr N F) : VMap w ids je (mfun fun x => ad (.ei x)) := h.R.map h.ae h.ce
theorem WG.tmap (h : WG dir w ids B ad c gb jn je jt ju js jr N F) (hd : dir = true) : VMap w ids jt (mfun fun x => ad (.ti x)) := h.R.map (h.at_ hd) (h.ct hd)
theorem WG.imap (h : WG dir w ids B ad c gb jn je jt ju js jr N F) {x : Int} {j : Nat} (hx : ad (.ei x) = some j) : VMap w ids j (F x) := h.R.map hx (h.ei x j hx)

/-- What is turned stands neither in a map nor in a block that the graph's parts name. -/
theorem WG.turnN (h : WG dir w ids B ad c gb jn je jt ju js jr N F) (hg : w.grownBy w' (some jn)) {M : List Int} (hm : VMap w' ids jn (nfun M)) : WG dir w' ids B ad (updR c .nm (.map (nfun M))) gb jn je jt ju js jr M F := by
  have o : ∀ r, r ≠ WR.nm → updR c .nm (.map (nfun M)) r = c r := fun r hr => updR_other _ _ hr
  refine { h with R := h.R.turn h.an hg hm, cg := ?_, cu := ?_, cn := updR_self _ _ _, ce := ?_, ct := ?_, ei := fun x j hx => ?_, ti := fun x j hx => ?_, cs := ?_, cr := ?_ }
  · rw [o _ (by simp)]; exact h.cg
  · rw [o _ (by simp)]; exact h.cu
  · rw [o _ (by simp)]; exact h.ce
  · rw [o _ (by simp)]; exact h.ct
  · rw [o _ (by simp)]; exact h.ei x j hx
  · rw [o _ (by simp)]; exact h.ti x j hx
  · rw [o _ (by simp)]; exact h.cs
  · rw [o _ (by simp)]; exact h.cr

theorem WG.turnS (h : WG dir w ids B ad c gb jn je jt ju js jr N F) (hg : w.grownBy w' (some js)) {f : Int → Option Value} (hm : VMap w' ids js f) : WG dir w' ids B ad (updR c .us (.map f)) gb jn je jt ju js jr N F := by
  have o : ∀ r, r ≠ WR.us → updR c .us (.map f) r = c r := fun r hr => updR_other _ _ hr
  refine { h with R := h.R.turn h.as_ hg hm, cg := ?_, cu := ?_, cn := ?_, ce := ?_, ct := ?_, ei := fun x j hx => ?_, ti := fun x j hx => ?_, cs := ⟨f, updR_self _ _ _⟩, cr := ?_ }
  · rw [o _ (by simp)]; exact h.cg
  · rw [o _ (by simp)]; exact h.cu
  · rw [o _ (by simp)]; exact h.cn
  · rw [o _ (by simp)]; exact h.ce
  · rw [o _ (by simp)]; exact h.ct
  · rw [o _ (by simp)]; exact h.ei x j hx
  · rw [o _ (by simp)]; exact h.ti x j hx
  · rw [o _ (by simp)]; exact h.cr

theorem WG.turnR (h : WG dir w ids B ad c gb jn je jt ju js jr N F) (hg : w.grownBy w' (some jr)) {f : Int → Option Value} (hm : VMap w' ids jr f) : WG dir w' ids B ad (updR c .fr (.map f)) gb jn je jt ju js jr N F := by
  have o : ∀ r, r ≠ WR.fr → updR c .fr (.map f) r = c r := fun r hr => updR_other _ _ hr
  refine { h with R := h.R.turn h.ar hg hm, cg := ?_, cu := ?_, cn := ?_, ce := ?_, ct := ?_, ei := fun x j hx => ?_, ti := fun x j hx => ?_, cs := ?_, cr := ⟨f, updR_self _ _ _⟩ }
  · rw [o _ (by simp)]; exact h.cg
  · rw [o _ (by simp)]; exact h.cu
  · rw [o _ (by simp)]; exact h.cn
  · rw [o _ (by simp)]; exact h.ce
  · rw [o _ (by simp)]; exact h.ct
  · rw [o _ (by simp)]; exact h.ei x j hx
  · rw [o _ (by simp)]; exact h.ti x j hx
  · rw [o _ (by simp)]; exact h.cs

/-- The greatest number in use. -/
theorem WG.max (h : WG dir w ids B ad c gb jn je jt ju js jr N F) : ∃ m : Int, In64 m ∧ w.cell? ⟨ju, 0, none⟩ = some (.int .i64 m) ∧ w.cell? ⟨ju, 1, none⟩ = some (.map (some js)) ∧ w.cell? ⟨ju, 2, none⟩ = some (.map (some jr)) ∧ w.frozen? ⟨ju, 0, none⟩ = false := by
  obtain ⟨m, h1, h2⟩ := h.cu
  exact ⟨m, h1, h.R.cell h.au h2 rfl, h.R.cell h.au h2 rfl, h.R.cell h.au h2 rfl, h.R.free h.au h2 0⟩
theorem WG.setM (h : WG dir w ids B ad c gb jn je jt ju js jr N F) {x : Int} (hx : In64 x) : ∃ c', WG dir (w.setCell ⟨ju, 0, none⟩ (.int .i64 x)) ids B ad c' gb jn je jt ju js jr N F := by
  obtain ⟨m, h1, h2⟩ := h.cu
  have o : ∀ r, r ≠ WR.u → updR c .u (.cells [.int .i64 x, .map (some js), .map (some jr)]) r = c r := fun r hr => updR_other _ _ hr
  refine ⟨updR c .u (.cells [.int .i64 x, .map (some js), .map (some jr)]), { h with R := h.R.setCell h.au h2 _, cg := ?_, cu := ⟨x, hx, updR_self _ _ _⟩, cn := ?_, ce := ?_, ct := ?_, ei := fun y j hy => ?_, ti := fun y j hy => ?_, cs := ?_, cr := ?_ }⟩
  · rw [o _ (by simp)]; exact h.cg
  · rw [o _ (by simp)]; exact h.cn
  · rw [o _ (by simp)]; exact h.ce
  · rw [o _ (by simp)]; exact h.ct
  · rw [o _ (by simp)]; exact h.ei y j hy
  · rw [o _ (by simp)]; exact h.ti y j hy
  · rw [o _ (by simp)]; exact h.cs
  · rw [o _ (by simp)]; exact h.cr

/-- An edge more, from a node that has some. -/
theorem WG.putE (h : WG dir w ids B ad c gb jn je jt ju js jr N F) {x y : Int} {j : Nat} {v : Value} (hx : ad (.ei x) = some j) (hg : w.grownBy w' (some j)) (hm : VMap w' ids j (updV (F x) y (some v))) :
    ∃ c', WG dir w' ids B ad c' gb jn je jt ju js jr N (updE F x y v) := by
  have o : ∀ r, r ≠ WR.ei x → updR c (.ei x) (.map (updV (F x) y (some v))) r = c r := fun r hr => updR_other _ _ hr
  refine ⟨updR c (.ei x) (.map (updV (F x) y (some v))), { h with R := h.R.turn hx hg hm, cg := ?_, cu := ?_, cn := ?_, ce := ?_, ct := ?_, ei := fun z i hz => ?_, en := fun z hz b => ?_, ti := fun z i hz => ?_, cs := ?_, cr := ?_ }⟩
  · rw [o _ (by simp)]; exact h.cg
  · rw [o _ (by simp)]; exact h.cu
  · rw [o _ (by simp)]; exact h.cn
  · rw [o _ (by simp)]; exact h.ce
  · rw [o _ (by simp)]; exact h.ct
  · by_cases e : z = x
    · subst e
      rw [updR_self]
      unfold updE
      rw [if_pos rfl]
    · rw [o _ (by simpa using e), h.ei z i hz]
      unfold updE
      rw [if_neg e]
  · have e : z ≠ x := fun e => by rw [e, hx] at hz; cases hz
    unfold updE
    rw [if_neg e]
    exact h.en z hz b
  · rw [o _ (by simp)]; exact h.ti z i hz
  · rw [o _ (by simp)]; exact h.cs
  · rw [o _ (by simp)]; exact h.cr

theorem mfun_upd {R : Type} (ad : R → Option Nat) (k : Int → R) (hk : ∀ x y, k x = k y → x = y) (x : Int) (j : Nat) : mfun (fun z => updR ad (k x) (some j) (k z)) = updV (mfun fun z => ad (k z)) x (some (.map (some j))) := by
  funext z
  unfold mfun updV
  by_cases e : z = x
  · subst e
    simp only [updR_self, if_true]; rfl
  · simp only [updR_other ad (some j) (fun h => e (hk z x h)), if_neg e]

/-- An edge more, from a node that had none: in a new map. -/
theorem WG.newE {w1 : World} (h : WG dir w ids B ad c gb jn je jt ju js jr N F) {x y : Int} {j : Nat} {v : Value} (hx : ad (.ei x) = none) (hg : w.grownBy w1 none) (hj : w.heap.size ≤ j) (hm : VMap w1 ids j (updV (fun _ => none) y (some v)))
    (hg2 : w1.grownBy w' (some je)) (hm2 : VMap w' ids je (updV (mfun fun x => ad (.ei x)) x (some (.map (some j))))) :
    ∃ ad' c', WG dir w' ids B ad' c' gb jn je jt ju js jr N (updE F x y v) := by
  obtain ⟨ad1, had⟩ : ∃ ad1, ad1 = updR ad (.ei x) (some j) := ⟨_, rfl⟩
  obtain ⟨c1, hc1⟩ : ∃ c1, c1 = updR c (.ei x) (.map (updV (fun _ => none) y (some v))) := ⟨_, rfl⟩
  have R1 : Roles w1 ids B ad1 c1 := by rw [had, hc1]; exact h.R.add hg hj hm
  have ao : ∀ r, r ≠ WR.ei x → ad1 r = ad r := fun r hr => by rw [had]; exact updR_other _ _ hr
  have ax : ad1 (.ei x) = some j := by rw [had]; exact updR_self _ _ _
  have co : ∀ r, r ≠ WR.ei x → c1 r = c r := fun r hr => by rw [hc1]; exact updR_other _ _ hr
  have cx : c1 (.ei x) = .map (updV (fun _ => none) y (some v)) := by rw [hc1]; exact updR_self _ _ _
  have hme : mfun (fun z => ad1 (.ei z)) = updV (mfun fun z => ad (.ei z)) x (some (.map (some j))) := by rw [had]; exact mfun_upd ad WR.ei (fun a b e => by injection e) x j
  have R2 : Roles w' ids B ad1 (updR c1 .em (.map (mfun fun z => ad1 (.ei z)))) := by
    refine R1.turn (r := .em) (by rw [ao _ (by simp)]; exact h.ae) hg2 ?_
    rw [hme]; exact hm2
  have o : ∀ r, r ≠ WR.em → updR c1 .em (.map (mfun fun z => ad1 (.ei z))) r = c1 r := fun r hr => updR_other _ _ hr
  refine ⟨ad1, _, R2, by rw [ao _ (by simp)]; exact h.ag, by rw [ao _ (by simp)]; exact h.au, by rw [ao _ (by simp)]; exact h.an, by rw [ao _ (by simp)]; exact h.ae, fun hd => by rw [ao _ (by simp)]; exact h.at_ hd, by rw [ao _ (by simp)]; exact h.as_, by rw [ao _ (by simp)]; exact h.ar,
    by rw [o _ (by simp), co _ (by simp)]; exact h.cg, by rw [o _ (by simp), co _ (by simp)]; exact h.cu, by rw [o _ (by simp), co _ (by simp)]; exact h.cn, updR_self _ _ _, ?_, fun z i hz => ?_, fun z hz b => ?_, fun z i hz => ?_, by rw [o _ (by simp), co _ (by simp)]; exact h.cs, by rw [o _ (by simp), co _ (by simp)]; exact h.cr⟩
  · intro hd
    rw [o _ (by simp), co _ (by simp), h.ct hd]
    congr 2
    funext z
    rw [ao _ (by simp)]
  · rw [o _ (by simp)]
    by_cases e : z = x
    · subst e
      rw [cx]
      unfold updE
      rw [if_pos rfl]
      congr 2
      funext b
      exact (h.en z hx b).symm
    · rw [co _ (by simpa using e)]
      rw [ao _ (by simpa using e)] at hz
      rw [h.ei z i hz]
      unfold updE
      rw [if_neg e]
  · have e : z ≠ x := fun e => by rw [e, ax] at hz; cases hz
    rw [ao _ (by simpa using e)] at hz
    unfold updE
    rw [if_neg e]
    exact h.en z hz b
  · rw [o _ (by simp), co _ (by simp)]
    rw [ao _ (by simp)] at hz
    exact h.ti z i hz

/-- The same for the edges that lead to a node. -/
theorem WG.putT (h : WG dir w ids B ad c gb jn je jt ju js jr N F) {x : Int} {j : Nat} {f : Int → Option Value} (hx : ad (.ti x) = some j) (hg : w.grownBy w' (some j)) (hm : VMap w' ids j f) :
    ∃ c', WG dir w' ids B ad c' gb jn je jt ju js jr N F := by
  have o : ∀ r, r ≠ WR.ti x → updR c (.ti x) (.map f) r = c r := fun r hr => updR_other _ _ hr
  refine ⟨updR c (.ti x) (.map f), { h with R := h.R.turn hx hg hm, cg := ?_, cu := ?_, cn := ?_, ce := ?_, ct := ?_, ei := fun z i hz => ?_, ti := fun z i hz => ?_, cs := ?_, cr := ?_ }⟩
  · rw [o _ (by simp)]; exact h.cg
  · rw [o _ (by simp)]; exact h.cu
  · rw [o _ (by simp)]; exact h.cn
  · rw [o _ (by simp)]; exact h.ce
  · rw [o _ (by simp)]; exact h.ct
  · rw [o _ (by simp)]; exact h.ei z i hz
  · by_cases e : z = x
    · subst e; exact ⟨f, updR_self _ _ _⟩
    · rw [o _ (by simpa using e)]; exact h.ti z i hz
  · rw [o _ (by simp)]; exact h.cs
  · rw [o _ (by simp)]; exact h.cr

theorem WG.newT {w1 : World} (hd : dir = true) (h : WG dir w ids B ad c gb jn je jt ju js jr N F) {x : Int} {j : Nat} {f : Int → Option Value} (hg : w.grownBy w1 none) (hj : w.heap.size ≤ j) (hm : VMap w1 ids j f)
    (hg2 : w1.grownBy w' (some jt)) (hm2 : VMap w' ids jt (updV (mfun fun x => ad (.ti x)) x (some (.map (some j))))) :
    ∃ ad' c', WG dir w' ids B ad' c' gb jn je jt ju js jr N F := by
  obtain ⟨ad1, had⟩ : ∃ ad1, ad1 = updR ad (.ti x) (some j) := ⟨_, rfl⟩
  obtain ⟨c1, hc1⟩ : ∃ c1, c1 = updR c (.ti x) (.map f) := ⟨_, rfl⟩
  have R1 : Roles w1 ids B ad1 c1 := by rw [had, hc1]; exact h.R.add hg hj hm
  have ao : ∀ r, r ≠ WR.ti x → ad1 r = ad r := fun r hr => by rw [had]; exact updR_other _ _ hr
  have co : ∀ r, r ≠ WR.ti x → c1 r = c r := fun r hr => by rw [hc1]; exact updR_other _ _ hr
  have cx : c1 (.ti x) = .map f := by rw [hc1]; exact updR_self _ _ _
  have hme : mfun (fun z => ad1 (.ti z)) = updV (mfun fun z => ad (.ti z)) x (some (.map (some j))) := by rw [had]; exact mfun_upd ad WR.ti (fun a b e => by injection e) x j
  have R2 : Roles w' ids B ad1 (updR c1 .tm (.map (mfun fun z => ad1 (.ti z)))) := by
    refine R1.turn (r := .tm) (by rw [ao _ (by simp)]; exact h.at_ hd) hg2 ?_
    rw [hme]; exact hm2
  have o : ∀ r, r ≠ WR.tm → updR c1 .tm (.map (mfun fun z => ad1 (.ti z))) r = c1 r := fun r hr => updR_other _ _ hr
  refine ⟨ad1, _, R2, by rw [ao _ (by simp)]; exact h.ag, by rw [ao _ (by simp)]; exact h.au, by rw [ao _ (by simp)]; exact h.an, by rw [ao _ (by simp)]; exact h.ae, fun hd => by rw [ao _ (by simp)]; exact h.at_ hd, by rw [ao _ (by simp)]; exact h.as_, by rw [ao _ (by simp)]; exact h.ar,
    by rw [o _ (by simp), co _ (by simp)]; exact h.cg, by rw [o _ (by simp), co _ (by simp)]; exact h.cu, by rw [o _ (by simp), co _ (by simp)]; exact h.cn, ?_, fun _ => updR_self _ _ _, fun z i hz => ?_, fun z hz b => ?_, fun z i hz => ?_, by rw [o _ (by simp), co _ (by simp)]; exact h.cs, by rw [o _ (by simp), co _ (by simp)]; exact h.cr⟩
  · rw [o _ (by simp), co _ (by simp), h.ce]
    congr 2
    funext z
    rw [ao _ (by simp)]
  · rw [o _ (by simp), co _ (by simp)]
    rw [ao _ (by simp)] at hz
    exact h.ei z i hz
  · rw [ao _ (by simp)] at hz
    exact h.en z hz b
  · rw [o _ (by simp)]
    by_cases e : z = x
    · subst e; exact ⟨f, cx⟩
    · rw [co _ (by simpa using e)]
      rw [ao _ (by simpa using e)] at hz
      exact h.ti z i hz
end
end Go.Proofs.YtfihclhceakmdaaGreat
