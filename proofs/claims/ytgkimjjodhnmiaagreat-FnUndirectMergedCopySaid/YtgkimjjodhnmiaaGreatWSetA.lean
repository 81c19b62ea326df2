/- A simple graph with weights (of either kind) in memory: the map of its nodes, the map of maps of its edges, the numbers in use.
   New simple graphs with weights; the infinity.
   uid.Set.Use.
   AddNode of simple graphs with weights.
   An edge laid into a simple graph with weights: the maps' part.
   SetWeightedEdge of simple graphs with weights. -/
import Derived.Test.YtgkimjjodhnmiaaGreatRoles
import Derived.Test.YtgkimjjodhnmiaaGreatVRange
import Derived.Test.YtgkimjjodhnmiaaGreatIter
import Derived.Test.YtgkimjjodhnmiaaGreatFl
import Derived.Laws.Externs
import Derived.Handy
import Derived.Deep.Draws
import Derived.Deep.QuietTactic
import Derived.StillTailTactics
import Derived.Test.YtgkimjjodhnmiaaGreatFrom
import Derived.Deep.RegionLaw
namespace Go.Proofs.YtgkimjjodhnmiaaGreat
open Go.RowKit Go.Maps

/-- Its parts. -/
inductive WR
  | g | u | nm | em | tm | us | fr
  | ei (x : Int)
  | ti (x : Int)

def gCells (dir : Bool) (jn je jt ju : Nat) : List Value :=
  if dir then [.map (some jn), .map (some je), .map (some jt), .float .f64 0, .float .f64 flInf, .pointer (some ⟨ju, 0, none⟩)]
  else [.map (some jn), .map (some je), .float .f64 0, .float .f64 flInf, .pointer (some ⟨ju, 0, none⟩)]

/-- The nodes' map, as a function. -/
def nfun (N : List Int) : Int → Option Value := fun x => if x ∈ N then some (nodev x) else none
/-- A map of maps, as a function. -/
def mfun (b : Int → Option Nat) : Int → Option Value := fun x => (b x).map fun j => .map (some j)

structure WG (dir : Bool) (w : World) (ids : List Int) (B : Nat → Prop) (ad : WR → Option Nat) (c : WR → Cont) (gb jn je jt ju js jr : Nat) (N : List Int) (F : Int → Int → Option Value) : Prop where
  R : Roles w ids B ad c
  ag : ad .g = some gb
  au : ad .u = some ju
  an : ad .nm = some jn
  ae : ad .em = some je
  at_ : dir = true → ad .tm = some jt
  as_ : ad .us = some js
  ar : ad .fr = some jr
  cg : c .g = .cells (gCells dir jn je jt ju)
  cu : ∃ m : Int, In64 m ∧ c .u = .cells [.int .i64 m, .map (some js), .map (some jr)]
  cn : c .nm = .map (nfun N)
  ce : c .em = .map (mfun fun x => ad (.ei x))
  ct : dir = true → c .tm = .map (mfun fun x => ad (.ti x))
  ei : ∀ x j, ad (.ei x) = some j → c (.ei x) = .map (F x)
  en : ∀ x, ad (.ei x) = none → ∀ y, F x y = none
  ti : ∀ x j, ad (.ti x) = some j → ∃ f, c (.ti x) = .map f
  cs : ∃ f, c .us = .map f
  cr : ∃ f, c .fr = .map f

/-- F, but v from x to y. -/
def updE (F : Int → Int → Option Value) (x y : Int) (v : Value) : Int → Int → Option Value := fun a => if a = x then updV (F a) y (some v) else F a
theorem updE_at (F : Int → Int → Option Value) (x y a b : Int) (v : Value) : updE F x y v a b = if a = x ∧ b = y then some v else F a b := by
  unfold updE updV
  by_cases h : a = x
  · by_cases h2 : b = y
    · simp [h, h2]
    · simp [h, h2]
  · simp [h]

section
variable {dir : Bool} {w w' : World} {ids : List Int} {B : Nat → Prop} {ad : WR → Option Nat} {c : WR → Cont} {gb jn je jt ju js jr : Nat} {N : List Int} {F : Int → Int → Option Value}

theorem WG.grown (h : WG dir w ids B ad c gb jn je jt ju js jr N F) (hg : w.grownBy w' none) : WG dir w' ids B ad c gb jn je jt ju js jr N F :=
  { h with R := h.R.grown hg }
theorem WG.below (h : WG dir w ids B ad c gb jn je jt ju js jr N F) (hb : Below w.heap.size w w') : WG dir w' ids B ad c gb jn je jt ju js jr N F :=
  { h with R := h.R.below hb }
theorem WG.far (h : WG dir w ids B ad c gb jn je jt ju js jr N F) {row : Option Nat} (hg : w.grownBy w' row) (hn : ∀ r j, ad r = some j → row ≠ some j) : WG dir w' ids B ad c gb jn je jt ju js jr N F :=
  { h with R := h.R.far hg hn }

theorem WG.zone (h : WG dir w ids B ad c gb jn je jt ju js jr N F) {B' : Nat → Prop} (hl : ∀ r j, ad r = some j → B' j) (hn : ∀ j, w.heap.size ≤ j → B' j) : WG dir w ids B' ad c gb jn je jt ju js jr N F :=
  { h with R := h.R.zone hl hn }

theorem WG.cell (h : WG dir w ids B ad c gb jn je jt ju js jr N F) {k : Nat} {v : Value} (hv : (gCells dir jn je jt ju)[k]? = some v) : w.cell? ⟨gb, k, none⟩ = some v := h.R.cell h.ag h.cg hv
theorem WG.nmap (h : WG dir w ids B ad c gb jn je jt ju js jr N F) : VMap w ids jn (nfun N) := h.R.map h.an h.cn
theorem WG.emap (h : WG dir w ids B ad c gb jn je jt ju js jr N F) : VMap w ids je (mfun fun x => ad (.ei x)) := h.R.map h.ae h.ce
theorem WG.tmap (h : WG dir w ids B ad c gb jn je jt ju js jr N F) (hd : dir = true) : VMap w ids jt (mfun fun x => ad (.ti x)) := h.R.map (h.at_ hd) (h.ct hd)
theorem WG.imap (h : WG dir w ids B ad c gb jn je jt ju js jr N F) {x : Int} {j : Nat} (hx : ad (.ei x) = some j) : VMap w ids j (F x) := h.R.map hx (h.ei x j hx)

/-- What is turned stands neither in a map nor in a block that the graph's parts name. -/
theorem WG.turnN (h : WG dir w ids B ad c gb jn je jt ju js jr N F) (hg : w.grownBy w' (some jn)) {M : List Int} (hm : VMap w' ids jn (nfun M)) : WG dir w' ids B ad (updR c .nm (.map (nfun M))) gb jn je jt ju js jr M F := by
  have o : ∀ r, r ≠ WR.nm → updR c .nm (.map (nfun M)) r = c r := fun r hr => updR_other _ _ hr
  refine { h with R := h.R.turn h.an hg hm, cg := ?_, cu := ?_, cn := updR_self _ _ _, ce := ?_, ct := ?_, ei := fun x j hx => ?_, ti := fun x j hx => ?_, cs := ?_, cr := ?_ }
  · rw [o _ (by simp)]; exact h.cg
  · rw [o _ (by simp)]; exact h.cu
  · rw [o _ (by simp)]; exact h.ce
  · rw [o _ (by simp)]; exact h.ct
  · rw [o _ (by simp)]; exact h.ei x j hx
  · rw [o _ (by simp)]; exact h.ti x j hx
  · rw [o _ (by simp)]; exact h.cs
  · rw [o _ (by simp)]; exact h.cr

theorem WG.turnS (h : WG dir w ids B ad c gb jn je jt ju js jr N F) (hg : w.grownBy w' (some js)) {f : Int → Option Value} (hm : VMap w' ids js f) : WG dir w' ids B ad (updR c .us (.map f)) gb jn je jt ju js jr N F := by
  have o : ∀ r, r ≠ WR.us → updR c .us (.map f) r = c r := fun r hr => updR_other _ _ hr
  refine { h with R := h.R.turn h.as_ hg hm, cg := ?_, cu := ?_, cn := ?_, ce := ?_, ct := ?_, ei := fun x j hx => ?_, ti := fun x j hx => ?_, cs := ⟨f, updR_self _ _ _⟩, cr := ?_ }
  · rw [o _ (by simp)]; exact h.cg
  · rw [o _ (by simp)]; exact h.cu
  · rw [o _ (by simp)]; exact h.cn
  · rw [o _ (by simp)]; exact h.ce
  · rw [o _ (by simp)]; exact h.ct
  · rw [o _ (by simp)]; exact h.ei x j hx
  · rw [o _ (by simp)]; exact h.ti x j hx
  · rw [o _ (by simp)]; exact h.cr

theorem WG.turnR (h : WG dir w ids B ad c gb jn je jt ju js jr N F) (hg : w.grownBy w' (some jr)) {f : Int → Option Value} (hm : VMap w' ids jr f) : WG dir w' ids B ad (updR c .fr (.map f)) gb jn je jt ju js jr N F := by
  have o : ∀ r, r ≠ WR.fr → updR c .fr (.map f) r = c r := fun r hr => updR_other _ _ hr
  refine { h with R := h.R.turn h.ar hg hm, cg := ?_, cu := ?_, cn := ?_, ce := ?_, ct := ?_, ei := fun x j hx => ?_, ti := fun x j hx => ?_, cs := ?_, cr := ⟨f, updR_self _ _ _⟩ }
  · rw [o _ (by simp)]; exact h.cg
  · rw [o _ (by simp)]; exact h.cu
  · rw [o _ (by simp)]; exact h.cn
  · rw [o _ (by simp)]; exact h.ce
  · rw [o _ (by simp)]; exact h.ct
  · rw [o _ (by simp)]; exact h.ei x j hx
  · rw [o _ (by simp)]; exact h.ti x j hx
  · rw [o _ (by simp)]; exact h.cs

/-- The greatest number in use. -/
theorem WG.max (h : WG dir w ids B ad c gb jn je jt ju js jr N F) : ∃ m : Int, In64 m ∧ w.cell? ⟨ju, 0, none⟩ = some (.int .i64 m) ∧ w.cell? ⟨ju, 1, none⟩ = some (.map (some js)) ∧ w.cell? ⟨ju, 2, none⟩ = some (.map (some jr)) ∧ w.frozen? ⟨ju, 0, none⟩ = false := by
  obtain ⟨m, h1, h2⟩ := h.cu
  exact ⟨m, h1, h.R.cell h.au h2 rfl, h.R.cell h.au h2 rfl, h.R.cell h.au h2 rfl, h.R.free h.au h2 0⟩
theorem WG.setM (h : WG dir w ids B ad c gb jn je jt ju js jr N F) {x : Int} (hx : In64 x) : ∃ c', WG dir (w.setCell ⟨ju, 0, none⟩ (.int .i64 x)) ids B ad c' gb jn je jt ju js jr N F := by
  obtain ⟨m, h1, h2⟩ := h.cu
  have o : ∀ r, r ≠ WR.u → updR c .u (.cells [.int .i64 x, .map (some js), .map (some jr)]) r = c r := fun r hr => updR_other _ _ hr
  refine ⟨updR c .u (.cells [.int .i64 x, .map (some js), .map (some jr)]), { h with R := h.R.setCell h.au h2 _, cg := ?_, cu := ⟨x, hx, updR_self _ _ _⟩, cn := ?_, ce := ?_, ct := ?_, ei := fun y j hy => ?_, ti := fun y j hy => ?_, cs := ?_, cr := ?_ }⟩
  · rw [o _ (by simp)]; exact h.cg
  · rw [o _ (by simp)]; exact h.cn
  · rw [o _ (by simp)]; exact h.ce
  · rw [o _ (by simp)]; exact h.ct
  · rw [o _ (by simp)]; exact h.ei y j hy
  · rw [o _ (by simp)]; exact h.ti y j hy
  · rw [o _ (by simp)]; exact h.cs
  · rw [o _ (by simp)]; exact h.cr

/-- An edge more, from a node that has some. -/
theorem WG.putE (h : WG dir w ids B ad c gb jn je jt ju js jr N F) {x y : Int} {j : Nat} {v : Value} (hx : ad (.ei x) = some j) (hg : w.grownBy w' (some j)) (hm : VMap w' ids j (updV (F x) y (some v))) :
    ∃ c', WG dir w' ids B ad c' gb jn je jt ju js jr N (updE F x y v) := by
  have o : ∀ r, r ≠ WR.ei x → updR c (.ei x) (.map (updV (F x) y (some v))) r = c r := fun r hr => updR_other _ _ hr
  refine ⟨updR c (.ei x) (.map (updV (F x) y (some v))), { h with R := h.R.turn hx hg hm, cg := ?_, cu := ?_, cn := ?_, ce := ?_, ct := ?_, ei := fun z i hz => ?_, en := fun z hz b => ?_, ti := fun z i hz => ?_, cs := ?_, cr := ?_ }⟩
  · rw [o _ (by simp)]; exact h.cg
  · rw [o _ (by simp)]; exact h.cu
  · rw [o _ (by simp)]; exact h.cn
  · rw [o _ (by simp)]; exact h.ce
  · rw [o _ (by simp)]; exact h.ct
  · by_cases e : z = x
    · subst e
      rw [updR_self]
      unfold updE
      rw [if_pos rfl]
    · rw [o _ (by simpa using e), h.ei z i hz]
      unfold updE
      rw [if_neg e]
  · have e : z ≠ x := fun e => by rw [e, hx] at hz; cases hz
    unfold updE
    rw [if_neg e]
    exact h.en z hz b
  · rw [o _ (by simp)]; exact h.ti z i hz
  · rw [o _ (by simp)]; exact h.cs
  · rw [o _ (by simp)]; exact h.cr

theorem mfun_upd {R : Type} (ad : R → Option Nat) (k : Int → R) (hk : ∀ x y, k x = k y → x = y) (x : Int) (j : Nat) : mfun (fun z => updR ad (k x) (some j) (k z)) = updV (mfun fun z => ad (k z)) x (some (.map (some j))) := by
  funext z
  unfold mfun updV
  by_cases e : z = x
  · subst e
    simp only [updR_self, if_true]; rfl
  · simp only [updR_other ad (some j) (fun h => e (hk z x h)), if_neg e]

/-- An edge more, from a node that had none: in a new map. -/
theorem WG.newE {w1 : World} (h : WG dir w ids B ad c gb jn je jt ju js jr N F) {x y : Int} {j : Nat} {v : Value} (hx : ad (.ei x) = none) (hg : w.grownBy w1 none) (hj : w.heap.size ≤ j) (hm : VMap w1 ids j (updV (fun _ => none) y (some v)))
    (hg2 : w1.grownBy w' (some je)) (hm2 : VMap w' ids je (updV (mfun fun x => ad (.ei x)) x (some (.map (some j))))) :
    ∃ ad' c', WG dir w' ids B ad' c' gb jn je jt ju js jr N (updE F x y v) := by
  obtain ⟨ad1, had⟩ : ∃ ad1, ad1 = updR ad (.ei x) (some j) := ⟨_, rfl⟩
  obtain ⟨c1, hc1⟩ : ∃ c1, c1 = updR c (.ei x) (.map (updV (fun _ => none) y (some v))) := ⟨_, rfl⟩
  have R1 : Roles w1 ids B ad1 c1 := by rw [had, hc1]; exact h.R.add hg hj hm
  have ao : ∀ r, r ≠ WR.ei x → ad1 r = ad r := fun r hr => by rw [had]; exact updR_other _ _ hr
  have ax : ad1 (.ei x) = some j := by rw [had]; exact updR_self _ _ _
  have co : ∀ r, r ≠ WR.ei x → c1 r = c r := fun r hr => by rw [hc1]; exact updR_other _ _ hr
  have cx : c1 (.ei x) = .map (updV (fun _ => none) y (some v)) := by rw [hc1]; exact updR_self _ _ _
  have hme : mfun (fun z => ad1 (.ei z)) = updV (mfun fun z => ad (.ei z)) x (some (.map (some j))) := by rw [had]; exact mfun_upd ad WR.ei (fun a b e => by injection e) x j
  have R2 : Roles w' ids B ad1 (updR c1 .em (.map (mfun fun z => ad1 (.ei z)))) := by
    refine R1.turn (r := .em) (by rw [ao _ (by simp)]; exact h.ae) hg2 ?_
    rw [hme]; exact hm2
  have o : ∀ r, r ≠ WR.em → updR c1 .em (.map (mfun fun z => ad1 (.ei z))) r = c1 r := fun r hr => updR_other _ _ hr
  refine ⟨ad1, _, R2, by rw [ao _ (by simp)]; exact h.ag, by rw [ao _ (by simp)]; exact h.au, by rw [ao _ (by simp)]; exact h.an, by rw [ao _ (by simp)]; exact h.ae, fun hd => by rw [ao _ (by simp)]; exact h.at_ hd, by rw [ao _ (by simp)]; exact h.as_, by rw [ao _ (by simp)]; exact h.ar,
    by rw [o _ (by simp), co _ (by simp)]; exact h.cg, by rw [o _ (by simp), co _ (by simp)]; exact h.cu, by rw [o _ (by simp), co _ (by simp)]; exact h.cn, updR_self _ _ _, ?_, fun z i hz => ?_, fun z hz b => ?_, fun z i hz => ?_, by rw [o _ (by simp), co _ (by simp)]; exact h.cs, by rw [o _ (by simp), co _ (by simp)]; exact h.cr⟩
  · intro hd
    rw [o _ (by simp), co _ (by simp), h.ct hd]
    congr 2
    funext z
    rw [ao _ (by simp)]
  · rw [o _ (by simp)]
    by_cases e : z = x
    · subst e
      rw [cx]
      unfold updE
      rw [if_pos rfl]
      congr 2
      funext b
      exact (h.en z hx b).symm
    · rw [co _ (by simpa using e)]
      rw [ao _ (by simpa using e)] at hz
      rw [h.ei z i hz]
      unfold updE
      rw [if_neg e]
  · have e : z ≠ x := fun e => by rw [e, ax] at hz; cases hz
    rw [ao _ (by simpa using e)] at hz
    unfold updE
    rw [if_neg e]
    exact h.en z hz b
  · rw [o _ (by simp), co _ (by simp)]
    rw [ao _ (by simp)] at hz
    exact h.ti z i hz

/-- The same for the edges that lead to a node. -/
theorem WG.putT (h : WG dir w ids B ad c gb jn je jt ju js jr N F) {x : Int} {j : Nat} {f : Int → Option Value} (hx : ad (.ti x) = some j) (hg : w.grownBy w' (some j)) (hm : VMap w' ids j f) :
    ∃ c', WG dir w' ids B ad c' gb jn je jt ju js jr N F := by
  have o : ∀ r, r ≠ WR.ti x → updR c (.ti x) (.map f) r = c r := fun r hr => updR_other _ _ hr
  refine ⟨updR c (.ti x) (.map f), { h with R := h.R.turn hx hg hm, cg := ?_, cu := ?_, cn := ?_, ce := ?_, ct := ?_, ei := fun z i hz => ?_, ti := fun z i hz => ?_, cs := ?_, cr := ?_ }⟩
  · rw [o _ (by simp)]; exact h.cg
  · rw [o _ (by simp)]; exact h.cu
  · rw [o _ (by simp)]; exact h.cn
  · rw [o _ (by simp)]; exact h.ce
  · rw [o _ (by simp)]; exact h.ct
  · rw [o _ (by simp)]; exact h.ei z i hz
  · by_cases e : z = x
    · subst e; exact ⟨f, updR_self _ _ _⟩
    · rw [o _ (by simpa using e)]; exact h.ti z i hz
  · rw [o _ (by simp)]; exact h.cs
  · rw [o _ (by simp)]; exact h.cr

theorem WG.newT {w1 : World} (hd : dir = true) (h : WG dir w ids B ad c gb jn je jt ju js jr N F) {x : Int} {j : Nat} {f : Int → Option Value} (hg : w.grownBy w1 none) (hj : w.heap.size ≤ j) (hm : VMap w1 ids j f)
    (hg2 : w1.grownBy w' (some jt)) (hm2 : VMap w' ids jt (updV (mfun fun x => ad (.ti x)) x (some (.map (some j))))) :
    ∃ ad' c', WG dir w' ids B ad' c' gb jn je jt ju js jr N F := by
  obtain ⟨ad1, had⟩ : ∃ ad1, ad1 = updR ad (.ti x) (some j) := ⟨_, rfl⟩
  obtain ⟨c1, hc1⟩ : ∃ c1, c1 = updR c (.ti x) (.map f) := ⟨_, rfl⟩
  have R1 : Roles w1 ids B ad1 c1 := by rw [had, hc1]; exact h.R.add hg hj hm
  have ao : ∀ r, r ≠ WR.ti x → ad1 r = ad r := fun r hr => by rw [had]; exact updR_other _ _ hr
  have co : ∀ r, r ≠ WR.ti x → c1 r = c r := fun r hr => by rw [hc1]; exact updR_other _ _ hr
  have cx : c1 (.ti x) = .map f := by rw [hc1]; exact updR_self _ _ _
  have hme : mfun (fun z => ad1 (.ti z)) = updV (mfun fun z => ad (.ti z)) x (some (.map (some j))) := by rw [had]; exact mfun_upd ad WR.ti (fun a b e => by injection e) x j
  have R2 : Roles w' ids B ad1 (updR c1 .tm (.map (mfun fun z => ad1 (.ti z)))) := by
    refine R1.turn (r := .tm) (by rw [ao _ (by simp)]; exact h.at_ hd) hg2 ?_
    rw [hme]; exact hm2
  have o : ∀ r, r ≠ WR.tm → updR c1 .tm (.map (mfun fun z => ad1 (.ti z))) r = c1 r := fun r hr => updR_other _ _ hr
  refine ⟨ad1, _, R2, by rw [ao _ (by simp)]; exact h.ag, by rw [ao _ (by simp)]; exact h.au, by rw [ao _ (by simp)]; exact h.an, by rw [ao _ (by simp)]; exact h.ae, fun hd => by rw [ao _ (by simp)]; exact h.at_ hd, by rw [ao _ (by simp)]; exact h.as_, by rw [ao _ (by simp)]; exact h.ar,
    by rw [o _ (by simp), co _ (by simp)]; exact h.cg, by rw [o _ (by simp), co _ (by simp)]; exact h.cu, by rw [o _ (by simp), co _ (by simp)]; exact h.cn, ?_, fun _ => updR_self _ _ _, fun z i hz => ?_, fun z hz b => ?_, fun z i hz => ?_, by rw [o _ (by simp), co _ (by simp)]; exact h.cs, by rw [o _ (by simp), co _ (by simp)]; exact h.cr⟩
  · rw [o _ (by simp), co _ (by simp), h.ce]
    congr 2
    funext z
    rw [ao _ (by simp)]
  · rw [o _ (by simp), co _ (by simp)]
    rw [ao _ (by simp)] at hz
    exact h.ei z i hz
  · rw [ao _ (by simp)] at hz
    exact h.en z hz b
  · rw [o _ (by simp)]
    by_cases e : z = x
    · subst e; exact ⟨f, cx⟩
    · rw [co _ (by simpa using e)]
      rw [ao _ (by simpa using e)] at hz
      exact h.ti z i hz
end
end Go.Proofs.YtgkimjjodhnmiaaGreat

namespace Go.Proofs.YtgkimjjodhnmiaaGreat
open Go.RowKit Go.Maps

theorem vmap_block {w : World} {ids : List Int} {j : Nat} (h : w.heap[j]? = some (.map #[] 0)) : VMap w ids j (fun _ => none) := by
  have hj : j < w.heap.size := lt_of_block h
  obtain ⟨D, ⟨es, clock, hb, r⟩, hD⟩ := vmap_new w ids
  rw [heap_alloc_new] at hb
  injection hb with hb
  injection hb with h1 h2
  subst h1; subst h2
  exact ⟨D, ⟨_, _, h, r⟩, hD⟩

/-- Where the parts of a new graph lie. -/
def adNew (dir : Bool) (b : Nat) : WR → Option Nat
  | .nm => some b
  | .em => some (b + 1)
  | .tm => if dir then some (b + 2) else none
  | .us => some (b + if dir then 3 else 2)
  | .fr => some (b + if dir then 4 else 3)
  | .u => some (b + if dir then 5 else 4)
  | .g => some (b + if dir then 6 else 5)
  | .ei _ => none
  | .ti _ => none
def cNew (cg cu : List Value) : WR → Cont
  | .g => .cells cg
  | .u => .cells cu
  | _ => .map fun _ => none

theorem nfun_nil : nfun [] = fun _ => none := by funext x; unfold nfun; simp
theorem mfun_none : mfun (fun _ => none) = fun _ => none := rfl

theorem wg_new {dir : Bool} {w w' : World} {ids : List Int} {t1 t2 : TypeId} (hm : ∀ i, i < (if dir then 5 else 4) → w'.heap[w.heap.size + i]? = some (.map #[] 0))
    (hu : w'.heap[w.heap.size + if dir then 5 else 4]? = some (.cells #[.int .i64 (-1), .map (some (w.heap.size + if dir then 3 else 2)), .map (some (w.heap.size + if dir then 4 else 3))] t1 (0, 0)))
    (hgb : w'.heap[w.heap.size + if dir then 6 else 5]? = some (.cells (gCells dir w.heap.size (w.heap.size + 1) (w.heap.size + 2) (w.heap.size + if dir then 5 else 4)).toArray t2 (0, 0))) :
    ∃ ad c, WG dir w' ids (fun j => w.heap.size ≤ j) ad c (w.heap.size + if dir then 6 else 5) w.heap.size (w.heap.size + 1) (w.heap.size + 2) (w.heap.size + if dir then 5 else 4) (w.heap.size + if dir then 3 else 2) (w.heap.size + if dir then 4 else 3) [] (fun _ _ => none) := by
  obtain ⟨b, hb⟩ : ∃ b, b = w.heap.size := ⟨_, rfl⟩
  rw [← hb] at hm hu hgb ⊢
  refine ⟨adNew dir b, cNew (gCells dir b (b + 1) (b + 2) (b + if dir then 5 else 4)) [.int .i64 (-1), .map (some (b + if dir then 3 else 2)), .map (some (b + if dir then 4 else 3))], ⟨fun r j hr => ?_, fun r j hr => ?_, fun r r' j hr hr' => ?_, fun j hj => ?_⟩, rfl, rfl, rfl, rfl, fun hd => by subst hd; rfl, rfl, rfl, rfl, ⟨-1, by show (Lit.int .i64 (-1)).wf = true; rfl, rfl⟩, ?_, ?_, fun _ => ?_, fun x j h => by simp [adNew] at h, fun _ _ _ => rfl, fun x j h => by simp [adNew] at h, ⟨_, rfl⟩, ⟨_, rfl⟩⟩
  · cases dir <;> cases r <;> simp only [adNew, cNew, if_true, Bool.false_eq_true, if_false, reduceCtorEq, Option.some.injEq] at hr hm hu hgb ⊢ <;> subst hr
    case false.g => exact ⟨_, hgb⟩
    case false.u => exact ⟨_, hu⟩
    case false.nm => exact vmap_block (hm 0 (by omega))
    case false.em => exact vmap_block (hm 1 (by omega))
    case false.us => exact vmap_block (hm 2 (by omega))
    case false.fr => exact vmap_block (hm 3 (by omega))
    case true.g => exact ⟨_, hgb⟩
    case true.u => exact ⟨_, hu⟩
    case true.nm => exact vmap_block (hm 0 (by omega))
    case true.em => exact vmap_block (hm 1 (by omega))
    case true.tm => exact vmap_block (hm 2 (by omega))
    case true.us => exact vmap_block (hm 3 (by omega))
    case true.fr => exact vmap_block (hm 4 (by omega))
  · show b ≤ j
    cases dir <;> cases r <;> simp only [adNew, if_true, Bool.false_eq_true, if_false, reduceCtorEq, Option.some.injEq] at hr <;> omega
  · cases dir <;> cases r <;> simp only [adNew, if_true, Bool.false_eq_true, if_false, reduceCtorEq, Option.some.injEq] at hr <;> cases r' <;> simp only [adNew, if_true, Bool.false_eq_true, if_false, reduceCtorEq, Option.some.injEq] at hr' <;> first | rfl | (exfalso; omega)
  · show b ≤ j
    have := lt_of_block hgb
    omega
  · rw [nfun_nil]; rfl
  · show Cont.map _ = _
    rfl
  · show Cont.map _ = _
    rfl

theorem frombits_run (w : World) : (callFunc 30 #[.int .u64 9218868437227405312]).run Tryz.prog w = .ok (.value (.float .f64 flInf)) w := by
  rw [run_callFunc_extern Tryz.func30 (by kernel_rfl) (by kernel_rfl) (by kernel_rfl) (e := Extern.MathFloatBits.float64frombits) (by kernel_rfl)]
  rfl

theorem inf_any (w : World) : Calls Tryz.prog 14 #[.int .i64 1] w fun e w' => e = .returned (.float .f64 flInf) ∧ w = w' := by
  have h := frombits_run
  go_enter Tryz.func14, Tryz.ntmps14
  go_wp2_with fail
  go_ret
  exact ⟨rfl, rfl⟩

theorem uidNew_any (w : World) : Calls Tryz.prog 29 #[] w fun e w' => e = .returned (.pointer (some ⟨w.heap.size + 2, 0, none⟩)) ∧
    w' = ((w.alloc (.map #[] 0)).alloc (.map #[] 0)).alloc (.cells #[.int .i64 (-1), .map (some w.heap.size), .map (some (w.heap.size + 1))] 124) := by
  have hmm := @run_makeMap Tryz.prog
  go_enter Tryz.func29, Tryz.ntmps29
  go_wp2_with fail
  go_ret
  exact ⟨rfl, rfl⟩

theorem below_allocs (os : List Obj) (w : World) : Below w.heap.size w (os.foldl World.alloc w) := by
  induction os generalizing w with
  | nil => exact Below.refl _ _
  | cons o os ih => exact (alloc_below w o).trans ((ih (w.alloc o)).mono (by simp))
theorem heap_allocs (os : List Obj) (w : World) (i : Nat) : (os.foldl World.alloc w).heap[w.heap.size + i]? = os[i]? := by
  induction os generalizing w i with
  | nil => simp
  | cons o os ih =>
    cases i with
    | zero =>
      show (os.foldl World.alloc (w.alloc o)).heap[w.heap.size]? = some o
      rw [(below_allocs os (w.alloc o)).block _ (by simp)]
      exact heap_alloc_new w o
    | succ i =>
      have := ih (w.alloc o) i
      rw [show (w.alloc o).heap.size + i = w.heap.size + (i + 1) by simp; omega] at this
      rw [List.getElem?_cons_succ]
      exact this

/-- What a new graph is. -/
def NewPost (dir : Bool) (ids : List Int) (w : World) (e : Ending) (w' : World) : Prop :=
  ∃ ad c gb jn je jt ju js jr, e = .returned (.pointer (some ⟨gb, 0, none⟩)) ∧ WG dir w' ids (fun j => w.heap.size ≤ j) ad c gb jn je jt ju js jr [] (fun _ _ => none) ∧ Below w.heap.size w w'

set_option maxHeartbeats 1000000 in
theorem newDir_any (ids : List Int) (w : World) : Calls Tryz.prog 13 #[.float .f64 0, .float .f64 flInf] w (NewPost true ids w) := by
  have hmm := @run_makeMap Tryz.prog
  go_enter Tryz.func13, Tryz.ntmps13
  go_wp2_with (go_at_call 29; refine (uidNew_any _).mono ?_; rintro e w' ⟨rfl, rfl⟩)
  go_ret
  have hh := heap_allocs [.map #[] 0, .map #[] 0, .map #[] 0, .map #[] 0, .map #[] 0, .cells #[.int .i64 (-1), .map (some (w.heap.size + 3)), .map (some (w.heap.size + 4))] 124, .cells (gCells true w.heap.size (w.heap.size + 1) (w.heap.size + 2) (w.heap.size + 5)).toArray 79] w
  have hb := below_allocs [.map #[] 0, .map #[] 0, .map #[] 0, .map #[] 0, .map #[] 0, .cells #[.int .i64 (-1), .map (some (w.heap.size + 3)), .map (some (w.heap.size + 4))] 124, .cells (gCells true w.heap.size (w.heap.size + 1) (w.heap.size + 2) (w.heap.size + 5)).toArray 79] w
  obtain ⟨ad, c, h⟩ := wg_new (dir := true) (w := w) (ids := ids) (t1 := 124) (t2 := 79) (fun i hi => by
    rw [hh i]
    match i, hi with
    | 0, _ => rfl
    | 1, _ => rfl
    | 2, _ => rfl
    | 3, _ => rfl
    | 4, _ => rfl) (hh 5) (hh 6)
  exact ⟨ad, c, _, _, _, _, _, _, _, rfl, h, hb⟩

set_option maxHeartbeats 1000000 in
theorem newUnd_any (ids : List Int) (w : World) : Calls Tryz.prog 18 #[.float .f64 0, .float .f64 flInf] w (NewPost false ids w) := by
  have hmm := @run_makeMap Tryz.prog
  go_enter Tryz.func18, Tryz.ntmps18
  go_wp2_with (go_at_call 29; refine (uidNew_any _).mono ?_; rintro e w' ⟨rfl, rfl⟩)
  go_ret
  have hh := heap_allocs [.map #[] 0, .map #[] 0, .map #[] 0, .map #[] 0, .cells #[.int .i64 (-1), .map (some (w.heap.size + 2)), .map (some (w.heap.size + 3))] 124, .cells (gCells false w.heap.size (w.heap.size + 1) (w.heap.size + 2) (w.heap.size + 4)).toArray 107] w
  have hb := below_allocs [.map #[] 0, .map #[] 0, .map #[] 0, .map #[] 0, .cells #[.int .i64 (-1), .map (some (w.heap.size + 2)), .map (some (w.heap.size + 3))] 124, .cells (gCells false w.heap.size (w.heap.size + 1) (w.heap.size + 2) (w.heap.size + 4)).toArray 107] w
  obtain ⟨ad, c, h⟩ := wg_new (dir := false) (w := w) (ids := ids) (t1 := 124) (t2 := 107) (fun i hi => by
    rw [hh i]
    match i, hi with
    | 0, _ => rfl
    | 1, _ => rfl
    | 2, _ => rfl
    | 3, _ => rfl) (hh 4) (hh 5)
  exact ⟨ad, c, _, _, _, _, _, _, _, rfl, h, hb⟩
end Go.Proofs.YtgkimjjodhnmiaaGreat

namespace Go.Proofs.YtgkimjjodhnmiaaGreat
open Go.RowKit Go.Maps

theorem vsetAdd_any {w : World} {ids : List Int} {j : Nat} {f : Int → Option Value} (h : VMap w ids j f) {x : Int} (hx : In64 x) (hm : x ∈ ids) (hl : ids.length ≤ 1000) :
    Calls Tryz.prog 117 #[.map (some j), .int .i64 x] w fun e w' => e = .returned (.tuple #[]) ∧ VMap w' ids j (updV f x (some (.agg #[]))) ∧ w.grownBy w' (some j) := by
  obtain ⟨w7, hrun, hm7, hg7⟩ := vmap_put h Tryz.underlying122 hx hm (by omega) (.agg #[])
  go_enter Tryz.func117, Tryz.ntmps117
  go_wp2_with fail
  go_end0
  exact ⟨rfl, hm7, hg7⟩

theorem vsetRem_any {w : World} {ids : List Int} {j : Nat} {f : Int → Option Value} (h : VMap w ids j f) {x : Int} (hx : In64 x) :
    Calls Tryz.prog 118 #[.map (some j), .int .i64 x] w fun e w' => e = .returned (.tuple #[]) ∧ VMap w' ids j (updV f x none) ∧ w.grownBy w' (some j) := by
  obtain ⟨w7, hrun, hm7, hg7⟩ := vmap_del h Tryz.underlying122 hx 0
  go_enter Tryz.func118, Tryz.ntmps118
  go_wp2_with fail
  go_end0
  exact ⟨rfl, hm7, hg7⟩

section
variable {dir : Bool} {w : World} {ids : List Int} {B : Nat → Prop} {ad : WR → Option Nat} {c : WR → Cont} {gb jn je jt ju js jr : Nat} {N : List Int} {F : Int → Int → Option Value}

theorem WG.lo {r : WR} {j : Nat} (h : WG dir w ids B ad c gb jn je jt ju js jr N F) (hr : ad r = some j) : B j := h.R.lo r j hr

theorem grow_below {w w' : World} {B j : Nat} (hg : w.grownBy w' (some j)) (hj : B ≤ j) (hB : B ≤ w.heap.size) : Below B w w' :=
  ⟨hg.os, hg.tape, hg.output, hg.size, fun k hk => hg.block k (by omega) (by intro e; injection e with e; omega)⟩

set_option maxRecDepth 100000 in
set_option maxHeartbeats 1000000 in
theorem use_any (h : WG dir w ids B ad c gb jn je jt ju js jr N F) {x : Int} (hx : In64 x) (hm : x ∈ ids) (hl : ids.length ≤ 1000) :
    Calls Tryz.prog 114 #[.pointer (some ⟨ju, 0, none⟩), .int .i64 x] w fun e w' => e = .returned (.tuple #[]) ∧ (∃ c', WG dir w' ids B ad c' gb jn je jt ju js jr N F) ∧ Keeps B w w' := by
  have hlo := h.lo h.au
  obtain ⟨m0, hm0, u0, u1, u2, fu⟩ := h.max
  obtain ⟨fs, hfs⟩ := h.cs
  have hadd := Lib.hid (vsetAdd_any (h.R.map h.as_ hfs) hx hm hl)
  have hH := Lib.hid h
  have hlh := Lib.hid hl
  clear h hfs u0 u2 fu hm0
  go_enter Tryz.func114, Tryz.ntmps114
  go_wp2_with fail
  refine (unhide hadd).mono ?_
  rintro e w1 ⟨rfl, hm1, hg1⟩
  have h1 := hH.out.turnS hg1 hm1
  have hb1 := Lib.hid (Keeps.grow hg1 (hH.out.lo hH.out.as_))
  obtain ⟨m1, hm1', u0, v1, u2, fu⟩ := h1.max
  obtain ⟨fr, hfr⟩ := h1.cr
  have hrem := Lib.hid (vsetRem_any (h1.R.map h1.ar hfr) hx)
  have h1h := Lib.hid h1
  clear hm1 hg1 h1 hadd hH u1 u0 v1 fu hm1' hfr
  go_wp2_with fail
  refine (unhide hrem).mono ?_
  rintro e w2 ⟨rfl, hm2, hg2⟩
  have h2 := h1h.out.turnR hg2 hm2
  have hb2 := Lib.hid (hb1.out.trans (Keeps.grow hg2 (h1h.out.lo h1h.out.ar)))
  obtain ⟨m2, hm2', u0, v1, v2, fu⟩ := h2.max
  have h2h := Lib.hid h2
  clear hm2 hg2 h2 hrem h1h hb1 u2 v1 v2
  by_cases hgt : m2 < x
  · obtain ⟨c3, h3⟩ := h2h.out.setM hx
    have h3h := Lib.hid h3
    have hb3 : Hid (Keeps B w (w2.setCell ⟨ju, 0, none⟩ (.int .i64 x))) := hb2.out.setCell hlo _
    clear h3
    go_wp2_with fail
    go_end0
    exact ⟨rfl, ⟨_, h3h.out⟩, hb3.out⟩
  · go_wp2_with fail
    go_end0
    exact ⟨rfl, ⟨_, h2h.out⟩, hb2.out⟩
end
end Go.Proofs.YtgkimjjodhnmiaaGreat

namespace Go.Proofs.YtgkimjjodhnmiaaGreat
open Go.RowKit Go.Maps

theorem nidw_method (n : Nat) (x : Int) (w : World) : (method (n + 1) 205 (.int .i64 x) "ID").run Tryz.prog w = .ok (178, .int .i64 x) w := by kernel_rfl

set_option maxRecDepth 100000 in
set_option maxHeartbeats 2000000 in
theorem addNodeDirected_any {w : World} {ids : List Int} {B : Nat → Prop} {ad : WR → Option Nat} {c : WR → Cont} {gb jn je jt ju js jr : Nat} {N : List Int} {F : Int → Int → Option Value}
    (h : WG true w ids B ad c gb jn je jt ju js jr N F) {x : Int} (hx : In64 x) (hm : x ∈ ids) (hxN : x ∉ N) (hl : ids.length ≤ 1000) :
    Calls Tryz.prog 105 #[.pointer (some ⟨gb, 0, none⟩), .iface 205 (.int .i64 x)] w
      fun e w' => e = .returned (.tuple #[]) ∧ (∃ c', WG true w' ids B ad c' gb jn je jt ju js jr (x :: N) F) ∧ Keeps B w w' := by
  have k0 : w.cell? ⟨gb, 0, none⟩ = some (.map (some jn)) := h.cell rfl
  have h1 := h.below (drew_below w)
  have hlk := vmap_look_ok h1.nmap Tryz.underlying74 (Tryz.zeroValue90 w.drew) hx
  unfold nfun at hlk
  rw [if_neg hxN] at hlk
  simp only [Option.getD_none, Option.isSome_none] at hlk
  have h2 := h1.below (drew_below w.drew)
  obtain ⟨w7, hrun7, hm7, hg7⟩ := vmap_put h2.nmap Tryz.underlying74 hx hm (by omega) (.iface 205 (.int .i64 x))
  have e7 : updV (nfun N) x (some (.iface 205 (.int .i64 x))) = nfun (x :: N) := by
    funext y
    unfold updV nfun
    by_cases e : y = x
    · subst e
      rw [if_pos rfl, if_pos List.mem_cons_self]; rfl
    · rw [if_neg e]
      by_cases e2 : y ∈ N
      · rw [if_pos e2, if_pos (List.mem_cons_of_mem _ e2)]
      · rw [if_neg e2, if_neg (by simp [e, e2])]
  rw [e7] at hm7
  have h7 := h2.turnN hg7 hm7
  have hb7 : Hid (Keeps B w w7) := ((Keeps.refl B w).drew.drew).trans (Keeps.grow hg7 (h.lo h.an))
  have h8 := h7.below (drew_below w7)
  have k5 : w7.cell? ⟨gb, 5, none⟩ = some (.pointer (some ⟨ju, 0, none⟩)) := h7.cell rfl
  have huse := Lib.hid (use_any h8 hx hm hl)
  have hmi := nidw_method
  clear h h1 h2 hm7 hg7 e7 h7 h8 hm hl hxN
  go_enter Tryz.func105, Tryz.ntmps105
  go_wp2_with fail
  go_region_law (go_simp; go_at_call 178; refine (id_any _ _).mono ?_; rintro e w' ⟨rfl, rfl⟩)
  all_goals
    go_wp2_with fail
    go_region_law (go_simp; go_at_call 178; refine (id_any _ _).mono ?_; rintro e w' ⟨rfl, rfl⟩)
  all_goals
    go_wp2_with fail
    go_region_law (first
      | (go_simp; go_at_call 178; refine (id_any _ _).mono ?_; rintro e w' ⟨rfl, rfl⟩)
      | (go_simp; go_at_call 114; refine (unhide huse).mono ?_; rintro e w9 ⟨rfl, h9, hb9⟩))
  all_goals
    go_wp2_with fail
    go_end0
    exact ⟨rfl, h9, hb7.out.drew.trans hb9⟩

set_option maxRecDepth 100000 in
set_option maxHeartbeats 2000000 in
theorem addNodeUndirected_any {w : World} {ids : List Int} {B : Nat → Prop} {ad : WR → Option Nat} {c : WR → Cont} {gb jn je jt ju js jr : Nat} {N : List Int} {F : Int → Int → Option Value}
    (h : WG false w ids B ad c gb jn je jt ju js jr N F) {x : Int} (hx : In64 x) (hm : x ∈ ids) (hxN : x ∉ N) (hl : ids.length ≤ 1000) :
    Calls Tryz.prog 119 #[.pointer (some ⟨gb, 0, none⟩), .iface 205 (.int .i64 x)] w
      fun e w' => e = .returned (.tuple #[]) ∧ (∃ c', WG false w' ids B ad c' gb jn je jt ju js jr (x :: N) F) ∧ Keeps B w w' := by
  have k0 : w.cell? ⟨gb, 0, none⟩ = some (.map (some jn)) := h.cell rfl
  have h1 := h.below (drew_below w)
  have hlk := vmap_look_ok h1.nmap Tryz.underlying74 (Tryz.zeroValue90 w.drew) hx
  unfold nfun at hlk
  rw [if_neg hxN] at hlk
  simp only [Option.getD_none, Option.isSome_none] at hlk
  have h2 := h1.below (drew_below w.drew)
  obtain ⟨w7, hrun7, hm7, hg7⟩ := vmap_put h2.nmap Tryz.underlying74 hx hm (by omega) (.iface 205 (.int .i64 x))
  have e7 : updV (nfun N) x (some (.iface 205 (.int .i64 x))) = nfun (x :: N) := by
    funext y
    unfold updV nfun
    by_cases e : y = x
    · subst e
      rw [if_pos rfl, if_pos List.mem_cons_self]; rfl
    · rw [if_neg e]
      by_cases e2 : y ∈ N
      · rw [if_pos e2, if_pos (List.mem_cons_of_mem _ e2)]
      · rw [if_neg e2, if_neg (by simp [e, e2])]
  rw [e7] at hm7
  have h7 := h2.turnN hg7 hm7
  have hb7 : Hid (Keeps B w w7) := ((Keeps.refl B w).drew.drew).trans (Keeps.grow hg7 (h.lo h.an))
  have h8 := h7.below (drew_below w7)
  have k5 : w7.cell? ⟨gb, 4, none⟩ = some (.pointer (some ⟨ju, 0, none⟩)) := h7.cell rfl
  have huse := Lib.hid (use_any h8 hx hm hl)
  have hmi := nidw_method
  clear h h1 h2 hm7 hg7 e7 h7 h8 hm hl hxN
  go_enter Tryz.func119, Tryz.ntmps119
  go_wp2_with fail
  go_region_law (go_simp; go_at_call 178; refine (id_any _ _).mono ?_; rintro e w' ⟨rfl, rfl⟩)
  all_goals
    go_wp2_with fail
    go_region_law (go_simp; go_at_call 178; refine (id_any _ _).mono ?_; rintro e w' ⟨rfl, rfl⟩)
  all_goals
    go_wp2_with fail
    go_region_law (first
      | (go_simp; go_at_call 178; refine (id_any _ _).mono ?_; rintro e w' ⟨rfl, rfl⟩)
      | (go_simp; go_at_call 114; refine (unhide huse).mono ?_; rintro e w9 ⟨rfl, h9, hb9⟩))
  all_goals
    go_wp2_with fail
    go_end0
    exact ⟨rfl, h9, hb7.out.drew.trans hb9⟩

end Go.Proofs.YtgkimjjodhnmiaaGreat

namespace Go.Proofs.YtgkimjjodhnmiaaGreat
open Go.RowKit Go.Maps

theorem vmap_new' (w : World) (ids : List Int) : VMap (w.alloc (.map #[] 0)) ids w.heap.size (fun _ => none) := vmap_new w ids

section
variable {dir : Bool} {w : World} {ids : List Int} {B : Nat → Prop} {ad : WR → Option Nat} {c : WR → Cont} {gb jn je jt ju js jr : Nat} {N : List Int} {F : Int → Int → Option Value}

/-- A node that is there laid once more. -/
theorem WG.again (h : WG dir w ids B ad c gb jn je jt ju js jr N F) {x : Int} (hx : In64 x) (hm : x ∈ ids) (hxN : x ∈ N) (hl : ids.length ≤ 1000) :
    (Instr.lookup 74 (.map (some jn)) (.int .i64 x) true).run Tryz.prog w = .ok (.tuple #[.iface 205 (.int .i64 x), .bool true]) w ∧
    ∃ w', (Instr.mapUpdate 74 (.map (some jn)) (.int .i64 x) (.iface 205 (.int .i64 x))).run Tryz.prog w = .ok () w' ∧ (∃ c', WG dir w' ids B ad c' gb jn je jt ju js jr N F) ∧ Keeps B w w' := by
  have hlk := vmap_look_ok h.nmap Tryz.underlying74 (Tryz.zeroValue90 w) hx
  unfold nfun at hlk
  rw [if_pos hxN] at hlk
  obtain ⟨w7, hrun7, hm7, hg7⟩ := vmap_put h.nmap Tryz.underlying74 hx hm (by omega) (.iface 205 (.int .i64 x))
  have e7 : updV (nfun N) x (some (.iface 205 (.int .i64 x))) = nfun N := by
    funext y
    unfold updV nfun
    by_cases e : y = x
    · subst e
      rw [if_pos rfl, if_pos hxN]; rfl
    · rw [if_neg e]
  rw [e7] at hm7
  exact ⟨hlk, w7, hrun7, ⟨_, h.turnN hg7 hm7⟩, Keeps.grow hg7 (h.lo h.an)⟩

theorem WG.layE (h : WG dir w ids B ad c gb jn je jt ju js jr N F) {x y : Int} (hx : In64 x) (hy : In64 y) (hxm : x ∈ ids) (hym : y ∈ ids) (hl : ids.length ≤ 1000) (v : Value) :
    (∃ j w', (Instr.lookup 75 (.map (some je)) (.int .i64 x) true).run Tryz.prog w = .ok (.tuple #[.map (some j), .bool true]) w ∧
      (Instr.mapUpdate 102 (.map (some j)) (.int .i64 y) v).run Tryz.prog w = .ok () w' ∧ (∃ ad' c', WG dir w' ids B ad' c' gb jn je jt ju js jr N (updE F x y v)) ∧ Keeps B w w') ∨
    (∃ w2 w3, (Instr.lookup 75 (.map (some je)) (.int .i64 x) true).run Tryz.prog w = .ok (.tuple #[.map none, .bool false]) w ∧
      (Instr.mapUpdate 102 (.map (some w.heap.size)) (.int .i64 y) v).run Tryz.prog (w.alloc (.map #[] 0)) = .ok () w2 ∧
      (Instr.mapUpdate 75 (.map (some je)) (.int .i64 x) (.map (some w.heap.size))).run Tryz.prog w2 = .ok () w3 ∧ (∃ ad' c', WG dir w3 ids B ad' c' gb jn je jt ju js jr N (updE F x y v)) ∧ Keeps B w w3) := by
  have hlk := vmap_look_ok h.emap Tryz.underlying75 (Tryz.zeroValue102 w) hx
  cases hc : ad (.ei x) with
  | some j =>
    left
    unfold mfun at hlk
    simp only [hc] at hlk
    obtain ⟨w', hr, hm, hg⟩ := vmap_put (h.imap hc) Tryz.underlying102 hy hym (by omega) v
    obtain ⟨c', h'⟩ := h.putE hc hg hm
    exact ⟨j, w', hlk, hr, ⟨ad, c', h'⟩, Keeps.grow hg (h.lo hc)⟩
  | none =>
    right
    unfold mfun at hlk
    simp only [hc] at hlk
    obtain ⟨w2, hr, hm, hg⟩ := vmap_put (vmap_new' w ids) Tryz.underlying102 hy hym (by omega) v
    have hg1 : w.grownBy w2 none := by
      refine ⟨hg.os, hg.tape, hg.output, by have := hg.size; simp at this; omega, fun k hk _ => ?_⟩
      rw [hg.block k (by simp; omega) (by intro e; injection e with e; omega), Below.heap_alloc _ _ _ hk]
    have hem : VMap w2 ids je (mfun fun x => ad (.ei x)) := (h.grown hg1).emap
    obtain ⟨w3, hr3, hm3, hg3⟩ := vmap_put hem Tryz.underlying75 hx hxm (by omega) (.map (some w.heap.size))
    obtain ⟨ad', c', h'⟩ := h.newE (y := y) (v := v) hc hg1 (Nat.le_refl _) hm hg3 hm3
    refine ⟨w2, w3, hlk, hr, hr3, ⟨ad', c', h'⟩, ?_⟩
    have hb2 : Keeps B w w2 := ⟨hg1.os, hg1.tape, hg1.output, hg1.size, fun k hk _ => hg1.block k hk (by simp)⟩
    exact hb2.trans (Keeps.grow hg3 (h.lo h.ae))

theorem WG.layT (hd : dir = true) (h : WG dir w ids B ad c gb jn je jt ju js jr N F) {x y : Int} (hx : In64 x) (hy : In64 y) (hxm : x ∈ ids) (hym : y ∈ ids) (hl : ids.length ≤ 1000) (v : Value) :
    (∃ j w', (Instr.lookup 75 (.map (some jt)) (.int .i64 x) true).run Tryz.prog w = .ok (.tuple #[.map (some j), .bool true]) w ∧
      (Instr.mapUpdate 102 (.map (some j)) (.int .i64 y) v).run Tryz.prog w = .ok () w' ∧ (∃ ad' c', WG dir w' ids B ad' c' gb jn je jt ju js jr N F) ∧ Keeps B w w') ∨
    (∃ w2 w3, (Instr.lookup 75 (.map (some jt)) (.int .i64 x) true).run Tryz.prog w = .ok (.tuple #[.map none, .bool false]) w ∧
      (Instr.mapUpdate 102 (.map (some w.heap.size)) (.int .i64 y) v).run Tryz.prog (w.alloc (.map #[] 0)) = .ok () w2 ∧
      (Instr.mapUpdate 75 (.map (some jt)) (.int .i64 x) (.map (some w.heap.size))).run Tryz.prog w2 = .ok () w3 ∧ (∃ ad' c', WG dir w3 ids B ad' c' gb jn je jt ju js jr N F) ∧ Keeps B w w3) := by
  have hlk := vmap_look_ok (h.tmap hd) Tryz.underlying75 (Tryz.zeroValue102 w) hx
  cases hc : ad (.ti x) with
  | some j =>
    left
    unfold mfun at hlk
    simp only [hc] at hlk
    obtain ⟨f, hf⟩ := h.ti x j hc
    obtain ⟨w', hr, hm, hg⟩ := vmap_put (h.R.map hc hf) Tryz.underlying102 hy hym (by omega) v
    obtain ⟨c', h'⟩ := h.putT hc hg hm
    exact ⟨j, w', hlk, hr, ⟨ad, c', h'⟩, Keeps.grow hg (h.lo hc)⟩
  | none =>
    right
    unfold mfun at hlk
    simp only [hc] at hlk
    obtain ⟨w2, hr, hm, hg⟩ := vmap_put (vmap_new' w ids) Tryz.underlying102 hy hym (by omega) v
    have hg1 : w.grownBy w2 none := by
      refine ⟨hg.os, hg.tape, hg.output, by have := hg.size; simp at this; omega, fun k hk _ => ?_⟩
      rw [hg.block k (by simp; omega) (by intro e; injection e with e; omega), Below.heap_alloc _ _ _ hk]
    have hem : VMap w2 ids jt (mfun fun x => ad (.ti x)) := (h.grown hg1).tmap hd
    obtain ⟨w3, hr3, hm3, hg3⟩ := vmap_put hem Tryz.underlying75 hx hxm (by omega) (.map (some w.heap.size))
    obtain ⟨ad', c', h'⟩ := h.newT hd (x := x) hg1 (Nat.le_refl _) hm hg3 hm3
    refine ⟨w2, w3, hlk, hr, hr3, ⟨ad', c', h'⟩, ?_⟩
    have hb2 : Keeps B w w2 := ⟨hg1.os, hg1.tape, hg1.output, hg1.size, fun k hk _ => hg1.block k hk (by simp)⟩
    exact hb2.trans (Keeps.grow hg3 (h.lo (h.at_ hd)))
end
end Go.Proofs.YtgkimjjodhnmiaaGreat

namespace Go.Proofs.YtgkimjjodhnmiaaGreat
open Go.RowKit Go.Maps

/-- The value of an edge. -/
def wev (x y : Int) (b : Nat) : Value := .iface 207 (.agg #[.iface 205 (.int .i64 x), .iface 205 (.int .i64 y), .float .f64 b])

theorem wfrom_any (x y : Int) (b : Nat) (w : World) : Calls Tryz.prog 179 #[.agg #[.iface 205 (.int .i64 x), .iface 205 (.int .i64 y), .float .f64 b]] w
    fun e w' => e = .returned (.iface 205 (.int .i64 x)) ∧ Below w.heap.size w w' := by
  go_enter Tryz.func179, Tryz.ntmps179
  go_wp2
  go_ret
  exact ⟨rfl, alloc_below w _⟩
theorem wto_any (x y : Int) (b : Nat) (w : World) : Calls Tryz.prog 181 #[.agg #[.iface 205 (.int .i64 x), .iface 205 (.int .i64 y), .float .f64 b]] w
    fun e w' => e = .returned (.iface 205 (.int .i64 y)) ∧ Below w.heap.size w w' := by
  go_enter Tryz.func181, Tryz.ntmps181
  go_wp2
  go_ret
  exact ⟨rfl, alloc_below w _⟩
theorem wweight_any (x y : Int) (b : Nat) (w : World) : Calls Tryz.prog 182 #[.agg #[.iface 205 (.int .i64 x), .iface 205 (.int .i64 y), .float .f64 b]] w
    fun e w' => e = .returned (.float .f64 b) ∧ Below w.heap.size w w' := by
  go_enter Tryz.func182, Tryz.ntmps182
  go_wp2
  go_ret
  exact ⟨rfl, alloc_below w _⟩
theorem wfrom_method (n : Nat) (a b c : Value) (w : World) : (method (n + 1) 207 (.agg #[a, b, c]) "From").run Tryz.prog w = .ok (179, .agg #[a, b, c]) w := by kernel_rfl
theorem wto_method (n : Nat) (a b c : Value) (w : World) : (method (n + 1) 207 (.agg #[a, b, c]) "To").run Tryz.prog w = .ok (181, .agg #[a, b, c]) w := by kernel_rfl
theorem wweight_method (n : Nat) (a b c : Value) (w : World) : (method (n + 1) 207 (.agg #[a, b, c]) "Weight").run Tryz.prog w = .ok (182, .agg #[a, b, c]) w := by kernel_rfl

set_option maxRecDepth 100000 in
set_option maxHeartbeats 4000000 in
theorem setEdgeDirected_any {w : World} {ids : List Int} {B : Nat → Prop} {ad : WR → Option Nat} {c : WR → Cont} {gb jn je jt ju js jr : Nat} {N : List Int} {F : Int → Int → Option Value}
    (h : WG true w ids B ad c gb jn je jt ju js jr N F) {x y : Int} (b : Nat) (hx : In64 x) (hy : In64 y) (hxm : x ∈ ids) (hym : y ∈ ids) (hxN : x ∈ N) (hyN : y ∈ N) (hxy : x ≠ y) (hl : ids.length ≤ 1000) :
    Calls Tryz.prog 112 #[.pointer (some ⟨gb, 0, none⟩), wev x y b] w
      fun e w' => e = .returned (.tuple #[]) ∧ (∃ ad' c', WG true w' ids B ad' c' gb jn je jt ju js jr N (updE F x y (wev x y b))) ∧ Keeps B w w' := by
  have hne : (x == y) = false := by simpa using hxy
  have hne2 : decide (x = y) = false := decide_eq_false hxy
  have hmf := wfrom_method
  have hmt := wto_method
  have hH := Lib.hid h
  have hxh := Lib.hid hx
  have hyh := Lib.hid hy
  unfold wev
  clear h hx hy
  go_enter Tryz.func112, Tryz.ntmps112
  go_wp2_with fail
  refine (wfrom_any x y b w).mono ?_
  rintro e w1 ⟨rfl, hb1⟩
  have h1 := hH.out.below hb1
  have hb1h : Hid (Keeps B w w1) := Keeps.of hb1
  have h1h := Lib.hid h1
  clear hb1 h1 hH
  go_wp2_with (go_at_call 178; refine (id_any _ _).mono ?_; rintro e w' ⟨rfl, rfl⟩)
  refine (wto_any x y b w1).mono ?_
  rintro e w2 ⟨rfl, hb2⟩
  have h2 := h1h.out.below hb2
  have hb2h : Hid (Keeps B w w2) := hb1h.out.trans (Keeps.of hb2)
  have k0 : w2.cell? ⟨gb, 0, none⟩ = some (.map (some jn)) := h2.cell rfl
  obtain ⟨hlx, w3, hux, ⟨c3, h3⟩, hb3⟩ := h2.again hxh.out hxm hxN hl
  have k3 : w3.cell? ⟨gb, 0, none⟩ = some (.map (some jn)) := h3.cell rfl
  obtain ⟨hly, w4, huy, ⟨c4, h4⟩, hb4⟩ := h3.again hyh.out hym hyN hl
  have k4 : w4.cell? ⟨gb, 1, none⟩ = some (.map (some je)) := h4.cell rfl
  have hb4h : Hid (Keeps B w w4) := hb2h.out.trans (hb3.trans hb4)
  clear hb2 h2 hb3 hb4 h3 h1h hb1h
  rcases h4.layE (y := y) hxh.out hyh.out hxm hym hl (wev x y b) with ⟨j, w5, he1, he2, ⟨ad5, c5, h5⟩, hb5⟩ | ⟨w5a, w5, he1, he2, he3, ⟨ad5, c5, h5⟩, hb5⟩
  · have k5 : w5.cell? ⟨gb, 2, none⟩ = some (.map (some jt)) := h5.cell rfl
    rcases h5.layT rfl hyh.out hxh.out hym hxm hl (wev x y b) with ⟨i, w6, hf1, hf2, ⟨ad6, c6, h6⟩, hb6⟩ | ⟨w6a, w6, hf1, hf2, hf3, ⟨ad6, c6, h6⟩, hb6⟩
    · have hfin := Lib.hid (hb4h.out.trans (hb5.trans hb6))
      have h6h := Lib.hid h6
      unfold wev at he2 hf2
      clear hb5 hb6 h4 h5 h6
      go_wp2_with (go_at_call 178; refine (id_any _ _).mono ?_; rintro e w' ⟨rfl, rfl⟩)
      go_end0
      exact ⟨rfl, ⟨_, _, h6h.out⟩, hfin.out⟩
    · have hfin := Lib.hid (hb4h.out.trans (hb5.trans hb6))
      have h6h := Lib.hid h6
      have hmm := @run_makeMap Tryz.prog
      unfold wev at he2 hf2
      clear hb5 hb6 h4 h5 h6
      go_wp2_with (go_at_call 178; refine (id_any _ _).mono ?_; rintro e w' ⟨rfl, rfl⟩)
      go_end0
      exact ⟨rfl, ⟨_, _, h6h.out⟩, hfin.out⟩
  · have k5 : w5.cell? ⟨gb, 2, none⟩ = some (.map (some jt)) := h5.cell rfl
    have hmm := @run_makeMap Tryz.prog
    rcases h5.layT rfl hyh.out hxh.out hym hxm hl (wev x y b) with ⟨i, w6, hf1, hf2, ⟨ad6, c6, h6⟩, hb6⟩ | ⟨w6a, w6, hf1, hf2, hf3, ⟨ad6, c6, h6⟩, hb6⟩
    · have hfin := Lib.hid (hb4h.out.trans (hb5.trans hb6))
      have h6h := Lib.hid h6
      unfold wev at he2 hf2
      clear hb5 hb6 h4 h5 h6
      go_wp2_with (go_at_call 178; refine (id_any _ _).mono ?_; rintro e w' ⟨rfl, rfl⟩)
      go_end0
      exact ⟨rfl, ⟨_, _, h6h.out⟩, hfin.out⟩
    · have hfin := Lib.hid (hb4h.out.trans (hb5.trans hb6))
      have h6h := Lib.hid h6
      unfold wev at he2 hf2
      clear hb5 hb6 h4 h5 h6
      go_wp2_with (go_at_call 178; refine (id_any _ _).mono ?_; rintro e w' ⟨rfl, rfl⟩)
      go_end0
      exact ⟨rfl, ⟨_, _, h6h.out⟩, hfin.out⟩

set_option maxRecDepth 100000 in
set_option maxHeartbeats 4000000 in
theorem setEdgeUndirected_any {w : World} {ids : List Int} {B : Nat → Prop} {ad : WR → Option Nat} {c : WR → Cont} {gb jn je jt ju js jr : Nat} {N : List Int} {F : Int → Int → Option Value}
    (h : WG false w ids B ad c gb jn je jt ju js jr N F) {x y : Int} (b : Nat) (hx : In64 x) (hy : In64 y) (hxm : x ∈ ids) (hym : y ∈ ids) (hxN : x ∈ N) (hyN : y ∈ N) (hxy : x ≠ y) (hl : ids.length ≤ 1000) :
    Calls Tryz.prog 126 #[.pointer (some ⟨gb, 0, none⟩), wev x y b] w
      fun e w' => e = .returned (.tuple #[]) ∧ (∃ ad' c', WG false w' ids B ad' c' gb jn je jt ju js jr N (updE (updE F x y (wev x y b)) y x (wev x y b))) ∧ Keeps B w w' := by
  have hne : (x == y) = false := by simpa using hxy
  have hne2 : decide (x = y) = false := decide_eq_false hxy
  have hmf := wfrom_method
  have hmt := wto_method
  have hH := Lib.hid h
  have hxh := Lib.hid hx
  have hyh := Lib.hid hy
  unfold wev
  clear h hx hy
  go_enter Tryz.func126, Tryz.ntmps126
  go_wp2_with fail
  refine (wfrom_any x y b w).mono ?_
  rintro e w1 ⟨rfl, hb1⟩
  have h1 := hH.out.below hb1
  have hb1h : Hid (Keeps B w w1) := Keeps.of hb1
  have h1h := Lib.hid h1
  clear hb1 h1 hH
  go_wp2_with (go_at_call 178; refine (id_any _ _).mono ?_; rintro e w' ⟨rfl, rfl⟩)
  refine (wto_any x y b w1).mono ?_
  rintro e w2 ⟨rfl, hb2⟩
  have h2 := h1h.out.below hb2
  have hb2h : Hid (Keeps B w w2) := hb1h.out.trans (Keeps.of hb2)
  have k0 : w2.cell? ⟨gb, 0, none⟩ = some (.map (some jn)) := h2.cell rfl
  obtain ⟨hlx, w3, hux, ⟨c3, h3⟩, hb3⟩ := h2.again hxh.out hxm hxN hl
  have k3 : w3.cell? ⟨gb, 0, none⟩ = some (.map (some jn)) := h3.cell rfl
  obtain ⟨hly, w4, huy, ⟨c4, h4⟩, hb4⟩ := h3.again hyh.out hym hyN hl
  have k4 : w4.cell? ⟨gb, 1, none⟩ = some (.map (some je)) := h4.cell rfl
  have hb4h : Hid (Keeps B w w4) := hb2h.out.trans (hb3.trans hb4)
  clear hb2 h2 hb3 hb4 h3 h1h hb1h
  rcases h4.layE (y := y) hxh.out hyh.out hxm hym hl (wev x y b) with ⟨j, w5, he1, he2, ⟨ad5, c5, h5⟩, hb5⟩ | ⟨w5a, w5, he1, he2, he3, ⟨ad5, c5, h5⟩, hb5⟩
  · have k5 : w5.cell? ⟨gb, 1, none⟩ = some (.map (some je)) := h5.cell rfl
    rcases h5.layE hyh.out hxh.out hym hxm hl (wev x y b) with ⟨i, w6, hf1, hf2, ⟨ad6, c6, h6⟩, hb6⟩ | ⟨w6a, w6, hf1, hf2, hf3, ⟨ad6, c6, h6⟩, hb6⟩
    · have hfin := Lib.hid (hb4h.out.trans (hb5.trans hb6))
      have h6h := Lib.hid h6
      unfold wev at he2 hf2
      clear hb5 hb6 h4 h5 h6
      go_wp2_with (go_at_call 178; refine (id_any _ _).mono ?_; rintro e w' ⟨rfl, rfl⟩)
      go_end0
      exact ⟨rfl, ⟨_, _, h6h.out⟩, hfin.out⟩
    · have hfin := Lib.hid (hb4h.out.trans (hb5.trans hb6))
      have h6h := Lib.hid h6
      have hmm := @run_makeMap Tryz.prog
      unfold wev at he2 hf2
      clear hb5 hb6 h4 h5 h6
      go_wp2_with (go_at_call 178; refine (id_any _ _).mono ?_; rintro e w' ⟨rfl, rfl⟩)
      go_end0
      exact ⟨rfl, ⟨_, _, h6h.out⟩, hfin.out⟩
  · have k5 : w5.cell? ⟨gb, 1, none⟩ = some (.map (some je)) := h5.cell rfl
    have hmm := @run_makeMap Tryz.prog
    rcases h5.layE hyh.out hxh.out hym hxm hl (wev x y b) with ⟨i, w6, hf1, hf2, ⟨ad6, c6, h6⟩, hb6⟩ | ⟨w6a, w6, hf1, hf2, hf3, ⟨ad6, c6, h6⟩, hb6⟩
    · have hfin := Lib.hid (hb4h.out.trans (hb5.trans hb6))
      have h6h := Lib.hid h6
      unfold wev at he2 hf2
      clear hb5 hb6 h4 h5 h6
      go_wp2_with (go_at_call 178; refine (id_any _ _).mono ?_; rintro e w' ⟨rfl, rfl⟩)
      go_end0
      exact ⟨rfl, ⟨_, _, h6h.out⟩, hfin.out⟩
    · have hfin := Lib.hid (hb4h.out.trans (hb5.trans hb6))
      have h6h := Lib.hid h6
      unfold wev at he2 hf2
      clear hb5 hb6 h4 h5 h6
      go_wp2_with (go_at_call 178; refine (id_any _ _).mono ?_; rintro e w' ⟨rfl, rfl⟩)
      go_end0
      exact ⟨rfl, ⟨_, _, h6h.out⟩, hfin.out⟩

end Go.Proofs.YtgkimjjodhnmiaaGreat
