/-
  No cell of these rows narrows 'for every input' (looked for: loops, veiled, ifaces, maps, wideKeys, modest, calm, conditions, laid).
  DERIVED. THE GIVEN ROWS OF THIS SEAT. 2 by the template 'for every input the law returns true; each argument reads behind the call as it read before'; 0 by the template 'total and deterministic' (their statements: YtaolfdmmadfncaaTotals.lean).
  GIVEN WITH THE SEED: the statements are not yours to turn. If you find one false, say at which input.
  Laid BY PROGRAM, IN A SANDBOX (cutbox-rows.mjs): the forced cells as the released guide's own fill.sh prints them over the translation 9523e6136871d0a2… (all of the seat's roots in one cut). By AI agents, Wed Nov 11 2026. No macro, syntax, notation, axiom, sorry.
-/
import Derived.Test.YtaolfdmmadfncaaChecked
import GoSem.Claim
import GoSem.ClaimJoined
import GoSem.ClaimMapViews
import Derived.JoinedTies
import Derived.KernelRfl
namespace Go.Proofs.Ytaolfdmmadfncaa
/- THE CELL 'sum', in the pinned program and in every row, IS THE sha256 OF THE DUMP (.gsa) THAT YtaolfdmmadfncaaProg.lean LOADS. Nothing in Lean hashes anything: it is a label: what it is worth is what the hold of that sum in a sandbox is worth. -/
noncomputable def Try.pinned : Pinned := { name := "ytaolfdmmadfncaa", sum := "9523e6136871d0a2e987135e39e960f7044390c16bdbf4ed2c8a3f9736da53de", checked := Try.checked }
namespace Rows
def none {H : Type} : Left H := { results := [], args := [] }

/-- 'laws.FnEqual': WHATEVER THE INPUT: true; the input reads as it did. -/
def fnEqualSpec : ChangeSpec := { name := "fnEqual", fn := fun _ => fun
  | [d1, d2] => { results := [.lit (.bool true)], args := [d1, d2] }
  | _ => none }
def fnEqualRow : OpenClaim := { program := "ytaolfdmmadfncaa", sum := "9523e6136871d0a2e987135e39e960f7044390c16bdbf4ed2c8a3f9736da53de", func := "pub-labyrinth/laws.FnEqual", spec := "fnEqual", inPlace := ["slices.overlaps[pub-labyrinth/impl.arc]"], unfollowed := true, recurses := true, apart := false }
def FnEqualSaid : Prop := fnEqualRow.holds Try.pinned (OpenSpec.ofChange fnEqualSpec)

/-- ITS FALSE NEIGHBOUR: 'it returns false'. Refute it at one input. -/
def fnEqualWrong : ChangeSpec := { name := "fnEqual", fn := fun _ => fun
  | [d1, d2] => { results := [.lit (.bool false)], args := [d1, d2] }
  | _ => none }
def FnEqualWrongFalsely : Prop := fnEqualRow.holds Try.pinned (OpenSpec.ofChange fnEqualWrong)

/-- 'laws.FnPathStep': WHATEVER THE INPUT: true; the input reads as it did. -/
def fnPathStepSpec : ChangeSpec := { name := "fnPathStep", fn := fun _ => fun
  | [d1, d2, d3] => { results := [.lit (.bool true)], args := [d1, d2, d3] }
  | _ => none }
def fnPathStepRow : OpenClaim := { program := "ytaolfdmmadfncaa", sum := "9523e6136871d0a2e987135e39e960f7044390c16bdbf4ed2c8a3f9736da53de", func := "pub-labyrinth/laws.FnPathStep", spec := "fnPathStep", inPlace := ["slices.overlaps[pub-labyrinth/impl.arc]"], unfollowed := true, recurses := true, apart := false }
def FnPathStepSaid : Prop := fnPathStepRow.holds Try.pinned (OpenSpec.ofChange fnPathStepSpec)

/-- ITS FALSE NEIGHBOUR: 'it returns false'. Refute it at one input. -/
def fnPathStepWrong : ChangeSpec := { name := "fnPathStep", fn := fun _ => fun
  | [d1, d2, d3] => { results := [.lit (.bool false)], args := [d1, d2, d3] }
  | _ => none }
def FnPathStepWrongFalsely : Prop := fnPathStepRow.holds Try.pinned (OpenSpec.ofChange fnPathStepWrong)

/- THE SECOND FORM. 'bulk': how many values and letters a reading holds, each counted each time it is reached (what is shared counts as often as it is met; a slice's spare places count too). A statement '..UptoSaid' is the law's where the arguments, and the package variables that the reading takes, are together of bulk at most 1048576: NARROWER than '..Said'. Prove '..Said' where nothing that the law and all that it calls make is longer than what came in: it says more and counts as full. Else prove '..UptoSaid'. A law counts once. -/
mutual
def uptoBulk {H : Type} : DataW H → Nat
  | .lit (.string bytes) => bytes.length + 1
  | .lit _ => 1
  | .nil => 1
  | .ptr d => uptoBulk d + 1
  | .slice elems spare => uptoBulkAll elems + uptoBulkAll spare + 1
  | .agg parts => uptoBulkAll parts + 1
  | .iface _ d => uptoBulk d + 1
  | .map entries => uptoBulkEntries entries + 1
  | .held _ => 1
def uptoBulkAll {H : Type} : List (DataW H) → Nat
  | [] => 0
  | d :: r => uptoBulk d + uptoBulkAll r
def uptoBulkEntries {H : Type} : List (Lit × DataW H) → Nat
  | [] => 0
  | x :: r => uptoBulkEntry x + uptoBulkEntries r
def uptoBulkEntry {H : Type} : Lit × DataW H → Nat
  | (.string bytes, d) => bytes.length + uptoBulk d + 1
  | (_, d) => uptoBulk d + 1
 end
def uptoSmall : (H : Type) → List (DataW H) → Bool := fun _ ds => decide (uptoBulkAll ds ≤ 1048576)
def OpenSpec.upto (s : _root_.Go.ChangeSpec) : _root_.Go.OpenSpec := { _root_.Go.OpenSpec.ofChange s with cond := some uptoSmall }

/-- 'laws.FnEqual', WHERE WHAT IT READS IS OF BULK AT MOST 1048576: true; the input reads as it did. -/
def fnEqualUptoRow : OpenClaim := { program := "ytaolfdmmadfncaa", sum := "9523e6136871d0a2e987135e39e960f7044390c16bdbf4ed2c8a3f9736da53de", func := "pub-labyrinth/laws.FnEqual", spec := "fnEqual", inPlace := ["slices.overlaps[pub-labyrinth/impl.arc]"], unfollowed := true, recurses := true, apart := false, narrowed := true }
def FnEqualUptoSaid : Prop := fnEqualUptoRow.holds Try.pinned (OpenSpec.upto fnEqualSpec)

/-- 'laws.FnPathStep', WHERE WHAT IT READS IS OF BULK AT MOST 1048576: true; the input reads as it did. -/
def fnPathStepUptoRow : OpenClaim := { program := "ytaolfdmmadfncaa", sum := "9523e6136871d0a2e987135e39e960f7044390c16bdbf4ed2c8a3f9736da53de", func := "pub-labyrinth/laws.FnPathStep", spec := "fnPathStep", inPlace := ["slices.overlaps[pub-labyrinth/impl.arc]"], unfollowed := true, recurses := true, apart := false, narrowed := true }
def FnPathStepUptoSaid : Prop := fnPathStepUptoRow.holds Try.pinned (OpenSpec.upto fnPathStepSpec)

end Rows
end Go.Proofs.Ytaolfdmmadfncaa
