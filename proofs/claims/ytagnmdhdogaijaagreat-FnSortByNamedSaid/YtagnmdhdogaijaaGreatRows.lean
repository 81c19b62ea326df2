/-
  No cell of these rows narrows 'for every input' (looked for: loops, veiled, ifaces, maps, wideKeys, modest, calm, conditions, laid).
  DERIVED. THE GIVEN ROWS OF THIS SEAT. 4 by the template 'for every input the law returns true; each argument reads behind the call as it read before'; 0 by the template 'total and deterministic' (their statements: YtagnmdhdogaijaaGreatTotals.lean).
  GIVEN WITH THE SEED: the statements are not yours to turn. If you find one false, say at which input.
  Laid BY PROGRAM, IN A SANDBOX (cutbox-rows.mjs): the forced cells as the released guide's own fill.sh prints them over the translation 47b5920b35e61116… (all of the seat's roots in one cut). By AI agents, Wed Nov 11 2026. No macro, syntax, notation, axiom, sorry.
-/
import Derived.Test.YtagnmdhdogaijaaGreatChecked
import GoSem.Claim
import GoSem.ClaimJoined
import GoSem.ClaimMapViews
import Derived.JoinedTies
import Derived.KernelRfl
namespace Go.Proofs.YtagnmdhdogaijaaGreat
/- THE CELL 'sum', in the pinned program and in every row, IS THE sha256 OF THE DUMP (.gsa) THAT YtagnmdhdogaijaaGreatProg.lean LOADS. Nothing in Lean hashes anything: it is a label: what it is worth is what the hold of that sum in a sandbox is worth. -/
noncomputable def Tryz.pinned : Pinned := { name := "ytagnmdhdogaijaagreat", sum := "47b5920b35e61116dd2817fc800ed61c13a7f4abb2e704fd74af2690cb47adac", checked := Tryz.checked }
namespace Rows
def none {H : Type} : Left H := { results := [], args := [] }

/-- 'laws.FnCondensed': WHATEVER THE INPUT: true; the input reads as it did. -/
def fnCondensedSpec : ChangeSpec := { name := "fnCondensed", fn := fun _ => fun
  | [d] => { results := [.lit (.bool true)], args := [d] }
  | _ => none }
def fnCondensedRow : OpenClaim := { program := "ytagnmdhdogaijaagreat", sum := "47b5920b35e61116dd2817fc800ed61c13a7f4abb2e704fd74af2690cb47adac", func := "pub-labyrinth/laws.FnCondensed", spec := "fnCondensed", inPlace := ["slices.overlaps[pub-labyrinth/impl.arc]"], unfollowed := true, recurses := true, apart := false }
def FnCondensedSaid : Prop := fnCondensedRow.holds Tryz.pinned (OpenSpec.ofChange fnCondensedSpec)

/-- ITS FALSE NEIGHBOUR: 'it returns false'. Refute it at one input. -/
def fnCondensedWrong : ChangeSpec := { name := "fnCondensed", fn := fun _ => fun
  | [d] => { results := [.lit (.bool false)], args := [d] }
  | _ => none }
def FnCondensedWrongFalsely : Prop := fnCondensedRow.holds Tryz.pinned (OpenSpec.ofChange fnCondensedWrong)

/-- 'laws.FnSort': WHATEVER THE INPUT: true; the input reads as it did. -/
def fnSortSpec : ChangeSpec := { name := "fnSort", fn := fun _ => fun
  | [d] => { results := [.lit (.bool true)], args := [d] }
  | _ => none }
def fnSortRow : OpenClaim := { program := "ytagnmdhdogaijaagreat", sum := "47b5920b35e61116dd2817fc800ed61c13a7f4abb2e704fd74af2690cb47adac", func := "pub-labyrinth/laws.FnSort", spec := "fnSort", inPlace := ["slices.overlaps[pub-labyrinth/impl.arc]"], unfollowed := true, recurses := true, apart := false }
def FnSortSaid : Prop := fnSortRow.holds Tryz.pinned (OpenSpec.ofChange fnSortSpec)

/-- ITS FALSE NEIGHBOUR: 'it returns false'. Refute it at one input. -/
def fnSortWrong : ChangeSpec := { name := "fnSort", fn := fun _ => fun
  | [d] => { results := [.lit (.bool false)], args := [d] }
  | _ => none }
def FnSortWrongFalsely : Prop := fnSortRow.holds Tryz.pinned (OpenSpec.ofChange fnSortWrong)

/-- 'laws.FnSortByBad': WHATEVER THE INPUT: true; the input reads as it did. -/
def fnSortByBadSpec : ChangeSpec := { name := "fnSortByBad", fn := fun _ => fun
  | [d1, d2] => { results := [.lit (.bool true)], args := [d1, d2] }
  | _ => none }
def fnSortByBadRow : OpenClaim := { program := "ytagnmdhdogaijaagreat", sum := "47b5920b35e61116dd2817fc800ed61c13a7f4abb2e704fd74af2690cb47adac", func := "pub-labyrinth/laws.FnSortByBad", spec := "fnSortByBad", inPlace := ["slices.overlaps[pub-labyrinth/impl.arc]"], unfollowed := true, recurses := true, apart := false }
def FnSortByBadSaid : Prop := fnSortByBadRow.holds Tryz.pinned (OpenSpec.ofChange fnSortByBadSpec)

/-- ITS FALSE NEIGHBOUR: 'it returns false'. Refute it at one input. -/
def fnSortByBadWrong : ChangeSpec := { name := "fnSortByBad", fn := fun _ => fun
  | [d1, d2] => { results := [.lit (.bool false)], args := [d1, d2] }
  | _ => none }
def FnSortByBadWrongFalsely : Prop := fnSortByBadRow.holds Tryz.pinned (OpenSpec.ofChange fnSortByBadWrong)

/-- 'laws.FnSortByNamed': WHATEVER THE INPUT: true; the input reads as it did. -/
def fnSortByNamedSpec : ChangeSpec := { name := "fnSortByNamed", fn := fun _ => fun
  | [d1, d2, d3] => { results := [.lit (.bool true)], args := [d1, d2, d3] }
  | _ => none }
def fnSortByNamedRow : OpenClaim := { program := "ytagnmdhdogaijaagreat", sum := "47b5920b35e61116dd2817fc800ed61c13a7f4abb2e704fd74af2690cb47adac", func := "pub-labyrinth/laws.FnSortByNamed", spec := "fnSortByNamed", inPlace := ["slices.overlaps[pub-labyrinth/impl.arc]"], unfollowed := true, recurses := true, apart := false }
def FnSortByNamedSaid : Prop := fnSortByNamedRow.holds Tryz.pinned (OpenSpec.ofChange fnSortByNamedSpec)

/-- ITS FALSE NEIGHBOUR: 'it returns false'. Refute it at one input. -/
def fnSortByNamedWrong : ChangeSpec := { name := "fnSortByNamed", fn := fun _ => fun
  | [d1, d2, d3] => { results := [.lit (.bool false)], args := [d1, d2, d3] }
  | _ => none }
def FnSortByNamedWrongFalsely : Prop := fnSortByNamedRow.holds Tryz.pinned (OpenSpec.ofChange fnSortByNamedWrong)

/- THE SECOND FORM. 'bulk': how many values and letters a reading holds, each counted each time it is reached (what is shared counts as often as it is met; a slice's spare places count too). A statement '..UptoSaid' is the law's where the arguments, and the package variables that the reading takes, are together of bulk at most 1048576: NARROWER than '..Said'. Prove '..Said' where nothing that the law and all that it calls make is longer than what came in: it says more and counts as full. Else prove '..UptoSaid'. A law counts once. -/
mutual
def uptoBulk {H : Type} : DataW H → Nat
  | .lit (.string bytes) => bytes.length + 1
  | .lit _ => 1
  | .nil => 1
  | .ptr d => uptoBulk d + 1
  | .slice elems spare => uptoBulkAll elems + uptoBulkAll spare + 1
  | .agg parts => uptoBulkAll parts + 1
  | .iface _ d => uptoBulk d + 1
  | .map entries => uptoBulkEntries entries + 1
  | .held _ => 1
def uptoBulkAll {H : Type} : List (DataW H) → Nat
  | [] => 0
  | d :: r => uptoBulk d + uptoBulkAll r
def uptoBulkEntries {H : Type} : List (Lit × DataW H) → Nat
  | [] => 0
  | x :: r => uptoBulkEntry x + uptoBulkEntries r
def uptoBulkEntry {H : Type} : Lit × DataW H → Nat
  | (.string bytes, d) => bytes.length + uptoBulk d + 1
  | (_, d) => uptoBulk d + 1
 end
def uptoSmall : (H : Type) → List (DataW H) → Bool := fun _ ds => decide (uptoBulkAll ds ≤ 1048576)
def OpenSpec.upto (s : _root_.Go.ChangeSpec) : _root_.Go.OpenSpec := { _root_.Go.OpenSpec.ofChange s with cond := some uptoSmall }

/-- 'laws.FnCondensed', WHERE WHAT IT READS IS OF BULK AT MOST 1048576: true; the input reads as it did. -/
def fnCondensedUptoRow : OpenClaim := { program := "ytagnmdhdogaijaagreat", sum := "47b5920b35e61116dd2817fc800ed61c13a7f4abb2e704fd74af2690cb47adac", func := "pub-labyrinth/laws.FnCondensed", spec := "fnCondensed", inPlace := ["slices.overlaps[pub-labyrinth/impl.arc]"], unfollowed := true, recurses := true, apart := false, narrowed := true }
def FnCondensedUptoSaid : Prop := fnCondensedUptoRow.holds Tryz.pinned (OpenSpec.upto fnCondensedSpec)

/-- 'laws.FnSort', WHERE WHAT IT READS IS OF BULK AT MOST 1048576: true; the input reads as it did. -/
def fnSortUptoRow : OpenClaim := { program := "ytagnmdhdogaijaagreat", sum := "47b5920b35e61116dd2817fc800ed61c13a7f4abb2e704fd74af2690cb47adac", func := "pub-labyrinth/laws.FnSort", spec := "fnSort", inPlace := ["slices.overlaps[pub-labyrinth/impl.arc]"], unfollowed := true, recurses := true, apart := false, narrowed := true }
def FnSortUptoSaid : Prop := fnSortUptoRow.holds Tryz.pinned (OpenSpec.upto fnSortSpec)

/-- 'laws.FnSortByBad', WHERE WHAT IT READS IS OF BULK AT MOST 1048576: true; the input reads as it did. -/
def fnSortByBadUptoRow : OpenClaim := { program := "ytagnmdhdogaijaagreat", sum := "47b5920b35e61116dd2817fc800ed61c13a7f4abb2e704fd74af2690cb47adac", func := "pub-labyrinth/laws.FnSortByBad", spec := "fnSortByBad", inPlace := ["slices.overlaps[pub-labyrinth/impl.arc]"], unfollowed := true, recurses := true, apart := false, narrowed := true }
def FnSortByBadUptoSaid : Prop := fnSortByBadUptoRow.holds Tryz.pinned (OpenSpec.upto fnSortByBadSpec)

/-- 'laws.FnSortByNamed', WHERE WHAT IT READS IS OF BULK AT MOST 1048576: true; the input reads as it did. -/
def fnSortByNamedUptoRow : OpenClaim := { program := "ytagnmdhdogaijaagreat", sum := "47b5920b35e61116dd2817fc800ed61c13a7f4abb2e704fd74af2690cb47adac", func := "pub-labyrinth/laws.FnSortByNamed", spec := "fnSortByNamed", inPlace := ["slices.overlaps[pub-labyrinth/impl.arc]"], unfollowed := true, recurses := true, apart := false, narrowed := true }
def FnSortByNamedUptoSaid : Prop := fnSortByNamedUptoRow.holds Tryz.pinned (OpenSpec.upto fnSortByNamedSpec)

end Rows
end Go.Proofs.YtagnmdhdogaijaaGreat
