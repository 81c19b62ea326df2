/-
  No cell of these rows narrows 'for every input' (looked for: loops, veiled, ifaces, maps, wideKeys, modest, calm, conditions, laid).
  DERIVED. THE GIVEN ROWS OF THIS SEAT. 5 by the template 'for every input the law returns true; each argument reads behind the call as it read before'; 0 by the template 'total and deterministic' (their statements: YtpmphefmmcbpaaaGreatTotals.lean).
  GIVEN WITH THE SEED: the statements are not yours to turn. If you find one false, say at which input.
  Laid BY PROGRAM, IN A SANDBOX (cutbox-rows.mjs): the forced cells as the released guide's own fill.sh prints them over the translation 4fee1ff8b7b65e0a… (all of the seat's roots in one cut). By AI agents, Wed Nov 11 2026. No macro, syntax, notation, axiom, sorry.
-/
import Derived.Test.YtpmphefmmcbpaaaGreatChecked
import GoSem.Claim
import GoSem.ClaimJoined
import GoSem.ClaimMapViews
import Derived.JoinedTies
import Derived.KernelRfl
namespace Go.Proofs.YtpmphefmmcbpaaaGreat
/- THE CELL 'sum', in the pinned program and in every row, IS THE sha256 OF THE DUMP (.gsa) THAT YtpmphefmmcbpaaaGreatProg.lean LOADS. Nothing in Lean hashes anything: it is a label: what it is worth is what the hold of that sum in a sandbox is worth. -/
noncomputable def Tryz.pinned : Pinned := { name := "ytpmphefmmcbpaaagreat", sum := "4fee1ff8b7b65e0adafdf5cf1556df94b224552cea921d2dfb6cadfe219d83c1", checked := Tryz.checked }
namespace Rows
def none {H : Type} : Left H := { results := [], args := [] }

/-- 'laws.FnDepthsTold': WHATEVER THE INPUT: true; the input reads as it did. -/
def fnDepthsToldSpec : ChangeSpec := { name := "fnDepthsTold", fn := fun _ => fun
  | [d1, d2, d3] => { results := [.lit (.bool true)], args := [d1, d2, d3] }
  | _ => none }
def fnDepthsToldRow : OpenClaim := { program := "ytpmphefmmcbpaaagreat", sum := "4fee1ff8b7b65e0adafdf5cf1556df94b224552cea921d2dfb6cadfe219d83c1", func := "pub-labyrinth/laws.FnDepthsTold", spec := "fnDepthsTold", inPlace := ["slices.overlaps[pub-labyrinth/impl.arc]"], unfollowed := true, recurses := true, apart := false }
def FnDepthsToldSaid : Prop := fnDepthsToldRow.holds Tryz.pinned (OpenSpec.ofChange fnDepthsToldSpec)

/-- ITS FALSE NEIGHBOUR: 'it returns false'. Refute it at one input. -/
def fnDepthsToldWrong : ChangeSpec := { name := "fnDepthsTold", fn := fun _ => fun
  | [d1, d2, d3] => { results := [.lit (.bool false)], args := [d1, d2, d3] }
  | _ => none }
def FnDepthsToldWrongFalsely : Prop := fnDepthsToldRow.holds Tryz.pinned (OpenSpec.ofChange fnDepthsToldWrong)

/-- 'laws.FnWalksAgree': WHATEVER THE INPUT: true; the input reads as it did. -/
def fnWalksAgreeSpec : ChangeSpec := { name := "fnWalksAgree", fn := fun _ => fun
  | [d1, d2, d3, d4] => { results := [.lit (.bool true)], args := [d1, d2, d3, d4] }
  | _ => none }
def fnWalksAgreeRow : OpenClaim := { program := "ytpmphefmmcbpaaagreat", sum := "4fee1ff8b7b65e0adafdf5cf1556df94b224552cea921d2dfb6cadfe219d83c1", func := "pub-labyrinth/laws.FnWalksAgree", spec := "fnWalksAgree", inPlace := ["slices.overlaps[pub-labyrinth/impl.arc]"], unfollowed := true, recurses := true, apart := false }
def FnWalksAgreeSaid : Prop := fnWalksAgreeRow.holds Tryz.pinned (OpenSpec.ofChange fnWalksAgreeSpec)

/-- ITS FALSE NEIGHBOUR: 'it returns false'. Refute it at one input. -/
def fnWalksAgreeWrong : ChangeSpec := { name := "fnWalksAgree", fn := fun _ => fun
  | [d1, d2, d3, d4] => { results := [.lit (.bool false)], args := [d1, d2, d3, d4] }
  | _ => none }
def FnWalksAgreeWrongFalsely : Prop := fnWalksAgreeRow.holds Tryz.pinned (OpenSpec.ofChange fnWalksAgreeWrong)

/-- 'laws.FnWalkAllDeep': WHATEVER THE INPUT: true; the input reads as it did. -/
def fnWalkAllDeepSpec : ChangeSpec := { name := "fnWalkAllDeep", fn := fun _ => fun
  | [d] => { results := [.lit (.bool true)], args := [d] }
  | _ => none }
def fnWalkAllDeepRow : OpenClaim := { program := "ytpmphefmmcbpaaagreat", sum := "4fee1ff8b7b65e0adafdf5cf1556df94b224552cea921d2dfb6cadfe219d83c1", func := "pub-labyrinth/laws.FnWalkAllDeep", spec := "fnWalkAllDeep", inPlace := ["slices.overlaps[pub-labyrinth/impl.arc]"], unfollowed := true, recurses := true, apart := false }
def FnWalkAllDeepSaid : Prop := fnWalkAllDeepRow.holds Tryz.pinned (OpenSpec.ofChange fnWalkAllDeepSpec)

/-- ITS FALSE NEIGHBOUR: 'it returns false'. Refute it at one input. -/
def fnWalkAllDeepWrong : ChangeSpec := { name := "fnWalkAllDeep", fn := fun _ => fun
  | [d] => { results := [.lit (.bool false)], args := [d] }
  | _ => none }
def FnWalkAllDeepWrongFalsely : Prop := fnWalkAllDeepRow.holds Tryz.pinned (OpenSpec.ofChange fnWalkAllDeepWrong)

/-- 'laws.FnComponentsTold': WHATEVER THE INPUT: true; the input reads as it did. -/
def fnComponentsToldSpec : ChangeSpec := { name := "fnComponentsTold", fn := fun _ => fun
  | [d] => { results := [.lit (.bool true)], args := [d] }
  | _ => none }
def fnComponentsToldRow : OpenClaim := { program := "ytpmphefmmcbpaaagreat", sum := "4fee1ff8b7b65e0adafdf5cf1556df94b224552cea921d2dfb6cadfe219d83c1", func := "pub-labyrinth/laws.FnComponentsTold", spec := "fnComponentsTold", inPlace := ["slices.overlaps[pub-labyrinth/impl.arc]"], unfollowed := true, recurses := true, apart := false }
def FnComponentsToldSaid : Prop := fnComponentsToldRow.holds Tryz.pinned (OpenSpec.ofChange fnComponentsToldSpec)

/-- ITS FALSE NEIGHBOUR: 'it returns false'. Refute it at one input. -/
def fnComponentsToldWrong : ChangeSpec := { name := "fnComponentsTold", fn := fun _ => fun
  | [d] => { results := [.lit (.bool false)], args := [d] }
  | _ => none }
def FnComponentsToldWrongFalsely : Prop := fnComponentsToldRow.holds Tryz.pinned (OpenSpec.ofChange fnComponentsToldWrong)

/-- 'laws.FnComplementTwice': WHATEVER THE INPUT: true; the input reads as it did. -/
def fnComplementTwiceSpec : ChangeSpec := { name := "fnComplementTwice", fn := fun _ => fun
  | [d] => { results := [.lit (.bool true)], args := [d] }
  | _ => none }
def fnComplementTwiceRow : OpenClaim := { program := "ytpmphefmmcbpaaagreat", sum := "4fee1ff8b7b65e0adafdf5cf1556df94b224552cea921d2dfb6cadfe219d83c1", func := "pub-labyrinth/laws.FnComplementTwice", spec := "fnComplementTwice", inPlace := ["slices.overlaps[pub-labyrinth/impl.arc]"], unfollowed := true, recurses := true, apart := false }
def FnComplementTwiceSaid : Prop := fnComplementTwiceRow.holds Tryz.pinned (OpenSpec.ofChange fnComplementTwiceSpec)

/-- ITS FALSE NEIGHBOUR: 'it returns false'. Refute it at one input. -/
def fnComplementTwiceWrong : ChangeSpec := { name := "fnComplementTwice", fn := fun _ => fun
  | [d] => { results := [.lit (.bool false)], args := [d] }
  | _ => none }
def FnComplementTwiceWrongFalsely : Prop := fnComplementTwiceRow.holds Tryz.pinned (OpenSpec.ofChange fnComplementTwiceWrong)

/- THE SECOND FORM. 'bulk': how many values and letters a reading holds, each counted each time it is reached (what is shared counts as often as it is met; a slice's spare places count too). A statement '..UptoSaid' is the law's where the arguments, and the package variables that the reading takes, are together of bulk at most 1048576: NARROWER than '..Said'. Prove '..Said' where nothing that the law and all that it calls make is longer than what came in: it says more and counts as full. Else prove '..UptoSaid'. A law counts once. -/
mutual
def uptoBulk {H : Type} : DataW H → Nat
  | .lit (.string bytes) => bytes.length + 1
  | .lit _ => 1
  | .nil => 1
  | .ptr d => uptoBulk d + 1
  | .slice elems spare => uptoBulkAll elems + uptoBulkAll spare + 1
  | .agg parts => uptoBulkAll parts + 1
  | .iface _ d => uptoBulk d + 1
  | .map entries => uptoBulkEntries entries + 1
  | .held _ => 1
def uptoBulkAll {H : Type} : List (DataW H) → Nat
  | [] => 0
  | d :: r => uptoBulk d + uptoBulkAll r
def uptoBulkEntries {H : Type} : List (Lit × DataW H) → Nat
  | [] => 0
  | x :: r => uptoBulkEntry x + uptoBulkEntries r
def uptoBulkEntry {H : Type} : Lit × DataW H → Nat
  | (.string bytes, d) => bytes.length + uptoBulk d + 1
  | (_, d) => uptoBulk d + 1
 end
def uptoSmall : (H : Type) → List (DataW H) → Bool := fun _ ds => decide (uptoBulkAll ds ≤ 1048576)
def OpenSpec.upto (s : _root_.Go.ChangeSpec) : _root_.Go.OpenSpec := { _root_.Go.OpenSpec.ofChange s with cond := some uptoSmall }

/-- 'laws.FnDepthsTold', WHERE WHAT IT READS IS OF BULK AT MOST 1048576: true; the input reads as it did. -/
def fnDepthsToldUptoRow : OpenClaim := { program := "ytpmphefmmcbpaaagreat", sum := "4fee1ff8b7b65e0adafdf5cf1556df94b224552cea921d2dfb6cadfe219d83c1", func := "pub-labyrinth/laws.FnDepthsTold", spec := "fnDepthsTold", inPlace := ["slices.overlaps[pub-labyrinth/impl.arc]"], unfollowed := true, recurses := true, apart := false, narrowed := true }
def FnDepthsToldUptoSaid : Prop := fnDepthsToldUptoRow.holds Tryz.pinned (OpenSpec.upto fnDepthsToldSpec)

/-- 'laws.FnWalksAgree', WHERE WHAT IT READS IS OF BULK AT MOST 1048576: true; the input reads as it did. -/
def fnWalksAgreeUptoRow : OpenClaim := { program := "ytpmphefmmcbpaaagreat", sum := "4fee1ff8b7b65e0adafdf5cf1556df94b224552cea921d2dfb6cadfe219d83c1", func := "pub-labyrinth/laws.FnWalksAgree", spec := "fnWalksAgree", inPlace := ["slices.overlaps[pub-labyrinth/impl.arc]"], unfollowed := true, recurses := true, apart := false, narrowed := true }
def FnWalksAgreeUptoSaid : Prop := fnWalksAgreeUptoRow.holds Tryz.pinned (OpenSpec.upto fnWalksAgreeSpec)

/-- 'laws.FnWalkAllDeep', WHERE WHAT IT READS IS OF BULK AT MOST 1048576: true; the input reads as it did. -/
def fnWalkAllDeepUptoRow : OpenClaim := { program := "ytpmphefmmcbpaaagreat", sum := "4fee1ff8b7b65e0adafdf5cf1556df94b224552cea921d2dfb6cadfe219d83c1", func := "pub-labyrinth/laws.FnWalkAllDeep", spec := "fnWalkAllDeep", inPlace := ["slices.overlaps[pub-labyrinth/impl.arc]"], unfollowed := true, recurses := true, apart := false, narrowed := true }
def FnWalkAllDeepUptoSaid : Prop := fnWalkAllDeepUptoRow.holds Tryz.pinned (OpenSpec.upto fnWalkAllDeepSpec)

/-- 'laws.FnComponentsTold', WHERE WHAT IT READS IS OF BULK AT MOST 1048576: true; the input reads as it did. -/
def fnComponentsToldUptoRow : OpenClaim := { program := "ytpmphefmmcbpaaagreat", sum := "4fee1ff8b7b65e0adafdf5cf1556df94b224552cea921d2dfb6cadfe219d83c1", func := "pub-labyrinth/laws.FnComponentsTold", spec := "fnComponentsTold", inPlace := ["slices.overlaps[pub-labyrinth/impl.arc]"], unfollowed := true, recurses := true, apart := false, narrowed := true }
def FnComponentsToldUptoSaid : Prop := fnComponentsToldUptoRow.holds Tryz.pinned (OpenSpec.upto fnComponentsToldSpec)

/-- 'laws.FnComplementTwice', WHERE WHAT IT READS IS OF BULK AT MOST 1048576: true; the input reads as it did. -/
def fnComplementTwiceUptoRow : OpenClaim := { program := "ytpmphefmmcbpaaagreat", sum := "4fee1ff8b7b65e0adafdf5cf1556df94b224552cea921d2dfb6cadfe219d83c1", func := "pub-labyrinth/laws.FnComplementTwice", spec := "fnComplementTwice", inPlace := ["slices.overlaps[pub-labyrinth/impl.arc]"], unfollowed := true, recurses := true, apart := false, narrowed := true }
def FnComplementTwiceUptoSaid : Prop := fnComplementTwiceUptoRow.holds Tryz.pinned (OpenSpec.upto fnComplementTwiceSpec)

end Rows
end Go.Proofs.YtpmphefmmcbpaaaGreat
