/- The closure of PathExistsIn; the set of numbers; the queue's Len. -/
import Derived.Test.YtfihclhceakmdaaFrom
import Derived.Handy
import Derived.Maps.OwnSet
namespace Go.Proofs.Ytfihclhceakmdaa
open Go.RowKit

/-- Whether a number is one of Go's int64. -/
def In64 (x : Int) : Prop := (Lit.int .i64 x).wf = true

/-- A set of numbers in memory. -/
def SetAt (w : World) (mb N : Nat) (s : List Int) : Prop :=
  ∃ D : DataW Unit, w.ownsMap Try.prog 2 unitElem mb N D ∧ ∀ x, Maps.has D (.int .i64 x) = decide (x ∈ s)

theorem keyed64 : Maps.Keyed Try.prog 2 := Maps.int_keyed Try.underlying2

theorem setAt_new (w : World) : SetAt (w.alloc (.map #[] 0)) w.heap.size 0 [] := ⟨.map [], World.ownsMap_made w _ _ _, fun x => by simp [Maps.has]⟩

/-- What a walk breadth first doesn't turn of its record: Visit, Traverse, the set. -/
structure BF where
  fv : Value
  ft : Value
  m : Value

end Go.Proofs.Ytfihclhceakmdaa
