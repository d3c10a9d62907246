/- Slices of strings among the arguments: what they read as, and the size test of the laws; conditions: none. -/
import Derived.Test.YtabnnnnheipldaaDoorRows
import Derived.WalkKit
import Derived.ProofKit
import Derived.OpenShut
import Derived.SliceStrings
import Derived.Lib.Hide
namespace Go.Proofs.YtabnnnnheipldaaDoor
open Go.ChangeShapes Go.WideShapes Go.ChangeAt Go.RowKit

/-- The strings of a slice, as they lie in memory. -/
def Strs (w : World) (v : Value) (l : List ByteArray) : Prop :=
  ∃ a c, v = .slice a l.length c ∧ l.length ≤ 9223372036854775807 ∧
    ∀ i, i < l.length → ∃ b o, a = some ⟨b, o, none⟩ ∧ w.cell? ⟨b, o + i, none⟩ = some (.string (l.getD i ByteArray.empty))

def True1 (w : World) (e : Ending) (w' : World) : Prop := e = .returned (.bool true) ∧ Below w.heap.size w w'

def SomeBool (w : World) (e : Ending) (w' : World) : Prop := ∃ b, e = .returned (.bool b) ∧ w = w'

/-- The size test's yes tells that no text is longer than 2^31 - 1. -/
def FitsSaid (l : List ByteArray) (w : World) (e : Ending) (w' : World) : Prop := ∃ b, e = .returned (.bool b) ∧ (b = true → ∀ i, i < l.length → (l.getD i ByteArray.empty).size ≤ 2147483647) ∧ w = w'

end Go.Proofs.YtabnnnnheipldaaDoor
