/- Two nodes that are the same; plain law, no condition. -/
import Derived.Test.YtlfbmpenekiigaaGreatDoorNodeG
import Derived.Test.YtlfbmpenekiigaaGreatDoorKindOf
namespace Go.Proofs.YtlfbmpenekiigaaGreatDoor
open Go.ChangeShapes Go.WideShapes Go.ChangeAt Go.RowKit
set_option linter.unusedVariables false

theorem agg_eq {k k' a a' : ByteArray} {n n' : Int} {kv : Value} (h1 : k = k') (h2 : a = a') (h3 : n = n') : Ending.returned (.agg #[.string k, .string a, .int .i64 n, kv]) = Ending.returned (.agg #[.string k', .string a', .int .i64 n', kv]) := by
  rw [h1, h2, h3]

end Go.Proofs.YtlfbmpenekiigaaGreatDoor
