/-
  DERIVED. GIVEN WITH THE SEED: THE PROGRAM's TIES (one call each: nine closed facts by the kernel) AND EACH ROW's TIE, after the 31st guide's Derived/Test/Toyas{Tie, Card}.lean. No idea stands in it: it is a product of the set-up. Laid BY PROGRAM, IN A SANDBOX (cutbox-door.mjs). By AI agents, Wed Nov 11 2026. No macro, syntax, notation, axiom, sorry.
-/
import Derived.Test.YtlfbmpenekiigaaGreatDoorRows
import Derived.LaidByTextLater
import Derived.SevenTiedAt
import Derived.LaidSub
import Derived.LaidOnce
namespace Go.Proofs.YtlfbmpenekiigaaGreatDoor
open Go
set_option maxRecDepth 100000
theorem seatTie1 : Tryz.prog.laidByTextLater [("loop.example/pub-g01448/spec.builtins", Rows.laid_loop_example_pub_g01448_spec_builtins), ("loop.example/pub-g01448/spec.operators", Rows.laid_loop_example_pub_g01448_spec_operators)] [.data, .data] true :=
  Program.laidByTextLater_by_one 19 8 85 (by kernel_rfl) (by kernel_rfl) (by kernel_rfl) (by kernel_rfl) (by kernel_rfl) (by kernel_rfl) (fun _ _ => by kernel_rfl)
theorem noOwnUnsafe : Tryz.pinned.checked.prog.headLifts.contains "ownunsafe" = false := by kernel_rfl
theorem tie : Tryz.prog.laidByTextLater [("loop.example/pub-g01448/spec.builtins", Rows.laid_loop_example_pub_g01448_spec_builtins), ("loop.example/pub-g01448/spec.operators", Rows.laid_loop_example_pub_g01448_spec_operators)] [.data, .data] true :=
  Program.laidByTextLater.sub seatTie1 ["loop.example/pub-g01448/spec.builtins", "loop.example/pub-g01448/spec.operators"] (by kernel_rfl) (by kernel_rfl)
theorem fnRenameBack_row_tie : Rows.fnRenameBackRow.laidByTextAt .later Tryz.pinned [.data, .data] true :=
  OpenClaim.laidByTextAt_later rfl rfl tie noOwnUnsafe
theorem fnRenameBackUpto_row_tie : Rows.fnRenameBackUptoRow.laidByTextAt .later Tryz.pinned [.data, .data] true :=
  OpenClaim.laidByTextAt_later rfl rfl tie noOwnUnsafe
end Go.Proofs.YtlfbmpenekiigaaGreatDoor
