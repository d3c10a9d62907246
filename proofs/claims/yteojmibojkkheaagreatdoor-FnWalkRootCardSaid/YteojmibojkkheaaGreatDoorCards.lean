/-
  DERIVED. GIVEN WITH THE SEED: THE CARDS: each row of YteojmibojkkheaaGreatDoorRows.lean that lists a variable, with what it lists TIED to the program's text (the seventh form; the later family's looks); each row that meets fmt, with fmt's text TOLD by the authors' own Lean function (tested against real Go, not proved from fmt's source: count such statements apart). THE CARD IS WHAT COUNTS. Prove the row's statement (the work); the ties are given (YteojmibojkkheaaGreatDoorTie.lean); close each card by the builder's one call (the guide's Derived/Test/ToyasCard.lean, 'card_holds'). Laid BY PROGRAM, IN A SANDBOX (cutbox-door.mjs). By AI agents, Wed Nov 11 2026. No macro, syntax, notation, axiom, sorry.
-/
import Derived.Test.YteojmibojkkheaaGreatDoorRows
import GoSem.ClaimSeven
namespace Go.Proofs.YteojmibojkkheaaGreatDoor
namespace Rows

/-- THE TIED CARD OF 'laws.FnWalkRoot'. -/
def fnWalkRootCard : Claim7 := { stood := { row := fnWalkRootRow, standIns := [], harness := (true, "8157df8a0c88ba5b25331afac33194e7f0be7f733558d3411f999965148b13b8"), looks := true }, kinds := [], alts := [], laidByText := true, laidKinds := [.data, .data], laidTests := true, laidLooks := .later }
def FnWalkRootCardSaid : Prop := Claim7.holds Tryz.pinned (.plain (OpenSpec.ofChange fnWalkRootSpec)) fnWalkRootCard

/-- THE SECOND FORM's CARD OF 'laws.FnWalkRoot'. -/
def fnWalkRootUptoCard : Claim7 := { stood := { row := fnWalkRootUptoRow, standIns := [], harness := (true, "8157df8a0c88ba5b25331afac33194e7f0be7f733558d3411f999965148b13b8"), looks := true }, kinds := [], alts := [], laidByText := true, laidKinds := [.data, .data], laidTests := true, laidLooks := .later }
def FnWalkRootUptoCardSaid : Prop := Claim7.holds Tryz.pinned (.plain (OpenSpec.upto fnWalkRootSpec)) fnWalkRootUptoCard
end Rows
end Go.Proofs.YteojmibojkkheaaGreatDoor
