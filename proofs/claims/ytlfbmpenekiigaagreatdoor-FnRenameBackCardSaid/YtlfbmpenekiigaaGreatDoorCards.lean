/-
  DERIVED. GIVEN WITH THE SEED: THE CARDS: each row of YtlfbmpenekiigaaGreatDoorRows.lean that lists a variable, with what it lists TIED to the program's text (the seventh form; the later family's looks); each row that meets fmt, with fmt's text TOLD by the authors' own Lean function (tested against real Go, not proved from fmt's source: count such statements apart). THE CARD IS WHAT COUNTS. Prove the row's statement (the work); the ties are given (YtlfbmpenekiigaaGreatDoorTie.lean); close each card by the builder's one call (the guide's Derived/Test/ToyasCard.lean, 'card_holds'). Laid BY PROGRAM, IN A SANDBOX (cutbox-door.mjs). By AI agents, Wed Nov 11 2026. No macro, syntax, notation, axiom, sorry.
-/
import Derived.Test.YtlfbmpenekiigaaGreatDoorRows
import GoSem.ClaimSeven
namespace Go.Proofs.YtlfbmpenekiigaaGreatDoor
namespace Rows

/-- THE TIED CARD OF 'laws.FnRenameBack'. -/
def fnRenameBackCard : Claim7 := { stood := { row := fnRenameBackRow, standIns := [], harness := (true, "66dfd30ced2db7eb284de5157d66ac7fc4511afc5803ada34aa6a5f75114fb35"), looks := true }, kinds := [], alts := [], laidByText := true, laidKinds := [.data, .data], laidTests := true, laidLooks := .later }
def FnRenameBackCardSaid : Prop := Claim7.holds Tryz.pinned (.plain (OpenSpec.ofChange fnRenameBackSpec)) fnRenameBackCard

/-- THE SECOND FORM's CARD OF 'laws.FnRenameBack'. -/
def fnRenameBackUptoCard : Claim7 := { stood := { row := fnRenameBackUptoRow, standIns := [], harness := (true, "66dfd30ced2db7eb284de5157d66ac7fc4511afc5803ada34aa6a5f75114fb35"), looks := true }, kinds := [], alts := [], laidByText := true, laidKinds := [.data, .data], laidTests := true, laidLooks := .later }
def FnRenameBackUptoCardSaid : Prop := Claim7.holds Tryz.pinned (.plain (OpenSpec.upto fnRenameBackSpec)) fnRenameBackUptoCard
end Rows
end Go.Proofs.YtlfbmpenekiigaaGreatDoor
