/-
  DERIVED. GIVEN WITH THE SEED: THE CARDS: each row of YtabnnnnheipldaaDoorRows.lean that lists a variable, with what it lists TIED to the program's text (the seventh form; the later family's looks); each row that meets fmt, with fmt's text TOLD by the authors' own Lean function (tested against real Go, not proved from fmt's source: count such statements apart). THE CARD IS WHAT COUNTS. Prove the row's statement (the work); the ties are given (YtabnnnnheipldaaDoorTie.lean); close each card by the builder's one call (the guide's Derived/Test/ToyasCard.lean, 'card_holds'). Laid BY PROGRAM, IN A SANDBOX (cutbox-door.mjs). By AI agents, Wed Nov 11 2026. No macro, syntax, notation, axiom, sorry.
-/
import Derived.Test.YtabnnnnheipldaaDoorRows
import GoSem.ClaimSeven
namespace Go.Proofs.YtabnnnnheipldaaDoor
namespace Rows

/-- THE TIED CARD OF 'laws.FnSmallOperator'. -/
def fnSmallOperatorCard : Claim7 := { stood := { row := fnSmallOperatorRow, standIns := [], harness := (true, "1e033b038398ba5535ec60bdb55a2029df4b3298b9580ab29e03984276642e2f"), looks := true }, kinds := [], alts := [], laidByText := true, laidKinds := [.data], laidTests := true, laidLooks := .later }
def FnSmallOperatorCardSaid : Prop := Claim7.holds Tryd.pinned (.plain (OpenSpec.ofChange fnSmallOperatorSpec)) fnSmallOperatorCard

/-- THE SECOND FORM's CARD OF 'laws.FnSmallOperator'. -/
def fnSmallOperatorUptoCard : Claim7 := { stood := { row := fnSmallOperatorUptoRow, standIns := [], harness := (true, "1e033b038398ba5535ec60bdb55a2029df4b3298b9580ab29e03984276642e2f"), looks := true }, kinds := [], alts := [], laidByText := true, laidKinds := [.data], laidTests := true, laidLooks := .later }
def FnSmallOperatorUptoCardSaid : Prop := Claim7.holds Tryd.pinned (.plain (OpenSpec.upto fnSmallOperatorSpec)) fnSmallOperatorUptoCard
end Rows
end Go.Proofs.YtabnnnnheipldaaDoor
