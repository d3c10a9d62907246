/-
  NARROWER THAN 'FOR EVERY INPUT', by the rows' own cells (each row's printed sentence says how): FnRenameBack: loops, laid.
  DERIVED. THE GIVEN ROWS OF THIS SEAT. 1 by the template 'for every input the law returns true; each argument reads behind the call as it read before'; 0 by the template 'total and deterministic' (their statements: YtlfbmpenekiigaaGreatDoorTotals.lean).
  GIVEN WITH THE SEED: the statements are not yours to turn. If you find one false, say at which input.
  Laid BY PROGRAM, IN A SANDBOX (cutbox-rows.mjs): the forced cells as the released guide's own fill.sh prints them over the translation a5a0aa41b757fccb… (all of the seat's roots in one cut). By AI agents, Wed Nov 11 2026. No macro, syntax, notation, axiom, sorry.
-/
import Derived.Test.YtlfbmpenekiigaaGreatDoorChecked
import GoSem.Claim
import GoSem.ClaimJoined
import GoSem.ClaimMapViews
import Derived.JoinedTies
import Derived.KernelRfl
namespace Go.Proofs.YtlfbmpenekiigaaGreatDoor
/- THE CELL 'sum', in the pinned program and in every row, IS THE sha256 OF THE DUMP (.gsa) THAT YtlfbmpenekiigaaGreatDoorProg.lean LOADS. Nothing in Lean hashes anything: it is a label: what it is worth is what the hold of that sum in a sandbox is worth. -/
noncomputable def Tryz.pinned : Pinned := { name := "ytlfbmpenekiigaagreatdoor", sum := "a5a0aa41b757fccb3262b0ceaad4ee83d9b0e70249aa325f5b3a136c19943ae1", checked := Tryz.checked }
namespace Rows
def none {H : Type} : Left H := { results := [], args := [] }

/- WHAT THE LISTED PACKAGE-LEVEL VARIABLES READ AS WHEN THE CALL BEGINS. Each datum BY PROGRAM (the guide's laid-datum.mjs) off the statement by which the dump's own 'gosem.cut.vars' lays the variable. In a bare row this is a premise. The card (YtlfbmpenekiigaaGreatDoorCards.lean) ties it to the program's text. -/
def laid_loop_example_pub_g01448_spec_builtins {H : Type} : DataW H := .agg [.lit (.string [118]), .lit (.string [118, 111, 105, 100]), .lit (.string [119]), .lit (.string [119, 99, 104, 97, 114, 95, 116]), .lit (.string [98]), .lit (.string [98, 111, 111, 108]), .lit (.string [99]), .lit (.string [99, 104, 97, 114]), .lit (.string [97]), .lit (.string [115, 105, 103, 110, 101, 100, 32, 99, 104, 97, 114]), .lit (.string [104]), .lit (.string [117, 110, 115, 105, 103, 110, 101, 100, 32, 99, 104, 97, 114]), .lit (.string [115]), .lit (.string [115, 104, 111, 114, 116]), .lit (.string [116]), .lit (.string [117, 110, 115, 105, 103, 110, 101, 100, 32, 115, 104, 111, 114, 116]), .lit (.string [105]), .lit (.string [105, 110, 116]), .lit (.string [106]), .lit (.string [117, 110, 115, 105, 103, 110, 101, 100, 32, 105, 110, 116]), .lit (.string [108]), .lit (.string [108, 111, 110, 103]), .lit (.string [109]), .lit (.string [117, 110, 115, 105, 103, 110, 101, 100, 32, 108, 111, 110, 103]), .lit (.string [120]), .lit (.string [108, 111, 110, 103, 32, 108, 111, 110, 103]), .lit (.string [121]), .lit (.string [117, 110, 115, 105, 103, 110, 101, 100, 32, 108, 111, 110, 103, 32, 108, 111, 110, 103]), .lit (.string [110]), .lit (.string [95, 95, 105, 110, 116, 49, 50, 56]), .lit (.string [111]), .lit (.string [117, 110, 115, 105, 103, 110, 101, 100, 32, 95, 95, 105, 110, 116, 49, 50, 56]), .lit (.string [102]), .lit (.string [102, 108, 111, 97, 116]), .lit (.string [100]), .lit (.string [100, 111, 117, 98, 108, 101]), .lit (.string [101]), .lit (.string [108, 111, 110, 103, 32, 100, 111, 117, 98, 108, 101]), .lit (.string [103]), .lit (.string [95, 95, 102, 108, 111, 97, 116, 49, 50, 56]), .lit (.string [122]), .lit (.string [46, 46, 46]), .lit (.string [68, 100]), .lit (.string [100, 101, 99, 105, 109, 97, 108, 54, 52]), .lit (.string [68, 101]), .lit (.string [100, 101, 99, 105, 109, 97, 108, 49, 50, 56]), .lit (.string [68, 102]), .lit (.string [100, 101, 99, 105, 109, 97, 108, 51, 50]), .lit (.string [68, 115]), .lit (.string [99, 104, 97, 114, 49, 54, 95, 116]), .lit (.string [68, 105]), .lit (.string [99, 104, 97, 114, 51, 50, 95, 116]), .lit (.string [68, 117]), .lit (.string [99, 104, 97, 114, 56, 95, 116]), .lit (.string [68, 97]), .lit (.string [97, 117, 116, 111])]
def laid_loop_example_pub_g01448_spec_operators {H : Type} : DataW H := .agg [.lit (.string [110, 119]), .lit (.string [110, 101, 119]), .lit (.string [110, 97]), .lit (.string [110, 101, 119, 91, 93]), .lit (.string [100, 108]), .lit (.string [100, 101, 108, 101, 116, 101]), .lit (.string [100, 97]), .lit (.string [100, 101, 108, 101, 116, 101, 91, 93]), .lit (.string [99, 111]), .lit (.string [126]), .lit (.string [112, 108]), .lit (.string [43]), .lit (.string [109, 105]), .lit (.string [45]), .lit (.string [109, 108]), .lit (.string [42]), .lit (.string [100, 118]), .lit (.string [47]), .lit (.string [114, 109]), .lit (.string [37]), .lit (.string [97, 110]), .lit (.string [38]), .lit (.string [111, 114]), .lit (.string [124]), .lit (.string [101, 111]), .lit (.string [94]), .lit (.string [97, 83]), .lit (.string [61]), .lit (.string [112, 76]), .lit (.string [43, 61]), .lit (.string [109, 73]), .lit (.string [45, 61]), .lit (.string [109, 76]), .lit (.string [42, 61]), .lit (.string [100, 86]), .lit (.string [47, 61]), .lit (.string [114, 77]), .lit (.string [37, 61]), .lit (.string [97, 78]), .lit (.string [38, 61]), .lit (.string [111, 82]), .lit (.string [124, 61]), .lit (.string [101, 79]), .lit (.string [94, 61]), .lit (.string [108, 115]), .lit (.string [60, 60]), .lit (.string [114, 115]), .lit (.string [62, 62]), .lit (.string [108, 83]), .lit (.string [60, 60, 61]), .lit (.string [114, 83]), .lit (.string [62, 62, 61]), .lit (.string [101, 113]), .lit (.string [61, 61]), .lit (.string [110, 101]), .lit (.string [33, 61]), .lit (.string [108, 116]), .lit (.string [60]), .lit (.string [103, 116]), .lit (.string [62]), .lit (.string [108, 101]), .lit (.string [60, 61]), .lit (.string [103, 101]), .lit (.string [62, 61]), .lit (.string [110, 116]), .lit (.string [33]), .lit (.string [97, 97]), .lit (.string [38, 38]), .lit (.string [111, 111]), .lit (.string [124, 124]), .lit (.string [112, 112]), .lit (.string [43, 43]), .lit (.string [109, 109]), .lit (.string [45, 45]), .lit (.string [99, 109]), .lit (.string [44]), .lit (.string [112, 109]), .lit (.string [45, 62, 42]), .lit (.string [112, 116]), .lit (.string [45, 62]), .lit (.string [99, 108]), .lit (.string [40, 41]), .lit (.string [105, 120]), .lit (.string [91, 93])]

/-- 'laws.FnRenameBack': WHATEVER THE INPUT: true; the input reads as it did. -/
def fnRenameBackSpec : ChangeSpec := { name := "fnRenameBack", vars := ["loop.example/pub-g01448/spec.builtins", "loop.example/pub-g01448/spec.operators"], fn := fun _ => fun
  | [d1, d2, d3, g1, g2] => { results := [.lit (.bool true)], args := [d1, d2, d3], vars := [g1, g2] }
  | _ => none }
def fnRenameBackRow : OpenClaim := { program := "ytlfbmpenekiigaagreatdoor", sum := "a5a0aa41b757fccb3262b0ceaad4ee83d9b0e70249aa325f5b3a136c19943ae1", func := "loop.example/pub-g01448/laws.FnRenameBack", spec := "fnRenameBack", unfollowed := true, recurses := true, named := ["loop.example/pub-g01448/spec.builtins", "loop.example/pub-g01448/spec.operators"], loops := true, apart := false, laid := [("loop.example/pub-g01448/spec.builtins", laid_loop_example_pub_g01448_spec_builtins), ("loop.example/pub-g01448/spec.operators", laid_loop_example_pub_g01448_spec_operators)] }
def FnRenameBackSaid : Prop := fnRenameBackRow.holds Tryz.pinned (OpenSpec.ofChange fnRenameBackSpec)

/-- ITS FALSE NEIGHBOUR: 'it returns false'. Refute it at one input. -/
def fnRenameBackWrong : ChangeSpec := { name := "fnRenameBack", vars := ["loop.example/pub-g01448/spec.builtins", "loop.example/pub-g01448/spec.operators"], fn := fun _ => fun
  | [d1, d2, d3, g1, g2] => { results := [.lit (.bool false)], args := [d1, d2, d3], vars := [g1, g2] }
  | _ => none }
def FnRenameBackWrongFalsely : Prop := fnRenameBackRow.holds Tryz.pinned (OpenSpec.ofChange fnRenameBackWrong)

/- THE SECOND FORM. 'bulk': how many values and letters a reading holds, each counted each time it is reached (what is shared counts as often as it is met; a slice's spare places count too). A statement '..UptoSaid' is the law's where the arguments, and the package variables that the reading takes, are together of bulk at most 1048576: NARROWER than '..Said'. Prove '..Said' where nothing that the law and all that it calls make is longer than what came in: it says more and counts as full. Else prove '..UptoSaid'. A law counts once. -/
mutual
def uptoBulk {H : Type} : DataW H → Nat
  | .lit (.string bytes) => bytes.length + 1
  | .lit _ => 1
  | .nil => 1
  | .ptr d => uptoBulk d + 1
  | .slice elems spare => uptoBulkAll elems + uptoBulkAll spare + 1
  | .agg parts => uptoBulkAll parts + 1
  | .iface _ d => uptoBulk d + 1
  | .map entries => uptoBulkEntries entries + 1
  | .held _ => 1
def uptoBulkAll {H : Type} : List (DataW H) → Nat
  | [] => 0
  | d :: r => uptoBulk d + uptoBulkAll r
def uptoBulkEntries {H : Type} : List (Lit × DataW H) → Nat
  | [] => 0
  | x :: r => uptoBulkEntry x + uptoBulkEntries r
def uptoBulkEntry {H : Type} : Lit × DataW H → Nat
  | (.string bytes, d) => bytes.length + uptoBulk d + 1
  | (_, d) => uptoBulk d + 1
 end
def uptoSmall : (H : Type) → List (DataW H) → Bool := fun _ ds => decide (uptoBulkAll ds ≤ 1048576)
def OpenSpec.upto (s : _root_.Go.ChangeSpec) : _root_.Go.OpenSpec := { _root_.Go.OpenSpec.ofChange s with cond := some uptoSmall }

/-- 'laws.FnRenameBack', WHERE WHAT IT READS IS OF BULK AT MOST 1048576: true; the input reads as it did. -/
def fnRenameBackUptoRow : OpenClaim := { program := "ytlfbmpenekiigaagreatdoor", sum := "a5a0aa41b757fccb3262b0ceaad4ee83d9b0e70249aa325f5b3a136c19943ae1", func := "loop.example/pub-g01448/laws.FnRenameBack", spec := "fnRenameBack", unfollowed := true, recurses := true, named := ["loop.example/pub-g01448/spec.builtins", "loop.example/pub-g01448/spec.operators"], loops := true, apart := false, laid := [("loop.example/pub-g01448/spec.builtins", laid_loop_example_pub_g01448_spec_builtins), ("loop.example/pub-g01448/spec.operators", laid_loop_example_pub_g01448_spec_operators)], narrowed := true }
def FnRenameBackUptoSaid : Prop := fnRenameBackUptoRow.holds Tryz.pinned (OpenSpec.upto fnRenameBackSpec)

end Rows
end Go.Proofs.YtlfbmpenekiigaaGreatDoor
