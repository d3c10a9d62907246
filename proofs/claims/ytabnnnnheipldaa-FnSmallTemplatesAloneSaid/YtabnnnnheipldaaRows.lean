/-
  No cell of these rows narrows 'for every input' (looked for: loops, veiled, ifaces, maps, wideKeys, modest, calm, conditions, laid).
  DERIVED. THE GIVEN ROWS OF THIS SEAT. 8 by the template 'for every input the law returns true; each argument reads behind the call as it read before'; 0 by the template 'total and deterministic' (their statements: YtabnnnnheipldaaTotals.lean).
  GIVEN WITH THE SEED: the statements are not yours to turn. If you find one false, say at which input.
  Laid BY PROGRAM, IN A SANDBOX (cutbox-rows.mjs): the forced cells as the released guide's own fill.sh prints them over the translation bc0741db2f0998c0… (all of the seat's roots in one cut). By AI agents, Wed Nov 11 2026. No macro, syntax, notation, axiom, sorry.
-/
import Derived.Test.YtabnnnnheipldaaChecked
import GoSem.Claim
import GoSem.ClaimJoined
import GoSem.ClaimMapViews
import Derived.JoinedTies
import Derived.KernelRfl
namespace Go.Proofs.Ytabnnnnheipldaa
/- THE CELL 'sum', in the pinned program and in every row, IS THE sha256 OF THE DUMP (.gsa) THAT YtabnnnnheipldaaProg.lean LOADS. Nothing in Lean hashes anything: it is a label: what it is worth is what the hold of that sum in a sandbox is worth. -/
noncomputable def Try.pinned : Pinned := { name := "ytabnnnnheipldaa", sum := "bc0741db2f0998c0dff8cc08ef06a6a872155657ca5f1fd1cfd22153607a49b4", checked := Try.checked }
namespace Rows
def none {H : Type} : Left H := { results := [], args := [] }

/-- 'laws.FnSmallDefaultArg': WHATEVER THE INPUT: true; the input reads as it did. -/
def fnSmallDefaultArgSpec : ChangeSpec := { name := "fnSmallDefaultArg", fn := fun _ => fun
  | [d1, d2] => { results := [.lit (.bool true)], args := [d1, d2] }
  | _ => none }
def fnSmallDefaultArgRow : OpenClaim := { program := "ytabnnnnheipldaa", sum := "bc0741db2f0998c0dff8cc08ef06a6a872155657ca5f1fd1cfd22153607a49b4", func := "loop.example/pub-g01448/laws.FnSmallDefaultArg", spec := "fnSmallDefaultArg", unfollowed := true, recurses := true, apart := false }
def FnSmallDefaultArgSaid : Prop := fnSmallDefaultArgRow.holds Try.pinned (OpenSpec.ofChange fnSmallDefaultArgSpec)

/-- ITS FALSE NEIGHBOUR: 'it returns false'. Refute it at one input. -/
def fnSmallDefaultArgWrong : ChangeSpec := { name := "fnSmallDefaultArg", fn := fun _ => fun
  | [d1, d2] => { results := [.lit (.bool false)], args := [d1, d2] }
  | _ => none }
def FnSmallDefaultArgWrongFalsely : Prop := fnSmallDefaultArgRow.holds Try.pinned (OpenSpec.ofChange fnSmallDefaultArgWrong)

/-- 'laws.FnSmallGlobal': WHATEVER THE INPUT: true; the input reads as it did. -/
def fnSmallGlobalSpec : ChangeSpec := { name := "fnSmallGlobal", fn := fun _ => fun
  | [d] => { results := [.lit (.bool true)], args := [d] }
  | _ => none }
def fnSmallGlobalRow : OpenClaim := { program := "ytabnnnnheipldaa", sum := "bc0741db2f0998c0dff8cc08ef06a6a872155657ca5f1fd1cfd22153607a49b4", func := "loop.example/pub-g01448/laws.FnSmallGlobal", spec := "fnSmallGlobal", unfollowed := true, recurses := true, apart := false }
def FnSmallGlobalSaid : Prop := fnSmallGlobalRow.holds Try.pinned (OpenSpec.ofChange fnSmallGlobalSpec)

/-- ITS FALSE NEIGHBOUR: 'it returns false'. Refute it at one input. -/
def fnSmallGlobalWrong : ChangeSpec := { name := "fnSmallGlobal", fn := fun _ => fun
  | [d] => { results := [.lit (.bool false)], args := [d] }
  | _ => none }
def FnSmallGlobalWrongFalsely : Prop := fnSmallGlobalRow.holds Try.pinned (OpenSpec.ofChange fnSmallGlobalWrong)

/-- 'laws.FnSmallLiteralType': WHATEVER THE INPUT: true; the input reads as it did. -/
def fnSmallLiteralTypeSpec : ChangeSpec := { name := "fnSmallLiteralType", fn := fun _ => fun
  | [d1, d2, d3] => { results := [.lit (.bool true)], args := [d1, d2, d3] }
  | _ => none }
def fnSmallLiteralTypeRow : OpenClaim := { program := "ytabnnnnheipldaa", sum := "bc0741db2f0998c0dff8cc08ef06a6a872155657ca5f1fd1cfd22153607a49b4", func := "loop.example/pub-g01448/laws.FnSmallLiteralType", spec := "fnSmallLiteralType", unfollowed := true, recurses := true, apart := false }
def FnSmallLiteralTypeSaid : Prop := fnSmallLiteralTypeRow.holds Try.pinned (OpenSpec.ofChange fnSmallLiteralTypeSpec)

/-- ITS FALSE NEIGHBOUR: 'it returns false'. Refute it at one input. -/
def fnSmallLiteralTypeWrong : ChangeSpec := { name := "fnSmallLiteralType", fn := fun _ => fun
  | [d1, d2, d3] => { results := [.lit (.bool false)], args := [d1, d2, d3] }
  | _ => none }
def FnSmallLiteralTypeWrongFalsely : Prop := fnSmallLiteralTypeRow.holds Try.pinned (OpenSpec.ofChange fnSmallLiteralTypeWrong)

/-- 'laws.FnSmallName': WHATEVER THE INPUT: true; the input reads as it did. -/
def fnSmallNameSpec : ChangeSpec := { name := "fnSmallName", fn := fun _ => fun
  | [d] => { results := [.lit (.bool true)], args := [d] }
  | _ => none }
def fnSmallNameRow : OpenClaim := { program := "ytabnnnnheipldaa", sum := "bc0741db2f0998c0dff8cc08ef06a6a872155657ca5f1fd1cfd22153607a49b4", func := "loop.example/pub-g01448/laws.FnSmallName", spec := "fnSmallName", unfollowed := true, recurses := true, apart := false }
def FnSmallNameSaid : Prop := fnSmallNameRow.holds Try.pinned (OpenSpec.ofChange fnSmallNameSpec)

/-- ITS FALSE NEIGHBOUR: 'it returns false'. Refute it at one input. -/
def fnSmallNameWrong : ChangeSpec := { name := "fnSmallName", fn := fun _ => fun
  | [d] => { results := [.lit (.bool false)], args := [d] }
  | _ => none }
def FnSmallNameWrongFalsely : Prop := fnSmallNameRow.holds Try.pinned (OpenSpec.ofChange fnSmallNameWrong)

/-- 'laws.FnSmallQualifiers': WHATEVER THE INPUT: true; the input reads as it did. -/
def fnSmallQualifiersSpec : ChangeSpec := { name := "fnSmallQualifiers", fn := fun _ => fun
  | [d1, d2] => { results := [.lit (.bool true)], args := [d1, d2] }
  | _ => none }
def fnSmallQualifiersRow : OpenClaim := { program := "ytabnnnnheipldaa", sum := "bc0741db2f0998c0dff8cc08ef06a6a872155657ca5f1fd1cfd22153607a49b4", func := "loop.example/pub-g01448/laws.FnSmallQualifiers", spec := "fnSmallQualifiers", unfollowed := true, recurses := true, apart := false }
def FnSmallQualifiersSaid : Prop := fnSmallQualifiersRow.holds Try.pinned (OpenSpec.ofChange fnSmallQualifiersSpec)

/-- ITS FALSE NEIGHBOUR: 'it returns false'. Refute it at one input. -/
def fnSmallQualifiersWrong : ChangeSpec := { name := "fnSmallQualifiers", fn := fun _ => fun
  | [d1, d2] => { results := [.lit (.bool false)], args := [d1, d2] }
  | _ => none }
def FnSmallQualifiersWrongFalsely : Prop := fnSmallQualifiersRow.holds Try.pinned (OpenSpec.ofChange fnSmallQualifiersWrong)

/-- 'laws.FnSmallArrayPointer': WHATEVER THE INPUT: true; the input reads as it did. -/
def fnSmallArrayPointerSpec : ChangeSpec := { name := "fnSmallArrayPointer", fn := fun _ => fun
  | [d1, d2] => { results := [.lit (.bool true)], args := [d1, d2] }
  | _ => none }
def fnSmallArrayPointerRow : OpenClaim := { program := "ytabnnnnheipldaa", sum := "bc0741db2f0998c0dff8cc08ef06a6a872155657ca5f1fd1cfd22153607a49b4", func := "loop.example/pub-g01448/laws.FnSmallArrayPointer", spec := "fnSmallArrayPointer", unfollowed := true, recurses := true, apart := false }
def FnSmallArrayPointerSaid : Prop := fnSmallArrayPointerRow.holds Try.pinned (OpenSpec.ofChange fnSmallArrayPointerSpec)

/-- ITS FALSE NEIGHBOUR: 'it returns false'. Refute it at one input. -/
def fnSmallArrayPointerWrong : ChangeSpec := { name := "fnSmallArrayPointer", fn := fun _ => fun
  | [d1, d2] => { results := [.lit (.bool false)], args := [d1, d2] }
  | _ => none }
def FnSmallArrayPointerWrongFalsely : Prop := fnSmallArrayPointerRow.holds Try.pinned (OpenSpec.ofChange fnSmallArrayPointerWrong)

/-- 'laws.FnSmallTemplates': WHATEVER THE INPUT: true; the input reads as it did. -/
def fnSmallTemplatesSpec : ChangeSpec := { name := "fnSmallTemplates", fn := fun _ => fun
  | [d1, d2, d3] => { results := [.lit (.bool true)], args := [d1, d2, d3] }
  | _ => none }
def fnSmallTemplatesRow : OpenClaim := { program := "ytabnnnnheipldaa", sum := "bc0741db2f0998c0dff8cc08ef06a6a872155657ca5f1fd1cfd22153607a49b4", func := "loop.example/pub-g01448/laws.FnSmallTemplates", spec := "fnSmallTemplates", unfollowed := true, recurses := true, apart := false }
def FnSmallTemplatesSaid : Prop := fnSmallTemplatesRow.holds Try.pinned (OpenSpec.ofChange fnSmallTemplatesSpec)

/-- ITS FALSE NEIGHBOUR: 'it returns false'. Refute it at one input. -/
def fnSmallTemplatesWrong : ChangeSpec := { name := "fnSmallTemplates", fn := fun _ => fun
  | [d1, d2, d3] => { results := [.lit (.bool false)], args := [d1, d2, d3] }
  | _ => none }
def FnSmallTemplatesWrongFalsely : Prop := fnSmallTemplatesRow.holds Try.pinned (OpenSpec.ofChange fnSmallTemplatesWrong)

/-- 'laws.FnSmallTemplatesAlone': WHATEVER THE INPUT: true; the input reads as it did. -/
def fnSmallTemplatesAloneSpec : ChangeSpec := { name := "fnSmallTemplatesAlone", fn := fun _ => fun
  | [d1, d2, d3, d4, d5] => { results := [.lit (.bool true)], args := [d1, d2, d3, d4, d5] }
  | _ => none }
def fnSmallTemplatesAloneRow : OpenClaim := { program := "ytabnnnnheipldaa", sum := "bc0741db2f0998c0dff8cc08ef06a6a872155657ca5f1fd1cfd22153607a49b4", func := "loop.example/pub-g01448/laws.FnSmallTemplatesAlone", spec := "fnSmallTemplatesAlone", unfollowed := true, recurses := true, apart := false }
def FnSmallTemplatesAloneSaid : Prop := fnSmallTemplatesAloneRow.holds Try.pinned (OpenSpec.ofChange fnSmallTemplatesAloneSpec)

/-- ITS FALSE NEIGHBOUR: 'it returns false'. Refute it at one input. -/
def fnSmallTemplatesAloneWrong : ChangeSpec := { name := "fnSmallTemplatesAlone", fn := fun _ => fun
  | [d1, d2, d3, d4, d5] => { results := [.lit (.bool false)], args := [d1, d2, d3, d4, d5] }
  | _ => none }
def FnSmallTemplatesAloneWrongFalsely : Prop := fnSmallTemplatesAloneRow.holds Try.pinned (OpenSpec.ofChange fnSmallTemplatesAloneWrong)

/- THE SECOND FORM. 'bulk': how many values and letters a reading holds, each counted each time it is reached (what is shared counts as often as it is met; a slice's spare places count too). A statement '..UptoSaid' is the law's where the arguments, and the package variables that the reading takes, are together of bulk at most 1048576: NARROWER than '..Said'. Prove '..Said' where nothing that the law and all that it calls make is longer than what came in: it says more and counts as full. Else prove '..UptoSaid'. A law counts once. -/
mutual
def uptoBulk {H : Type} : DataW H → Nat
  | .lit (.string bytes) => bytes.length + 1
  | .lit _ => 1
  | .nil => 1
  | .ptr d => uptoBulk d + 1
  | .slice elems spare => uptoBulkAll elems + uptoBulkAll spare + 1
  | .agg parts => uptoBulkAll parts + 1
  | .iface _ d => uptoBulk d + 1
  | .map entries => uptoBulkEntries entries + 1
  | .held _ => 1
def uptoBulkAll {H : Type} : List (DataW H) → Nat
  | [] => 0
  | d :: r => uptoBulk d + uptoBulkAll r
def uptoBulkEntries {H : Type} : List (Lit × DataW H) → Nat
  | [] => 0
  | x :: r => uptoBulkEntry x + uptoBulkEntries r
def uptoBulkEntry {H : Type} : Lit × DataW H → Nat
  | (.string bytes, d) => bytes.length + uptoBulk d + 1
  | (_, d) => uptoBulk d + 1
 end
def uptoSmall : (H : Type) → List (DataW H) → Bool := fun _ ds => decide (uptoBulkAll ds ≤ 1048576)
def OpenSpec.upto (s : _root_.Go.ChangeSpec) : _root_.Go.OpenSpec := { _root_.Go.OpenSpec.ofChange s with cond := some uptoSmall }

/-- 'laws.FnSmallDefaultArg', WHERE WHAT IT READS IS OF BULK AT MOST 1048576: true; the input reads as it did. -/
def fnSmallDefaultArgUptoRow : OpenClaim := { program := "ytabnnnnheipldaa", sum := "bc0741db2f0998c0dff8cc08ef06a6a872155657ca5f1fd1cfd22153607a49b4", func := "loop.example/pub-g01448/laws.FnSmallDefaultArg", spec := "fnSmallDefaultArg", unfollowed := true, recurses := true, apart := false, narrowed := true }
def FnSmallDefaultArgUptoSaid : Prop := fnSmallDefaultArgUptoRow.holds Try.pinned (OpenSpec.upto fnSmallDefaultArgSpec)

/-- 'laws.FnSmallGlobal', WHERE WHAT IT READS IS OF BULK AT MOST 1048576: true; the input reads as it did. -/
def fnSmallGlobalUptoRow : OpenClaim := { program := "ytabnnnnheipldaa", sum := "bc0741db2f0998c0dff8cc08ef06a6a872155657ca5f1fd1cfd22153607a49b4", func := "loop.example/pub-g01448/laws.FnSmallGlobal", spec := "fnSmallGlobal", unfollowed := true, recurses := true, apart := false, narrowed := true }
def FnSmallGlobalUptoSaid : Prop := fnSmallGlobalUptoRow.holds Try.pinned (OpenSpec.upto fnSmallGlobalSpec)

/-- 'laws.FnSmallLiteralType', WHERE WHAT IT READS IS OF BULK AT MOST 1048576: true; the input reads as it did. -/
def fnSmallLiteralTypeUptoRow : OpenClaim := { program := "ytabnnnnheipldaa", sum := "bc0741db2f0998c0dff8cc08ef06a6a872155657ca5f1fd1cfd22153607a49b4", func := "loop.example/pub-g01448/laws.FnSmallLiteralType", spec := "fnSmallLiteralType", unfollowed := true, recurses := true, apart := false, narrowed := true }
def FnSmallLiteralTypeUptoSaid : Prop := fnSmallLiteralTypeUptoRow.holds Try.pinned (OpenSpec.upto fnSmallLiteralTypeSpec)

/-- 'laws.FnSmallName', WHERE WHAT IT READS IS OF BULK AT MOST 1048576: true; the input reads as it did. -/
def fnSmallNameUptoRow : OpenClaim := { program := "ytabnnnnheipldaa", sum := "bc0741db2f0998c0dff8cc08ef06a6a872155657ca5f1fd1cfd22153607a49b4", func := "loop.example/pub-g01448/laws.FnSmallName", spec := "fnSmallName", unfollowed := true, recurses := true, apart := false, narrowed := true }
def FnSmallNameUptoSaid : Prop := fnSmallNameUptoRow.holds Try.pinned (OpenSpec.upto fnSmallNameSpec)

/-- 'laws.FnSmallQualifiers', WHERE WHAT IT READS IS OF BULK AT MOST 1048576: true; the input reads as it did. -/
def fnSmallQualifiersUptoRow : OpenClaim := { program := "ytabnnnnheipldaa", sum := "bc0741db2f0998c0dff8cc08ef06a6a872155657ca5f1fd1cfd22153607a49b4", func := "loop.example/pub-g01448/laws.FnSmallQualifiers", spec := "fnSmallQualifiers", unfollowed := true, recurses := true, apart := false, narrowed := true }
def FnSmallQualifiersUptoSaid : Prop := fnSmallQualifiersUptoRow.holds Try.pinned (OpenSpec.upto fnSmallQualifiersSpec)

/-- 'laws.FnSmallArrayPointer', WHERE WHAT IT READS IS OF BULK AT MOST 1048576: true; the input reads as it did. -/
def fnSmallArrayPointerUptoRow : OpenClaim := { program := "ytabnnnnheipldaa", sum := "bc0741db2f0998c0dff8cc08ef06a6a872155657ca5f1fd1cfd22153607a49b4", func := "loop.example/pub-g01448/laws.FnSmallArrayPointer", spec := "fnSmallArrayPointer", unfollowed := true, recurses := true, apart := false, narrowed := true }
def FnSmallArrayPointerUptoSaid : Prop := fnSmallArrayPointerUptoRow.holds Try.pinned (OpenSpec.upto fnSmallArrayPointerSpec)

/-- 'laws.FnSmallTemplates', WHERE WHAT IT READS IS OF BULK AT MOST 1048576: true; the input reads as it did. -/
def fnSmallTemplatesUptoRow : OpenClaim := { program := "ytabnnnnheipldaa", sum := "bc0741db2f0998c0dff8cc08ef06a6a872155657ca5f1fd1cfd22153607a49b4", func := "loop.example/pub-g01448/laws.FnSmallTemplates", spec := "fnSmallTemplates", unfollowed := true, recurses := true, apart := false, narrowed := true }
def FnSmallTemplatesUptoSaid : Prop := fnSmallTemplatesUptoRow.holds Try.pinned (OpenSpec.upto fnSmallTemplatesSpec)

/-- 'laws.FnSmallTemplatesAlone', WHERE WHAT IT READS IS OF BULK AT MOST 1048576: true; the input reads as it did. -/
def fnSmallTemplatesAloneUptoRow : OpenClaim := { program := "ytabnnnnheipldaa", sum := "bc0741db2f0998c0dff8cc08ef06a6a872155657ca5f1fd1cfd22153607a49b4", func := "loop.example/pub-g01448/laws.FnSmallTemplatesAlone", spec := "fnSmallTemplatesAlone", unfollowed := true, recurses := true, apart := false, narrowed := true }
def FnSmallTemplatesAloneUptoSaid : Prop := fnSmallTemplatesAloneUptoRow.holds Try.pinned (OpenSpec.upto fnSmallTemplatesAloneSpec)

end Rows
end Go.Proofs.Ytabnnnnheipldaa
