/- Traverse of each kind of element, where the function says no of it: nothing else is done; conditions: none. -/
import Derived.Test.YteojmibojkkheaaGreatDoorKindOf
namespace Go.Proofs.YteojmibojkkheaaGreatDoor
open Go.ChangeShapes Go.WideShapes Go.ChangeAt Go.RowKit
set_option linter.unusedVariables false

/-- Traverse of elements of the pointer type p is the function f; where the closure of Walk says no, nothing more is done. -/
structure Stops (p f : Nat) : Prop where
  ahead : ∀ (q : Addr) (w : World) (n : Nat), (nilAhead (n + 1) p (.pointer (some q)) "Traverse").run Tryz.prog w = .ok (some false) w
  met : ∀ (q : Addr) (w : World) (n : Nat), (method (n + 1) p (.pointer (some q)) "Traverse").run Tryz.prog w = .ok (f, .pointer (some q)) w
  call : ∀ (args : Array Value) (w : World), (callFunc f args).run Tryz.prog w = .ok (.enter f args) w
  trav : ∀ (b : Nat) (po ps : Value) (w : World) (R : World → Prop), Calls Tryz.prog 26 #[.iface p (.pointer (some ⟨b, 0, none⟩)), po, ps] w (fun e w' => e = .returned (.bool false) ∧ R w') →
    Calls Tryz.prog f #[.pointer (some ⟨b, 0, none⟩), .func (.func 26) #[] #[po, ps]] w (fun e w' => e = .returned (.tuple #[]) ∧ R w')

set_option maxRecDepth 100000 in
set_option maxHeartbeats 2000000 in
theorem stopsName : Stops 42 78 := ⟨fun q w n => by kernel_rfl, fun q w n => by kernel_rfl, fun args w => by kernel_rfl, fun b po ps w R h => by
  go_enter Tryz.func78, Tryz.ntmps78
  go_wp2_with fail
  refine h.mono ?_
  rintro e w' ⟨rfl, h'⟩
  go_wp2_with fail
  go_end0
  exact ⟨rfl, h'⟩⟩

set_option maxRecDepth 100000 in
set_option maxHeartbeats 2000000 in
theorem stopsBuiltinType : Stops 45 81 := ⟨fun q w n => by kernel_rfl, fun q w n => by kernel_rfl, fun args w => by kernel_rfl, fun b po ps w R h => by
  go_enter Tryz.func81, Tryz.ntmps81
  go_wp2_with fail
  refine h.mono ?_
  rintro e w' ⟨rfl, h'⟩
  go_wp2_with fail
  go_end0
  exact ⟨rfl, h'⟩⟩

set_option maxRecDepth 100000 in
set_option maxHeartbeats 2000000 in
theorem stopsOperator : Stops 47 84 := ⟨fun q w n => by kernel_rfl, fun q w n => by kernel_rfl, fun args w => by kernel_rfl, fun b po ps w R h => by
  go_enter Tryz.func84, Tryz.ntmps84
  go_wp2_with fail
  refine h.mono ?_
  rintro e w' ⟨rfl, h'⟩
  go_wp2_with fail
  go_end0
  exact ⟨rfl, h'⟩⟩

set_option maxRecDepth 100000 in
set_option maxHeartbeats 2000000 in
theorem stopsConstructor : Stops 51 87 := ⟨fun q w n => by kernel_rfl, fun q w n => by kernel_rfl, fun args w => by kernel_rfl, fun b po ps w R h => by
  go_enter Tryz.func87, Tryz.ntmps87
  go_wp2_with fail
  refine h.mono ?_
  rintro e w' ⟨rfl, h'⟩
  go_wp2_with fail
  go_end0
  exact ⟨rfl, h'⟩⟩

set_option maxRecDepth 100000 in
set_option maxHeartbeats 2000000 in
theorem stopsDestructor : Stops 55 90 := ⟨fun q w n => by kernel_rfl, fun q w n => by kernel_rfl, fun args w => by kernel_rfl, fun b po ps w R h => by
  go_enter Tryz.func90, Tryz.ntmps90
  go_wp2_with fail
  refine h.mono ?_
  rintro e w' ⟨rfl, h'⟩
  go_wp2_with fail
  go_end0
  exact ⟨rfl, h'⟩⟩

set_option maxRecDepth 100000 in
set_option maxHeartbeats 2000000 in
theorem stopsQualified : Stops 58 93 := ⟨fun q w n => by kernel_rfl, fun q w n => by kernel_rfl, fun args w => by kernel_rfl, fun b po ps w R h => by
  go_enter Tryz.func93, Tryz.ntmps93
  go_wp2_with fail
  refine h.mono ?_
  rintro e w' ⟨rfl, h'⟩
  go_wp2_with fail
  go_end0
  exact ⟨rfl, h'⟩⟩

set_option maxRecDepth 100000 in
set_option maxHeartbeats 2000000 in
theorem stopsTemplate : Stops 61 96 := ⟨fun q w n => by kernel_rfl, fun q w n => by kernel_rfl, fun args w => by kernel_rfl, fun b po ps w R h => by
  go_enter Tryz.func96, Tryz.ntmps96
  go_wp2_with fail
  refine h.mono ?_
  rintro e w' ⟨rfl, h'⟩
  go_wp2_with fail
  go_end0
  exact ⟨rfl, h'⟩⟩

set_option maxRecDepth 100000 in
set_option maxHeartbeats 2000000 in
theorem stopsTyped : Stops 66 99 := ⟨fun q w n => by kernel_rfl, fun q w n => by kernel_rfl, fun args w => by kernel_rfl, fun b po ps w R h => by
  go_enter Tryz.func99, Tryz.ntmps99
  go_wp2_with fail
  refine h.mono ?_
  rintro e w' ⟨rfl, h'⟩
  go_wp2_with fail
  go_end0
  exact ⟨rfl, h'⟩⟩

set_option maxRecDepth 100000 in
set_option maxHeartbeats 2000000 in
theorem stopsFunctionType : Stops 69 102 := ⟨fun q w n => by kernel_rfl, fun q w n => by kernel_rfl, fun args w => by kernel_rfl, fun b po ps w R h => by
  go_enter Tryz.func102, Tryz.ntmps102
  go_wp2_with fail
  refine h.mono ?_
  rintro e w' ⟨rfl, h'⟩
  go_wp2_with fail
  go_end0
  exact ⟨rfl, h'⟩⟩

set_option maxRecDepth 100000 in
set_option maxHeartbeats 2000000 in
theorem stopsPointerType : Stops 72 105 := ⟨fun q w n => by kernel_rfl, fun q w n => by kernel_rfl, fun args w => by kernel_rfl, fun b po ps w R h => by
  go_enter Tryz.func105, Tryz.ntmps105
  go_wp2_with fail
  refine h.mono ?_
  rintro e w' ⟨rfl, h'⟩
  go_wp2_with fail
  go_end0
  exact ⟨rfl, h'⟩⟩

set_option maxRecDepth 100000 in
set_option maxHeartbeats 2000000 in
theorem stopsReferenceType : Stops 75 108 := ⟨fun q w n => by kernel_rfl, fun q w n => by kernel_rfl, fun args w => by kernel_rfl, fun b po ps w R h => by
  go_enter Tryz.func108, Tryz.ntmps108
  go_wp2_with fail
  refine h.mono ?_
  rintro e w' ⟨rfl, h'⟩
  go_wp2_with fail
  go_end0
  exact ⟨rfl, h'⟩⟩

set_option maxRecDepth 100000 in
set_option maxHeartbeats 2000000 in
theorem stopsRvalueReferenceType : Stops 77 111 := ⟨fun q w n => by kernel_rfl, fun q w n => by kernel_rfl, fun args w => by kernel_rfl, fun b po ps w R h => by
  go_enter Tryz.func111, Tryz.ntmps111
  go_wp2_with fail
  refine h.mono ?_
  rintro e w' ⟨rfl, h'⟩
  go_wp2_with fail
  go_end0
  exact ⟨rfl, h'⟩⟩

set_option maxRecDepth 100000 in
set_option maxHeartbeats 2000000 in
theorem stopsComplexType : Stops 79 114 := ⟨fun q w n => by kernel_rfl, fun q w n => by kernel_rfl, fun args w => by kernel_rfl, fun b po ps w R h => by
  go_enter Tryz.func114, Tryz.ntmps114
  go_wp2_with fail
  refine h.mono ?_
  rintro e w' ⟨rfl, h'⟩
  go_wp2_with fail
  go_end0
  exact ⟨rfl, h'⟩⟩

set_option maxRecDepth 100000 in
set_option maxHeartbeats 2000000 in
theorem stopsImaginaryType : Stops 81 117 := ⟨fun q w n => by kernel_rfl, fun q w n => by kernel_rfl, fun args w => by kernel_rfl, fun b po ps w R h => by
  go_enter Tryz.func117, Tryz.ntmps117
  go_wp2_with fail
  refine h.mono ?_
  rintro e w' ⟨rfl, h'⟩
  go_wp2_with fail
  go_end0
  exact ⟨rfl, h'⟩⟩

set_option maxRecDepth 100000 in
set_option maxHeartbeats 2000000 in
theorem stopsTypeWithQualifiers : Stops 83 120 := ⟨fun q w n => by kernel_rfl, fun q w n => by kernel_rfl, fun args w => by kernel_rfl, fun b po ps w R h => by
  go_enter Tryz.func120, Tryz.ntmps120
  go_wp2_with fail
  refine h.mono ?_
  rintro e w' ⟨rfl, h'⟩
  go_wp2_with fail
  go_end0
  exact ⟨rfl, h'⟩⟩

set_option maxRecDepth 100000 in
set_option maxHeartbeats 2000000 in
theorem stopsQualifiers : Stops 86 123 := ⟨fun q w n => by kernel_rfl, fun q w n => by kernel_rfl, fun args w => by kernel_rfl, fun b po ps w R h => by
  go_enter Tryz.func123, Tryz.ntmps123
  go_wp2_with fail
  refine h.mono ?_
  rintro e w' ⟨rfl, h'⟩
  go_wp2_with fail
  go_end0
  exact ⟨rfl, h'⟩⟩

set_option maxRecDepth 100000 in
set_option maxHeartbeats 2000000 in
theorem stopsQualifier : Stops 89 126 := ⟨fun q w n => by kernel_rfl, fun q w n => by kernel_rfl, fun args w => by kernel_rfl, fun b po ps w R h => by
  go_enter Tryz.func126, Tryz.ntmps126
  go_wp2_with fail
  refine h.mono ?_
  rintro e w' ⟨rfl, h'⟩
  go_wp2_with fail
  go_end0
  exact ⟨rfl, h'⟩⟩

set_option maxRecDepth 100000 in
set_option maxHeartbeats 2000000 in
theorem stopsMethodWithQualifiers : Stops 92 129 := ⟨fun q w n => by kernel_rfl, fun q w n => by kernel_rfl, fun args w => by kernel_rfl, fun b po ps w R h => by
  go_enter Tryz.func129, Tryz.ntmps129
  go_wp2_with fail
  refine h.mono ?_
  rintro e w' ⟨rfl, h'⟩
  go_wp2_with fail
  go_end0
  exact ⟨rfl, h'⟩⟩

set_option maxRecDepth 100000 in
set_option maxHeartbeats 2000000 in
theorem stopsArrayType : Stops 96 132 := ⟨fun q w n => by kernel_rfl, fun q w n => by kernel_rfl, fun args w => by kernel_rfl, fun b po ps w R h => by
  go_enter Tryz.func132, Tryz.ntmps132
  go_wp2_with fail
  refine h.mono ?_
  rintro e w' ⟨rfl, h'⟩
  go_wp2_with fail
  go_end0
  exact ⟨rfl, h'⟩⟩

set_option maxRecDepth 100000 in
set_option maxHeartbeats 2000000 in
theorem stopsVectorType : Stops 99 135 := ⟨fun q w n => by kernel_rfl, fun q w n => by kernel_rfl, fun args w => by kernel_rfl, fun b po ps w R h => by
  go_enter Tryz.func135, Tryz.ntmps135
  go_wp2_with fail
  refine h.mono ?_
  rintro e w' ⟨rfl, h'⟩
  go_wp2_with fail
  go_end0
  exact ⟨rfl, h'⟩⟩

set_option maxRecDepth 100000 in
set_option maxHeartbeats 2000000 in
theorem stopsPtrMem : Stops 102 138 := ⟨fun q w n => by kernel_rfl, fun q w n => by kernel_rfl, fun args w => by kernel_rfl, fun b po ps w R h => by
  go_enter Tryz.func138, Tryz.ntmps138
  go_wp2_with fail
  refine h.mono ?_
  rintro e w' ⟨rfl, h'⟩
  go_wp2_with fail
  go_end0
  exact ⟨rfl, h'⟩⟩

set_option maxRecDepth 100000 in
set_option maxHeartbeats 2000000 in
theorem stopsVendorQualifier : Stops 105 141 := ⟨fun q w n => by kernel_rfl, fun q w n => by kernel_rfl, fun args w => by kernel_rfl, fun b po ps w R h => by
  go_enter Tryz.func141, Tryz.ntmps141
  go_wp2_with fail
  refine h.mono ?_
  rintro e w' ⟨rfl, h'⟩
  go_wp2_with fail
  go_end0
  exact ⟨rfl, h'⟩⟩

set_option maxRecDepth 100000 in
set_option maxHeartbeats 2000000 in
theorem stopsLiteral : Stops 114 150 := ⟨fun q w n => by kernel_rfl, fun q w n => by kernel_rfl, fun args w => by kernel_rfl, fun b po ps w R h => by
  go_enter Tryz.func150, Tryz.ntmps150
  go_wp2_with fail
  refine h.mono ?_
  rintro e w' ⟨rfl, h'⟩
  go_wp2_with fail
  go_end0
  exact ⟨rfl, h'⟩⟩

set_option maxRecDepth 100000 in
set_option maxHeartbeats 2000000 in
theorem stopsArgumentPack : Stops 117 153 := ⟨fun q w n => by kernel_rfl, fun q w n => by kernel_rfl, fun args w => by kernel_rfl, fun b po ps w R h => by
  go_enter Tryz.func153, Tryz.ntmps153
  go_wp2_with fail
  refine h.mono ?_
  rintro e w' ⟨rfl, h'⟩
  go_wp2_with fail
  go_end0
  exact ⟨rfl, h'⟩⟩

set_option maxRecDepth 100000 in
set_option maxHeartbeats 2000000 in
theorem stopsClosure : Stops 124 159 := ⟨fun q w n => by kernel_rfl, fun q w n => by kernel_rfl, fun args w => by kernel_rfl, fun b po ps w R h => by
  go_enter Tryz.func159, Tryz.ntmps159
  go_wp2_with fail
  refine h.mono ?_
  rintro e w' ⟨rfl, h'⟩
  go_wp2_with fail
  go_end0
  exact ⟨rfl, h'⟩⟩

set_option maxRecDepth 100000 in
set_option maxHeartbeats 2000000 in
theorem stopsUnnamedType : Stops 127 162 := ⟨fun q w n => by kernel_rfl, fun q w n => by kernel_rfl, fun args w => by kernel_rfl, fun b po ps w R h => by
  go_enter Tryz.func162, Tryz.ntmps162
  go_wp2_with fail
  refine h.mono ?_
  rintro e w' ⟨rfl, h'⟩
  go_wp2_with fail
  go_end0
  exact ⟨rfl, h'⟩⟩

set_option maxRecDepth 100000 in
set_option maxHeartbeats 2000000 in
theorem stopsTaggedName : Stops 130 165 := ⟨fun q w n => by kernel_rfl, fun q w n => by kernel_rfl, fun args w => by kernel_rfl, fun b po ps w R h => by
  go_enter Tryz.func165, Tryz.ntmps165
  go_wp2_with fail
  refine h.mono ?_
  rintro e w' ⟨rfl, h'⟩
  go_wp2_with fail
  go_end0
  exact ⟨rfl, h'⟩⟩

set_option maxRecDepth 100000 in
set_option maxHeartbeats 2000000 in
theorem stopsCast : Stops 142 177 := ⟨fun q w n => by kernel_rfl, fun q w n => by kernel_rfl, fun args w => by kernel_rfl, fun b po ps w R h => by
  go_enter Tryz.func177, Tryz.ntmps177
  go_wp2_with fail
  refine h.mono ?_
  rintro e w' ⟨rfl, h'⟩
  go_wp2_with fail
  go_end0
  exact ⟨rfl, h'⟩⟩

theorem stopsC {k : ByteArray} {p : Nat} (h : PtrK k p) : ∃ f, Stops p f := by
  have hm := h.mem
  unfold ptrs at hm
  simp only [List.mem_cons, Prod.mk.injEq, List.not_mem_nil, or_false] at hm
  rcases hm with ⟨rfl, rfl⟩ | ⟨rfl, rfl⟩ | ⟨rfl, rfl⟩ | ⟨rfl, rfl⟩ | ⟨rfl, rfl⟩ | ⟨rfl, rfl⟩ | ⟨rfl, rfl⟩ | ⟨rfl, rfl⟩ | ⟨rfl, rfl⟩ | ⟨rfl, rfl⟩ | ⟨rfl, rfl⟩ | ⟨rfl, rfl⟩ | ⟨rfl, rfl⟩ | ⟨rfl, rfl⟩ | ⟨rfl, rfl⟩ | ⟨rfl, rfl⟩ | ⟨rfl, rfl⟩ | ⟨rfl, rfl⟩ | ⟨rfl, rfl⟩ | ⟨rfl, rfl⟩ | ⟨rfl, rfl⟩ | ⟨rfl, rfl⟩ | ⟨rfl, rfl⟩ | ⟨rfl, rfl⟩ | ⟨rfl, rfl⟩ | ⟨rfl, rfl⟩ | ⟨rfl, rfl⟩ | ⟨rfl, rfl⟩
  · exact ⟨_, stopsName⟩
  · exact ⟨_, stopsBuiltinType⟩
  · exact ⟨_, stopsOperator⟩
  · exact ⟨_, stopsConstructor⟩
  · exact ⟨_, stopsDestructor⟩
  · exact ⟨_, stopsQualified⟩
  · exact ⟨_, stopsTemplate⟩
  · exact ⟨_, stopsTyped⟩
  · exact ⟨_, stopsFunctionType⟩
  · exact ⟨_, stopsPointerType⟩
  · exact ⟨_, stopsReferenceType⟩
  · exact ⟨_, stopsRvalueReferenceType⟩
  · exact ⟨_, stopsComplexType⟩
  · exact ⟨_, stopsImaginaryType⟩
  · exact ⟨_, stopsTypeWithQualifiers⟩
  · exact ⟨_, stopsQualifiers⟩
  · exact ⟨_, stopsQualifier⟩
  · exact ⟨_, stopsMethodWithQualifiers⟩
  · exact ⟨_, stopsArrayType⟩
  · exact ⟨_, stopsVectorType⟩
  · exact ⟨_, stopsPtrMem⟩
  · exact ⟨_, stopsVendorQualifier⟩
  · exact ⟨_, stopsLiteral⟩
  · exact ⟨_, stopsArgumentPack⟩
  · exact ⟨_, stopsClosure⟩
  · exact ⟨_, stopsUnnamedType⟩
  · exact ⟨_, stopsTaggedName⟩
  · exact ⟨_, stopsCast⟩
end Go.Proofs.YteojmibojkkheaaGreatDoor
