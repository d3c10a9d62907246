/- impl.kindOf: the kind of an element, and of none; conditions: none. -/
import Derived.Test.YteojmibojkkheaaGreatDoorAst
import Derived.WalkKit
import Derived.ProofKit
namespace Go.Proofs.YteojmibojkkheaaGreatDoor
open Go.ChangeShapes Go.WideShapes Go.ChangeAt Go.RowKit
set_option linter.unusedVariables false

/-- What kindOf says of a value. -/
def KindOf (v : Value) (k : ByteArray) : Prop := ∀ w : World, Calls Tryz.prog 27 #[v] w fun e w' => e = .returned (.string k) ∧ w = w'

set_option maxRecDepth 100000 in
set_option maxHeartbeats 2000000 in
theorem kindName (p : Option Addr) : KindOf (.iface 42 (.pointer p)) kName := by
  intro w
  have a0 : ∀ (a : Option Addr) (w : World), (Instr.typeAssert (.iface 42 (.pointer a)) 33 42 true).run Tryz.prog w = .ok (.tuple #[.pointer a, .bool true]) w := fun a w => by kernel_rfl
  go_enter Tryz.func27, Tryz.ntmps27
  go_wp2_with fail
  go_ret
  exact ⟨rfl, rfl⟩

set_option maxRecDepth 100000 in
set_option maxHeartbeats 2000000 in
theorem kindBuiltinType (p : Option Addr) : KindOf (.iface 45 (.pointer p)) kBuiltinType := by
  intro w
  have a0 : ∀ (a : Option Addr) (w : World), (Instr.typeAssert (.iface 45 (.pointer a)) 33 42 true).run Tryz.prog w = .ok (.tuple #[.pointer none, .bool false]) w := fun a w => by kernel_rfl
  have a1 : ∀ (a : Option Addr) (w : World), (Instr.typeAssert (.iface 45 (.pointer a)) 33 45 true).run Tryz.prog w = .ok (.tuple #[.pointer a, .bool true]) w := fun a w => by kernel_rfl
  go_enter Tryz.func27, Tryz.ntmps27
  go_wp2_with fail
  go_ret
  exact ⟨rfl, rfl⟩

set_option maxRecDepth 100000 in
set_option maxHeartbeats 2000000 in
theorem kindOperator (p : Option Addr) : KindOf (.iface 47 (.pointer p)) kOperator := by
  intro w
  have a0 : ∀ (a : Option Addr) (w : World), (Instr.typeAssert (.iface 47 (.pointer a)) 33 42 true).run Tryz.prog w = .ok (.tuple #[.pointer none, .bool false]) w := fun a w => by kernel_rfl
  have a1 : ∀ (a : Option Addr) (w : World), (Instr.typeAssert (.iface 47 (.pointer a)) 33 45 true).run Tryz.prog w = .ok (.tuple #[.pointer none, .bool false]) w := fun a w => by kernel_rfl
  have a2 : ∀ (a : Option Addr) (w : World), (Instr.typeAssert (.iface 47 (.pointer a)) 33 47 true).run Tryz.prog w = .ok (.tuple #[.pointer a, .bool true]) w := fun a w => by kernel_rfl
  go_enter Tryz.func27, Tryz.ntmps27
  go_wp2_with fail
  go_ret
  exact ⟨rfl, rfl⟩

set_option maxRecDepth 100000 in
set_option maxHeartbeats 2000000 in
theorem kindConstructor (p : Option Addr) : KindOf (.iface 51 (.pointer p)) kConstructor := by
  intro w
  have a0 : ∀ (a : Option Addr) (w : World), (Instr.typeAssert (.iface 51 (.pointer a)) 33 42 true).run Tryz.prog w = .ok (.tuple #[.pointer none, .bool false]) w := fun a w => by kernel_rfl
  have a1 : ∀ (a : Option Addr) (w : World), (Instr.typeAssert (.iface 51 (.pointer a)) 33 45 true).run Tryz.prog w = .ok (.tuple #[.pointer none, .bool false]) w := fun a w => by kernel_rfl
  have a2 : ∀ (a : Option Addr) (w : World), (Instr.typeAssert (.iface 51 (.pointer a)) 33 47 true).run Tryz.prog w = .ok (.tuple #[.pointer none, .bool false]) w := fun a w => by kernel_rfl
  have a3 : ∀ (a : Option Addr) (w : World), (Instr.typeAssert (.iface 51 (.pointer a)) 33 51 true).run Tryz.prog w = .ok (.tuple #[.pointer a, .bool true]) w := fun a w => by kernel_rfl
  go_enter Tryz.func27, Tryz.ntmps27
  go_wp2_with fail
  go_ret
  exact ⟨rfl, rfl⟩

set_option maxRecDepth 100000 in
set_option maxHeartbeats 2000000 in
theorem kindDestructor (p : Option Addr) : KindOf (.iface 55 (.pointer p)) kDestructor := by
  intro w
  have a0 : ∀ (a : Option Addr) (w : World), (Instr.typeAssert (.iface 55 (.pointer a)) 33 42 true).run Tryz.prog w = .ok (.tuple #[.pointer none, .bool false]) w := fun a w => by kernel_rfl
  have a1 : ∀ (a : Option Addr) (w : World), (Instr.typeAssert (.iface 55 (.pointer a)) 33 45 true).run Tryz.prog w = .ok (.tuple #[.pointer none, .bool false]) w := fun a w => by kernel_rfl
  have a2 : ∀ (a : Option Addr) (w : World), (Instr.typeAssert (.iface 55 (.pointer a)) 33 47 true).run Tryz.prog w = .ok (.tuple #[.pointer none, .bool false]) w := fun a w => by kernel_rfl
  have a3 : ∀ (a : Option Addr) (w : World), (Instr.typeAssert (.iface 55 (.pointer a)) 33 51 true).run Tryz.prog w = .ok (.tuple #[.pointer none, .bool false]) w := fun a w => by kernel_rfl
  have a4 : ∀ (a : Option Addr) (w : World), (Instr.typeAssert (.iface 55 (.pointer a)) 33 55 true).run Tryz.prog w = .ok (.tuple #[.pointer a, .bool true]) w := fun a w => by kernel_rfl
  go_enter Tryz.func27, Tryz.ntmps27
  go_wp2_with fail
  go_ret
  exact ⟨rfl, rfl⟩

set_option maxRecDepth 100000 in
set_option maxHeartbeats 2000000 in
theorem kindQualified (p : Option Addr) : KindOf (.iface 58 (.pointer p)) kQualified := by
  intro w
  have a0 : ∀ (a : Option Addr) (w : World), (Instr.typeAssert (.iface 58 (.pointer a)) 33 42 true).run Tryz.prog w = .ok (.tuple #[.pointer none, .bool false]) w := fun a w => by kernel_rfl
  have a1 : ∀ (a : Option Addr) (w : World), (Instr.typeAssert (.iface 58 (.pointer a)) 33 45 true).run Tryz.prog w = .ok (.tuple #[.pointer none, .bool false]) w := fun a w => by kernel_rfl
  have a2 : ∀ (a : Option Addr) (w : World), (Instr.typeAssert (.iface 58 (.pointer a)) 33 47 true).run Tryz.prog w = .ok (.tuple #[.pointer none, .bool false]) w := fun a w => by kernel_rfl
  have a3 : ∀ (a : Option Addr) (w : World), (Instr.typeAssert (.iface 58 (.pointer a)) 33 51 true).run Tryz.prog w = .ok (.tuple #[.pointer none, .bool false]) w := fun a w => by kernel_rfl
  have a4 : ∀ (a : Option Addr) (w : World), (Instr.typeAssert (.iface 58 (.pointer a)) 33 55 true).run Tryz.prog w = .ok (.tuple #[.pointer none, .bool false]) w := fun a w => by kernel_rfl
  have a5 : ∀ (a : Option Addr) (w : World), (Instr.typeAssert (.iface 58 (.pointer a)) 33 58 true).run Tryz.prog w = .ok (.tuple #[.pointer a, .bool true]) w := fun a w => by kernel_rfl
  go_enter Tryz.func27, Tryz.ntmps27
  go_wp2_with fail
  go_ret
  exact ⟨rfl, rfl⟩

set_option maxRecDepth 100000 in
set_option maxHeartbeats 2000000 in
theorem kindTemplate (p : Option Addr) : KindOf (.iface 61 (.pointer p)) kTemplate := by
  intro w
  have a0 : ∀ (a : Option Addr) (w : World), (Instr.typeAssert (.iface 61 (.pointer a)) 33 42 true).run Tryz.prog w = .ok (.tuple #[.pointer none, .bool false]) w := fun a w => by kernel_rfl
  have a1 : ∀ (a : Option Addr) (w : World), (Instr.typeAssert (.iface 61 (.pointer a)) 33 45 true).run Tryz.prog w = .ok (.tuple #[.pointer none, .bool false]) w := fun a w => by kernel_rfl
  have a2 : ∀ (a : Option Addr) (w : World), (Instr.typeAssert (.iface 61 (.pointer a)) 33 47 true).run Tryz.prog w = .ok (.tuple #[.pointer none, .bool false]) w := fun a w => by kernel_rfl
  have a3 : ∀ (a : Option Addr) (w : World), (Instr.typeAssert (.iface 61 (.pointer a)) 33 51 true).run Tryz.prog w = .ok (.tuple #[.pointer none, .bool false]) w := fun a w => by kernel_rfl
  have a4 : ∀ (a : Option Addr) (w : World), (Instr.typeAssert (.iface 61 (.pointer a)) 33 55 true).run Tryz.prog w = .ok (.tuple #[.pointer none, .bool false]) w := fun a w => by kernel_rfl
  have a5 : ∀ (a : Option Addr) (w : World), (Instr.typeAssert (.iface 61 (.pointer a)) 33 58 true).run Tryz.prog w = .ok (.tuple #[.pointer none, .bool false]) w := fun a w => by kernel_rfl
  have a6 : ∀ (a : Option Addr) (w : World), (Instr.typeAssert (.iface 61 (.pointer a)) 33 61 true).run Tryz.prog w = .ok (.tuple #[.pointer a, .bool true]) w := fun a w => by kernel_rfl
  go_enter Tryz.func27, Tryz.ntmps27
  go_wp2_with fail
  go_ret
  exact ⟨rfl, rfl⟩

set_option maxRecDepth 100000 in
set_option maxHeartbeats 2000000 in
theorem kindTyped (p : Option Addr) : KindOf (.iface 66 (.pointer p)) kTyped := by
  intro w
  have a0 : ∀ (a : Option Addr) (w : World), (Instr.typeAssert (.iface 66 (.pointer a)) 33 42 true).run Tryz.prog w = .ok (.tuple #[.pointer none, .bool false]) w := fun a w => by kernel_rfl
  have a1 : ∀ (a : Option Addr) (w : World), (Instr.typeAssert (.iface 66 (.pointer a)) 33 45 true).run Tryz.prog w = .ok (.tuple #[.pointer none, .bool false]) w := fun a w => by kernel_rfl
  have a2 : ∀ (a : Option Addr) (w : World), (Instr.typeAssert (.iface 66 (.pointer a)) 33 47 true).run Tryz.prog w = .ok (.tuple #[.pointer none, .bool false]) w := fun a w => by kernel_rfl
  have a3 : ∀ (a : Option Addr) (w : World), (Instr.typeAssert (.iface 66 (.pointer a)) 33 51 true).run Tryz.prog w = .ok (.tuple #[.pointer none, .bool false]) w := fun a w => by kernel_rfl
  have a4 : ∀ (a : Option Addr) (w : World), (Instr.typeAssert (.iface 66 (.pointer a)) 33 55 true).run Tryz.prog w = .ok (.tuple #[.pointer none, .bool false]) w := fun a w => by kernel_rfl
  have a5 : ∀ (a : Option Addr) (w : World), (Instr.typeAssert (.iface 66 (.pointer a)) 33 58 true).run Tryz.prog w = .ok (.tuple #[.pointer none, .bool false]) w := fun a w => by kernel_rfl
  have a6 : ∀ (a : Option Addr) (w : World), (Instr.typeAssert (.iface 66 (.pointer a)) 33 61 true).run Tryz.prog w = .ok (.tuple #[.pointer none, .bool false]) w := fun a w => by kernel_rfl
  have a7 : ∀ (a : Option Addr) (w : World), (Instr.typeAssert (.iface 66 (.pointer a)) 33 66 true).run Tryz.prog w = .ok (.tuple #[.pointer a, .bool true]) w := fun a w => by kernel_rfl
  go_enter Tryz.func27, Tryz.ntmps27
  go_wp2_with fail
  go_ret
  exact ⟨rfl, rfl⟩

set_option maxRecDepth 100000 in
set_option maxHeartbeats 2000000 in
theorem kindFunctionType (p : Option Addr) : KindOf (.iface 69 (.pointer p)) kFunctionType := by
  intro w
  have a0 : ∀ (a : Option Addr) (w : World), (Instr.typeAssert (.iface 69 (.pointer a)) 33 42 true).run Tryz.prog w = .ok (.tuple #[.pointer none, .bool false]) w := fun a w => by kernel_rfl
  have a1 : ∀ (a : Option Addr) (w : World), (Instr.typeAssert (.iface 69 (.pointer a)) 33 45 true).run Tryz.prog w = .ok (.tuple #[.pointer none, .bool false]) w := fun a w => by kernel_rfl
  have a2 : ∀ (a : Option Addr) (w : World), (Instr.typeAssert (.iface 69 (.pointer a)) 33 47 true).run Tryz.prog w = .ok (.tuple #[.pointer none, .bool false]) w := fun a w => by kernel_rfl
  have a3 : ∀ (a : Option Addr) (w : World), (Instr.typeAssert (.iface 69 (.pointer a)) 33 51 true).run Tryz.prog w = .ok (.tuple #[.pointer none, .bool false]) w := fun a w => by kernel_rfl
  have a4 : ∀ (a : Option Addr) (w : World), (Instr.typeAssert (.iface 69 (.pointer a)) 33 55 true).run Tryz.prog w = .ok (.tuple #[.pointer none, .bool false]) w := fun a w => by kernel_rfl
  have a5 : ∀ (a : Option Addr) (w : World), (Instr.typeAssert (.iface 69 (.pointer a)) 33 58 true).run Tryz.prog w = .ok (.tuple #[.pointer none, .bool false]) w := fun a w => by kernel_rfl
  have a6 : ∀ (a : Option Addr) (w : World), (Instr.typeAssert (.iface 69 (.pointer a)) 33 61 true).run Tryz.prog w = .ok (.tuple #[.pointer none, .bool false]) w := fun a w => by kernel_rfl
  have a7 : ∀ (a : Option Addr) (w : World), (Instr.typeAssert (.iface 69 (.pointer a)) 33 66 true).run Tryz.prog w = .ok (.tuple #[.pointer none, .bool false]) w := fun a w => by kernel_rfl
  have a8 : ∀ (a : Option Addr) (w : World), (Instr.typeAssert (.iface 69 (.pointer a)) 33 69 true).run Tryz.prog w = .ok (.tuple #[.pointer a, .bool true]) w := fun a w => by kernel_rfl
  go_enter Tryz.func27, Tryz.ntmps27
  go_wp2_with fail
  go_ret
  exact ⟨rfl, rfl⟩

set_option maxRecDepth 100000 in
set_option maxHeartbeats 2000000 in
theorem kindPointerType (p : Option Addr) : KindOf (.iface 72 (.pointer p)) kPointerType := by
  intro w
  have a0 : ∀ (a : Option Addr) (w : World), (Instr.typeAssert (.iface 72 (.pointer a)) 33 42 true).run Tryz.prog w = .ok (.tuple #[.pointer none, .bool false]) w := fun a w => by kernel_rfl
  have a1 : ∀ (a : Option Addr) (w : World), (Instr.typeAssert (.iface 72 (.pointer a)) 33 45 true).run Tryz.prog w = .ok (.tuple #[.pointer none, .bool false]) w := fun a w => by kernel_rfl
  have a2 : ∀ (a : Option Addr) (w : World), (Instr.typeAssert (.iface 72 (.pointer a)) 33 47 true).run Tryz.prog w = .ok (.tuple #[.pointer none, .bool false]) w := fun a w => by kernel_rfl
  have a3 : ∀ (a : Option Addr) (w : World), (Instr.typeAssert (.iface 72 (.pointer a)) 33 51 true).run Tryz.prog w = .ok (.tuple #[.pointer none, .bool false]) w := fun a w => by kernel_rfl
  have a4 : ∀ (a : Option Addr) (w : World), (Instr.typeAssert (.iface 72 (.pointer a)) 33 55 true).run Tryz.prog w = .ok (.tuple #[.pointer none, .bool false]) w := fun a w => by kernel_rfl
  have a5 : ∀ (a : Option Addr) (w : World), (Instr.typeAssert (.iface 72 (.pointer a)) 33 58 true).run Tryz.prog w = .ok (.tuple #[.pointer none, .bool false]) w := fun a w => by kernel_rfl
  have a6 : ∀ (a : Option Addr) (w : World), (Instr.typeAssert (.iface 72 (.pointer a)) 33 61 true).run Tryz.prog w = .ok (.tuple #[.pointer none, .bool false]) w := fun a w => by kernel_rfl
  have a7 : ∀ (a : Option Addr) (w : World), (Instr.typeAssert (.iface 72 (.pointer a)) 33 66 true).run Tryz.prog w = .ok (.tuple #[.pointer none, .bool false]) w := fun a w => by kernel_rfl
  have a8 : ∀ (a : Option Addr) (w : World), (Instr.typeAssert (.iface 72 (.pointer a)) 33 69 true).run Tryz.prog w = .ok (.tuple #[.pointer none, .bool false]) w := fun a w => by kernel_rfl
  have a9 : ∀ (a : Option Addr) (w : World), (Instr.typeAssert (.iface 72 (.pointer a)) 33 72 true).run Tryz.prog w = .ok (.tuple #[.pointer a, .bool true]) w := fun a w => by kernel_rfl
  go_enter Tryz.func27, Tryz.ntmps27
  go_wp2_with fail
  go_ret
  exact ⟨rfl, rfl⟩

set_option maxRecDepth 100000 in
set_option maxHeartbeats 2000000 in
theorem kindReferenceType (p : Option Addr) : KindOf (.iface 75 (.pointer p)) kReferenceType := by
  intro w
  have a0 : ∀ (a : Option Addr) (w : World), (Instr.typeAssert (.iface 75 (.pointer a)) 33 42 true).run Tryz.prog w = .ok (.tuple #[.pointer none, .bool false]) w := fun a w => by kernel_rfl
  have a1 : ∀ (a : Option Addr) (w : World), (Instr.typeAssert (.iface 75 (.pointer a)) 33 45 true).run Tryz.prog w = .ok (.tuple #[.pointer none, .bool false]) w := fun a w => by kernel_rfl
  have a2 : ∀ (a : Option Addr) (w : World), (Instr.typeAssert (.iface 75 (.pointer a)) 33 47 true).run Tryz.prog w = .ok (.tuple #[.pointer none, .bool false]) w := fun a w => by kernel_rfl
  have a3 : ∀ (a : Option Addr) (w : World), (Instr.typeAssert (.iface 75 (.pointer a)) 33 51 true).run Tryz.prog w = .ok (.tuple #[.pointer none, .bool false]) w := fun a w => by kernel_rfl
  have a4 : ∀ (a : Option Addr) (w : World), (Instr.typeAssert (.iface 75 (.pointer a)) 33 55 true).run Tryz.prog w = .ok (.tuple #[.pointer none, .bool false]) w := fun a w => by kernel_rfl
  have a5 : ∀ (a : Option Addr) (w : World), (Instr.typeAssert (.iface 75 (.pointer a)) 33 58 true).run Tryz.prog w = .ok (.tuple #[.pointer none, .bool false]) w := fun a w => by kernel_rfl
  have a6 : ∀ (a : Option Addr) (w : World), (Instr.typeAssert (.iface 75 (.pointer a)) 33 61 true).run Tryz.prog w = .ok (.tuple #[.pointer none, .bool false]) w := fun a w => by kernel_rfl
  have a7 : ∀ (a : Option Addr) (w : World), (Instr.typeAssert (.iface 75 (.pointer a)) 33 66 true).run Tryz.prog w = .ok (.tuple #[.pointer none, .bool false]) w := fun a w => by kernel_rfl
  have a8 : ∀ (a : Option Addr) (w : World), (Instr.typeAssert (.iface 75 (.pointer a)) 33 69 true).run Tryz.prog w = .ok (.tuple #[.pointer none, .bool false]) w := fun a w => by kernel_rfl
  have a9 : ∀ (a : Option Addr) (w : World), (Instr.typeAssert (.iface 75 (.pointer a)) 33 72 true).run Tryz.prog w = .ok (.tuple #[.pointer none, .bool false]) w := fun a w => by kernel_rfl
  have a10 : ∀ (a : Option Addr) (w : World), (Instr.typeAssert (.iface 75 (.pointer a)) 33 75 true).run Tryz.prog w = .ok (.tuple #[.pointer a, .bool true]) w := fun a w => by kernel_rfl
  go_enter Tryz.func27, Tryz.ntmps27
  go_wp2_with fail
  go_ret
  exact ⟨rfl, rfl⟩

set_option maxRecDepth 100000 in
set_option maxHeartbeats 2000000 in
theorem kindRvalueReferenceType (p : Option Addr) : KindOf (.iface 77 (.pointer p)) kRvalueReferenceType := by
  intro w
  have a0 : ∀ (a : Option Addr) (w : World), (Instr.typeAssert (.iface 77 (.pointer a)) 33 42 true).run Tryz.prog w = .ok (.tuple #[.pointer none, .bool false]) w := fun a w => by kernel_rfl
  have a1 : ∀ (a : Option Addr) (w : World), (Instr.typeAssert (.iface 77 (.pointer a)) 33 45 true).run Tryz.prog w = .ok (.tuple #[.pointer none, .bool false]) w := fun a w => by kernel_rfl
  have a2 : ∀ (a : Option Addr) (w : World), (Instr.typeAssert (.iface 77 (.pointer a)) 33 47 true).run Tryz.prog w = .ok (.tuple #[.pointer none, .bool false]) w := fun a w => by kernel_rfl
  have a3 : ∀ (a : Option Addr) (w : World), (Instr.typeAssert (.iface 77 (.pointer a)) 33 51 true).run Tryz.prog w = .ok (.tuple #[.pointer none, .bool false]) w := fun a w => by kernel_rfl
  have a4 : ∀ (a : Option Addr) (w : World), (Instr.typeAssert (.iface 77 (.pointer a)) 33 55 true).run Tryz.prog w = .ok (.tuple #[.pointer none, .bool false]) w := fun a w => by kernel_rfl
  have a5 : ∀ (a : Option Addr) (w : World), (Instr.typeAssert (.iface 77 (.pointer a)) 33 58 true).run Tryz.prog w = .ok (.tuple #[.pointer none, .bool false]) w := fun a w => by kernel_rfl
  have a6 : ∀ (a : Option Addr) (w : World), (Instr.typeAssert (.iface 77 (.pointer a)) 33 61 true).run Tryz.prog w = .ok (.tuple #[.pointer none, .bool false]) w := fun a w => by kernel_rfl
  have a7 : ∀ (a : Option Addr) (w : World), (Instr.typeAssert (.iface 77 (.pointer a)) 33 66 true).run Tryz.prog w = .ok (.tuple #[.pointer none, .bool false]) w := fun a w => by kernel_rfl
  have a8 : ∀ (a : Option Addr) (w : World), (Instr.typeAssert (.iface 77 (.pointer a)) 33 69 true).run Tryz.prog w = .ok (.tuple #[.pointer none, .bool false]) w := fun a w => by kernel_rfl
  have a9 : ∀ (a : Option Addr) (w : World), (Instr.typeAssert (.iface 77 (.pointer a)) 33 72 true).run Tryz.prog w = .ok (.tuple #[.pointer none, .bool false]) w := fun a w => by kernel_rfl
  have a10 : ∀ (a : Option Addr) (w : World), (Instr.typeAssert (.iface 77 (.pointer a)) 33 75 true).run Tryz.prog w = .ok (.tuple #[.pointer none, .bool false]) w := fun a w => by kernel_rfl
  have a11 : ∀ (a : Option Addr) (w : World), (Instr.typeAssert (.iface 77 (.pointer a)) 33 77 true).run Tryz.prog w = .ok (.tuple #[.pointer a, .bool true]) w := fun a w => by kernel_rfl
  go_enter Tryz.func27, Tryz.ntmps27
  go_wp2_with fail
  go_ret
  exact ⟨rfl, rfl⟩

set_option maxRecDepth 100000 in
set_option maxHeartbeats 2000000 in
theorem kindComplexType (p : Option Addr) : KindOf (.iface 79 (.pointer p)) kComplexType := by
  intro w
  have a0 : ∀ (a : Option Addr) (w : World), (Instr.typeAssert (.iface 79 (.pointer a)) 33 42 true).run Tryz.prog w = .ok (.tuple #[.pointer none, .bool false]) w := fun a w => by kernel_rfl
  have a1 : ∀ (a : Option Addr) (w : World), (Instr.typeAssert (.iface 79 (.pointer a)) 33 45 true).run Tryz.prog w = .ok (.tuple #[.pointer none, .bool false]) w := fun a w => by kernel_rfl
  have a2 : ∀ (a : Option Addr) (w : World), (Instr.typeAssert (.iface 79 (.pointer a)) 33 47 true).run Tryz.prog w = .ok (.tuple #[.pointer none, .bool false]) w := fun a w => by kernel_rfl
  have a3 : ∀ (a : Option Addr) (w : World), (Instr.typeAssert (.iface 79 (.pointer a)) 33 51 true).run Tryz.prog w = .ok (.tuple #[.pointer none, .bool false]) w := fun a w => by kernel_rfl
  have a4 : ∀ (a : Option Addr) (w : World), (Instr.typeAssert (.iface 79 (.pointer a)) 33 55 true).run Tryz.prog w = .ok (.tuple #[.pointer none, .bool false]) w := fun a w => by kernel_rfl
  have a5 : ∀ (a : Option Addr) (w : World), (Instr.typeAssert (.iface 79 (.pointer a)) 33 58 true).run Tryz.prog w = .ok (.tuple #[.pointer none, .bool false]) w := fun a w => by kernel_rfl
  have a6 : ∀ (a : Option Addr) (w : World), (Instr.typeAssert (.iface 79 (.pointer a)) 33 61 true).run Tryz.prog w = .ok (.tuple #[.pointer none, .bool false]) w := fun a w => by kernel_rfl
  have a7 : ∀ (a : Option Addr) (w : World), (Instr.typeAssert (.iface 79 (.pointer a)) 33 66 true).run Tryz.prog w = .ok (.tuple #[.pointer none, .bool false]) w := fun a w => by kernel_rfl
  have a8 : ∀ (a : Option Addr) (w : World), (Instr.typeAssert (.iface 79 (.pointer a)) 33 69 true).run Tryz.prog w = .ok (.tuple #[.pointer none, .bool false]) w := fun a w => by kernel_rfl
  have a9 : ∀ (a : Option Addr) (w : World), (Instr.typeAssert (.iface 79 (.pointer a)) 33 72 true).run Tryz.prog w = .ok (.tuple #[.pointer none, .bool false]) w := fun a w => by kernel_rfl
  have a10 : ∀ (a : Option Addr) (w : World), (Instr.typeAssert (.iface 79 (.pointer a)) 33 75 true).run Tryz.prog w = .ok (.tuple #[.pointer none, .bool false]) w := fun a w => by kernel_rfl
  have a11 : ∀ (a : Option Addr) (w : World), (Instr.typeAssert (.iface 79 (.pointer a)) 33 77 true).run Tryz.prog w = .ok (.tuple #[.pointer none, .bool false]) w := fun a w => by kernel_rfl
  have a12 : ∀ (a : Option Addr) (w : World), (Instr.typeAssert (.iface 79 (.pointer a)) 33 79 true).run Tryz.prog w = .ok (.tuple #[.pointer a, .bool true]) w := fun a w => by kernel_rfl
  go_enter Tryz.func27, Tryz.ntmps27
  go_wp2_with fail
  go_ret
  exact ⟨rfl, rfl⟩

set_option maxRecDepth 100000 in
set_option maxHeartbeats 2000000 in
theorem kindImaginaryType (p : Option Addr) : KindOf (.iface 81 (.pointer p)) kImaginaryType := by
  intro w
  have a0 : ∀ (a : Option Addr) (w : World), (Instr.typeAssert (.iface 81 (.pointer a)) 33 42 true).run Tryz.prog w = .ok (.tuple #[.pointer none, .bool false]) w := fun a w => by kernel_rfl
  have a1 : ∀ (a : Option Addr) (w : World), (Instr.typeAssert (.iface 81 (.pointer a)) 33 45 true).run Tryz.prog w = .ok (.tuple #[.pointer none, .bool false]) w := fun a w => by kernel_rfl
  have a2 : ∀ (a : Option Addr) (w : World), (Instr.typeAssert (.iface 81 (.pointer a)) 33 47 true).run Tryz.prog w = .ok (.tuple #[.pointer none, .bool false]) w := fun a w => by kernel_rfl
  have a3 : ∀ (a : Option Addr) (w : World), (Instr.typeAssert (.iface 81 (.pointer a)) 33 51 true).run Tryz.prog w = .ok (.tuple #[.pointer none, .bool false]) w := fun a w => by kernel_rfl
  have a4 : ∀ (a : Option Addr) (w : World), (Instr.typeAssert (.iface 81 (.pointer a)) 33 55 true).run Tryz.prog w = .ok (.tuple #[.pointer none, .bool false]) w := fun a w => by kernel_rfl
  have a5 : ∀ (a : Option Addr) (w : World), (Instr.typeAssert (.iface 81 (.pointer a)) 33 58 true).run Tryz.prog w = .ok (.tuple #[.pointer none, .bool false]) w := fun a w => by kernel_rfl
  have a6 : ∀ (a : Option Addr) (w : World), (Instr.typeAssert (.iface 81 (.pointer a)) 33 61 true).run Tryz.prog w = .ok (.tuple #[.pointer none, .bool false]) w := fun a w => by kernel_rfl
  have a7 : ∀ (a : Option Addr) (w : World), (Instr.typeAssert (.iface 81 (.pointer a)) 33 66 true).run Tryz.prog w = .ok (.tuple #[.pointer none, .bool false]) w := fun a w => by kernel_rfl
  have a8 : ∀ (a : Option Addr) (w : World), (Instr.typeAssert (.iface 81 (.pointer a)) 33 69 true).run Tryz.prog w = .ok (.tuple #[.pointer none, .bool false]) w := fun a w => by kernel_rfl
  have a9 : ∀ (a : Option Addr) (w : World), (Instr.typeAssert (.iface 81 (.pointer a)) 33 72 true).run Tryz.prog w = .ok (.tuple #[.pointer none, .bool false]) w := fun a w => by kernel_rfl
  have a10 : ∀ (a : Option Addr) (w : World), (Instr.typeAssert (.iface 81 (.pointer a)) 33 75 true).run Tryz.prog w = .ok (.tuple #[.pointer none, .bool false]) w := fun a w => by kernel_rfl
  have a11 : ∀ (a : Option Addr) (w : World), (Instr.typeAssert (.iface 81 (.pointer a)) 33 77 true).run Tryz.prog w = .ok (.tuple #[.pointer none, .bool false]) w := fun a w => by kernel_rfl
  have a12 : ∀ (a : Option Addr) (w : World), (Instr.typeAssert (.iface 81 (.pointer a)) 33 79 true).run Tryz.prog w = .ok (.tuple #[.pointer none, .bool false]) w := fun a w => by kernel_rfl
  have a13 : ∀ (a : Option Addr) (w : World), (Instr.typeAssert (.iface 81 (.pointer a)) 33 81 true).run Tryz.prog w = .ok (.tuple #[.pointer a, .bool true]) w := fun a w => by kernel_rfl
  go_enter Tryz.func27, Tryz.ntmps27
  go_wp2_with fail
  go_ret
  exact ⟨rfl, rfl⟩

set_option maxRecDepth 100000 in
set_option maxHeartbeats 2000000 in
theorem kindTypeWithQualifiers (p : Option Addr) : KindOf (.iface 83 (.pointer p)) kTypeWithQualifiers := by
  intro w
  have a0 : ∀ (a : Option Addr) (w : World), (Instr.typeAssert (.iface 83 (.pointer a)) 33 42 true).run Tryz.prog w = .ok (.tuple #[.pointer none, .bool false]) w := fun a w => by kernel_rfl
  have a1 : ∀ (a : Option Addr) (w : World), (Instr.typeAssert (.iface 83 (.pointer a)) 33 45 true).run Tryz.prog w = .ok (.tuple #[.pointer none, .bool false]) w := fun a w => by kernel_rfl
  have a2 : ∀ (a : Option Addr) (w : World), (Instr.typeAssert (.iface 83 (.pointer a)) 33 47 true).run Tryz.prog w = .ok (.tuple #[.pointer none, .bool false]) w := fun a w => by kernel_rfl
  have a3 : ∀ (a : Option Addr) (w : World), (Instr.typeAssert (.iface 83 (.pointer a)) 33 51 true).run Tryz.prog w = .ok (.tuple #[.pointer none, .bool false]) w := fun a w => by kernel_rfl
  have a4 : ∀ (a : Option Addr) (w : World), (Instr.typeAssert (.iface 83 (.pointer a)) 33 55 true).run Tryz.prog w = .ok (.tuple #[.pointer none, .bool false]) w := fun a w => by kernel_rfl
  have a5 : ∀ (a : Option Addr) (w : World), (Instr.typeAssert (.iface 83 (.pointer a)) 33 58 true).run Tryz.prog w = .ok (.tuple #[.pointer none, .bool false]) w := fun a w => by kernel_rfl
  have a6 : ∀ (a : Option Addr) (w : World), (Instr.typeAssert (.iface 83 (.pointer a)) 33 61 true).run Tryz.prog w = .ok (.tuple #[.pointer none, .bool false]) w := fun a w => by kernel_rfl
  have a7 : ∀ (a : Option Addr) (w : World), (Instr.typeAssert (.iface 83 (.pointer a)) 33 66 true).run Tryz.prog w = .ok (.tuple #[.pointer none, .bool false]) w := fun a w => by kernel_rfl
  have a8 : ∀ (a : Option Addr) (w : World), (Instr.typeAssert (.iface 83 (.pointer a)) 33 69 true).run Tryz.prog w = .ok (.tuple #[.pointer none, .bool false]) w := fun a w => by kernel_rfl
  have a9 : ∀ (a : Option Addr) (w : World), (Instr.typeAssert (.iface 83 (.pointer a)) 33 72 true).run Tryz.prog w = .ok (.tuple #[.pointer none, .bool false]) w := fun a w => by kernel_rfl
  have a10 : ∀ (a : Option Addr) (w : World), (Instr.typeAssert (.iface 83 (.pointer a)) 33 75 true).run Tryz.prog w = .ok (.tuple #[.pointer none, .bool false]) w := fun a w => by kernel_rfl
  have a11 : ∀ (a : Option Addr) (w : World), (Instr.typeAssert (.iface 83 (.pointer a)) 33 77 true).run Tryz.prog w = .ok (.tuple #[.pointer none, .bool false]) w := fun a w => by kernel_rfl
  have a12 : ∀ (a : Option Addr) (w : World), (Instr.typeAssert (.iface 83 (.pointer a)) 33 79 true).run Tryz.prog w = .ok (.tuple #[.pointer none, .bool false]) w := fun a w => by kernel_rfl
  have a13 : ∀ (a : Option Addr) (w : World), (Instr.typeAssert (.iface 83 (.pointer a)) 33 81 true).run Tryz.prog w = .ok (.tuple #[.pointer none, .bool false]) w := fun a w => by kernel_rfl
  have a14 : ∀ (a : Option Addr) (w : World), (Instr.typeAssert (.iface 83 (.pointer a)) 33 83 true).run Tryz.prog w = .ok (.tuple #[.pointer a, .bool true]) w := fun a w => by kernel_rfl
  go_enter Tryz.func27, Tryz.ntmps27
  go_wp2_with fail
  go_ret
  exact ⟨rfl, rfl⟩

set_option maxRecDepth 100000 in
set_option maxHeartbeats 2000000 in
theorem kindQualifiers (p : Option Addr) : KindOf (.iface 86 (.pointer p)) kQualifiers := by
  intro w
  have a0 : ∀ (a : Option Addr) (w : World), (Instr.typeAssert (.iface 86 (.pointer a)) 33 42 true).run Tryz.prog w = .ok (.tuple #[.pointer none, .bool false]) w := fun a w => by kernel_rfl
  have a1 : ∀ (a : Option Addr) (w : World), (Instr.typeAssert (.iface 86 (.pointer a)) 33 45 true).run Tryz.prog w = .ok (.tuple #[.pointer none, .bool false]) w := fun a w => by kernel_rfl
  have a2 : ∀ (a : Option Addr) (w : World), (Instr.typeAssert (.iface 86 (.pointer a)) 33 47 true).run Tryz.prog w = .ok (.tuple #[.pointer none, .bool false]) w := fun a w => by kernel_rfl
  have a3 : ∀ (a : Option Addr) (w : World), (Instr.typeAssert (.iface 86 (.pointer a)) 33 51 true).run Tryz.prog w = .ok (.tuple #[.pointer none, .bool false]) w := fun a w => by kernel_rfl
  have a4 : ∀ (a : Option Addr) (w : World), (Instr.typeAssert (.iface 86 (.pointer a)) 33 55 true).run Tryz.prog w = .ok (.tuple #[.pointer none, .bool false]) w := fun a w => by kernel_rfl
  have a5 : ∀ (a : Option Addr) (w : World), (Instr.typeAssert (.iface 86 (.pointer a)) 33 58 true).run Tryz.prog w = .ok (.tuple #[.pointer none, .bool false]) w := fun a w => by kernel_rfl
  have a6 : ∀ (a : Option Addr) (w : World), (Instr.typeAssert (.iface 86 (.pointer a)) 33 61 true).run Tryz.prog w = .ok (.tuple #[.pointer none, .bool false]) w := fun a w => by kernel_rfl
  have a7 : ∀ (a : Option Addr) (w : World), (Instr.typeAssert (.iface 86 (.pointer a)) 33 66 true).run Tryz.prog w = .ok (.tuple #[.pointer none, .bool false]) w := fun a w => by kernel_rfl
  have a8 : ∀ (a : Option Addr) (w : World), (Instr.typeAssert (.iface 86 (.pointer a)) 33 69 true).run Tryz.prog w = .ok (.tuple #[.pointer none, .bool false]) w := fun a w => by kernel_rfl
  have a9 : ∀ (a : Option Addr) (w : World), (Instr.typeAssert (.iface 86 (.pointer a)) 33 72 true).run Tryz.prog w = .ok (.tuple #[.pointer none, .bool false]) w := fun a w => by kernel_rfl
  have a10 : ∀ (a : Option Addr) (w : World), (Instr.typeAssert (.iface 86 (.pointer a)) 33 75 true).run Tryz.prog w = .ok (.tuple #[.pointer none, .bool false]) w := fun a w => by kernel_rfl
  have a11 : ∀ (a : Option Addr) (w : World), (Instr.typeAssert (.iface 86 (.pointer a)) 33 77 true).run Tryz.prog w = .ok (.tuple #[.pointer none, .bool false]) w := fun a w => by kernel_rfl
  have a12 : ∀ (a : Option Addr) (w : World), (Instr.typeAssert (.iface 86 (.pointer a)) 33 79 true).run Tryz.prog w = .ok (.tuple #[.pointer none, .bool false]) w := fun a w => by kernel_rfl
  have a13 : ∀ (a : Option Addr) (w : World), (Instr.typeAssert (.iface 86 (.pointer a)) 33 81 true).run Tryz.prog w = .ok (.tuple #[.pointer none, .bool false]) w := fun a w => by kernel_rfl
  have a14 : ∀ (a : Option Addr) (w : World), (Instr.typeAssert (.iface 86 (.pointer a)) 33 83 true).run Tryz.prog w = .ok (.tuple #[.pointer none, .bool false]) w := fun a w => by kernel_rfl
  have a15 : ∀ (a : Option Addr) (w : World), (Instr.typeAssert (.iface 86 (.pointer a)) 33 86 true).run Tryz.prog w = .ok (.tuple #[.pointer a, .bool true]) w := fun a w => by kernel_rfl
  go_enter Tryz.func27, Tryz.ntmps27
  go_wp2_with fail
  go_ret
  exact ⟨rfl, rfl⟩

set_option maxRecDepth 100000 in
set_option maxHeartbeats 2000000 in
theorem kindQualifier (p : Option Addr) : KindOf (.iface 89 (.pointer p)) kQualifier := by
  intro w
  have a0 : ∀ (a : Option Addr) (w : World), (Instr.typeAssert (.iface 89 (.pointer a)) 33 42 true).run Tryz.prog w = .ok (.tuple #[.pointer none, .bool false]) w := fun a w => by kernel_rfl
  have a1 : ∀ (a : Option Addr) (w : World), (Instr.typeAssert (.iface 89 (.pointer a)) 33 45 true).run Tryz.prog w = .ok (.tuple #[.pointer none, .bool false]) w := fun a w => by kernel_rfl
  have a2 : ∀ (a : Option Addr) (w : World), (Instr.typeAssert (.iface 89 (.pointer a)) 33 47 true).run Tryz.prog w = .ok (.tuple #[.pointer none, .bool false]) w := fun a w => by kernel_rfl
  have a3 : ∀ (a : Option Addr) (w : World), (Instr.typeAssert (.iface 89 (.pointer a)) 33 51 true).run Tryz.prog w = .ok (.tuple #[.pointer none, .bool false]) w := fun a w => by kernel_rfl
  have a4 : ∀ (a : Option Addr) (w : World), (Instr.typeAssert (.iface 89 (.pointer a)) 33 55 true).run Tryz.prog w = .ok (.tuple #[.pointer none, .bool false]) w := fun a w => by kernel_rfl
  have a5 : ∀ (a : Option Addr) (w : World), (Instr.typeAssert (.iface 89 (.pointer a)) 33 58 true).run Tryz.prog w = .ok (.tuple #[.pointer none, .bool false]) w := fun a w => by kernel_rfl
  have a6 : ∀ (a : Option Addr) (w : World), (Instr.typeAssert (.iface 89 (.pointer a)) 33 61 true).run Tryz.prog w = .ok (.tuple #[.pointer none, .bool false]) w := fun a w => by kernel_rfl
  have a7 : ∀ (a : Option Addr) (w : World), (Instr.typeAssert (.iface 89 (.pointer a)) 33 66 true).run Tryz.prog w = .ok (.tuple #[.pointer none, .bool false]) w := fun a w => by kernel_rfl
  have a8 : ∀ (a : Option Addr) (w : World), (Instr.typeAssert (.iface 89 (.pointer a)) 33 69 true).run Tryz.prog w = .ok (.tuple #[.pointer none, .bool false]) w := fun a w => by kernel_rfl
  have a9 : ∀ (a : Option Addr) (w : World), (Instr.typeAssert (.iface 89 (.pointer a)) 33 72 true).run Tryz.prog w = .ok (.tuple #[.pointer none, .bool false]) w := fun a w => by kernel_rfl
  have a10 : ∀ (a : Option Addr) (w : World), (Instr.typeAssert (.iface 89 (.pointer a)) 33 75 true).run Tryz.prog w = .ok (.tuple #[.pointer none, .bool false]) w := fun a w => by kernel_rfl
  have a11 : ∀ (a : Option Addr) (w : World), (Instr.typeAssert (.iface 89 (.pointer a)) 33 77 true).run Tryz.prog w = .ok (.tuple #[.pointer none, .bool false]) w := fun a w => by kernel_rfl
  have a12 : ∀ (a : Option Addr) (w : World), (Instr.typeAssert (.iface 89 (.pointer a)) 33 79 true).run Tryz.prog w = .ok (.tuple #[.pointer none, .bool false]) w := fun a w => by kernel_rfl
  have a13 : ∀ (a : Option Addr) (w : World), (Instr.typeAssert (.iface 89 (.pointer a)) 33 81 true).run Tryz.prog w = .ok (.tuple #[.pointer none, .bool false]) w := fun a w => by kernel_rfl
  have a14 : ∀ (a : Option Addr) (w : World), (Instr.typeAssert (.iface 89 (.pointer a)) 33 83 true).run Tryz.prog w = .ok (.tuple #[.pointer none, .bool false]) w := fun a w => by kernel_rfl
  have a15 : ∀ (a : Option Addr) (w : World), (Instr.typeAssert (.iface 89 (.pointer a)) 33 86 true).run Tryz.prog w = .ok (.tuple #[.pointer none, .bool false]) w := fun a w => by kernel_rfl
  have a16 : ∀ (a : Option Addr) (w : World), (Instr.typeAssert (.iface 89 (.pointer a)) 33 89 true).run Tryz.prog w = .ok (.tuple #[.pointer a, .bool true]) w := fun a w => by kernel_rfl
  go_enter Tryz.func27, Tryz.ntmps27
  go_wp2_with fail
  go_ret
  exact ⟨rfl, rfl⟩

set_option maxRecDepth 100000 in
set_option maxHeartbeats 2000000 in
theorem kindMethodWithQualifiers (p : Option Addr) : KindOf (.iface 92 (.pointer p)) kMethodWithQualifiers := by
  intro w
  have a0 : ∀ (a : Option Addr) (w : World), (Instr.typeAssert (.iface 92 (.pointer a)) 33 42 true).run Tryz.prog w = .ok (.tuple #[.pointer none, .bool false]) w := fun a w => by kernel_rfl
  have a1 : ∀ (a : Option Addr) (w : World), (Instr.typeAssert (.iface 92 (.pointer a)) 33 45 true).run Tryz.prog w = .ok (.tuple #[.pointer none, .bool false]) w := fun a w => by kernel_rfl
  have a2 : ∀ (a : Option Addr) (w : World), (Instr.typeAssert (.iface 92 (.pointer a)) 33 47 true).run Tryz.prog w = .ok (.tuple #[.pointer none, .bool false]) w := fun a w => by kernel_rfl
  have a3 : ∀ (a : Option Addr) (w : World), (Instr.typeAssert (.iface 92 (.pointer a)) 33 51 true).run Tryz.prog w = .ok (.tuple #[.pointer none, .bool false]) w := fun a w => by kernel_rfl
  have a4 : ∀ (a : Option Addr) (w : World), (Instr.typeAssert (.iface 92 (.pointer a)) 33 55 true).run Tryz.prog w = .ok (.tuple #[.pointer none, .bool false]) w := fun a w => by kernel_rfl
  have a5 : ∀ (a : Option Addr) (w : World), (Instr.typeAssert (.iface 92 (.pointer a)) 33 58 true).run Tryz.prog w = .ok (.tuple #[.pointer none, .bool false]) w := fun a w => by kernel_rfl
  have a6 : ∀ (a : Option Addr) (w : World), (Instr.typeAssert (.iface 92 (.pointer a)) 33 61 true).run Tryz.prog w = .ok (.tuple #[.pointer none, .bool false]) w := fun a w => by kernel_rfl
  have a7 : ∀ (a : Option Addr) (w : World), (Instr.typeAssert (.iface 92 (.pointer a)) 33 66 true).run Tryz.prog w = .ok (.tuple #[.pointer none, .bool false]) w := fun a w => by kernel_rfl
  have a8 : ∀ (a : Option Addr) (w : World), (Instr.typeAssert (.iface 92 (.pointer a)) 33 69 true).run Tryz.prog w = .ok (.tuple #[.pointer none, .bool false]) w := fun a w => by kernel_rfl
  have a9 : ∀ (a : Option Addr) (w : World), (Instr.typeAssert (.iface 92 (.pointer a)) 33 72 true).run Tryz.prog w = .ok (.tuple #[.pointer none, .bool false]) w := fun a w => by kernel_rfl
  have a10 : ∀ (a : Option Addr) (w : World), (Instr.typeAssert (.iface 92 (.pointer a)) 33 75 true).run Tryz.prog w = .ok (.tuple #[.pointer none, .bool false]) w := fun a w => by kernel_rfl
  have a11 : ∀ (a : Option Addr) (w : World), (Instr.typeAssert (.iface 92 (.pointer a)) 33 77 true).run Tryz.prog w = .ok (.tuple #[.pointer none, .bool false]) w := fun a w => by kernel_rfl
  have a12 : ∀ (a : Option Addr) (w : World), (Instr.typeAssert (.iface 92 (.pointer a)) 33 79 true).run Tryz.prog w = .ok (.tuple #[.pointer none, .bool false]) w := fun a w => by kernel_rfl
  have a13 : ∀ (a : Option Addr) (w : World), (Instr.typeAssert (.iface 92 (.pointer a)) 33 81 true).run Tryz.prog w = .ok (.tuple #[.pointer none, .bool false]) w := fun a w => by kernel_rfl
  have a14 : ∀ (a : Option Addr) (w : World), (Instr.typeAssert (.iface 92 (.pointer a)) 33 83 true).run Tryz.prog w = .ok (.tuple #[.pointer none, .bool false]) w := fun a w => by kernel_rfl
  have a15 : ∀ (a : Option Addr) (w : World), (Instr.typeAssert (.iface 92 (.pointer a)) 33 86 true).run Tryz.prog w = .ok (.tuple #[.pointer none, .bool false]) w := fun a w => by kernel_rfl
  have a16 : ∀ (a : Option Addr) (w : World), (Instr.typeAssert (.iface 92 (.pointer a)) 33 89 true).run Tryz.prog w = .ok (.tuple #[.pointer none, .bool false]) w := fun a w => by kernel_rfl
  have a17 : ∀ (a : Option Addr) (w : World), (Instr.typeAssert (.iface 92 (.pointer a)) 33 92 true).run Tryz.prog w = .ok (.tuple #[.pointer a, .bool true]) w := fun a w => by kernel_rfl
  go_enter Tryz.func27, Tryz.ntmps27
  go_wp2_with fail
  go_ret
  exact ⟨rfl, rfl⟩

set_option maxRecDepth 100000 in
set_option maxHeartbeats 2000000 in
theorem kindMoreArrayType (p : Option Addr) (w : World) : Calls Tryz.prog 45 #[.iface 96 (.pointer p)] w fun e w' => e = .returned (.string kArrayType) ∧ w = w' := by
  have a0 : ∀ (a : Option Addr) (w : World), (Instr.typeAssert (.iface 96 (.pointer a)) 33 96 true).run Tryz.prog w = .ok (.tuple #[.pointer a, .bool true]) w := fun a w => by kernel_rfl
  go_enter Tryz.func45, Tryz.ntmps45
  go_wp2_with fail
  go_ret
  exact ⟨rfl, rfl⟩

set_option maxRecDepth 100000 in
set_option maxHeartbeats 2000000 in
theorem kindArrayType (p : Option Addr) : KindOf (.iface 96 (.pointer p)) kArrayType := by
  intro w
  have a0 : ∀ (a : Option Addr) (w : World), (Instr.typeAssert (.iface 96 (.pointer a)) 33 42 true).run Tryz.prog w = .ok (.tuple #[.pointer none, .bool false]) w := fun a w => by kernel_rfl
  have a1 : ∀ (a : Option Addr) (w : World), (Instr.typeAssert (.iface 96 (.pointer a)) 33 45 true).run Tryz.prog w = .ok (.tuple #[.pointer none, .bool false]) w := fun a w => by kernel_rfl
  have a2 : ∀ (a : Option Addr) (w : World), (Instr.typeAssert (.iface 96 (.pointer a)) 33 47 true).run Tryz.prog w = .ok (.tuple #[.pointer none, .bool false]) w := fun a w => by kernel_rfl
  have a3 : ∀ (a : Option Addr) (w : World), (Instr.typeAssert (.iface 96 (.pointer a)) 33 51 true).run Tryz.prog w = .ok (.tuple #[.pointer none, .bool false]) w := fun a w => by kernel_rfl
  have a4 : ∀ (a : Option Addr) (w : World), (Instr.typeAssert (.iface 96 (.pointer a)) 33 55 true).run Tryz.prog w = .ok (.tuple #[.pointer none, .bool false]) w := fun a w => by kernel_rfl
  have a5 : ∀ (a : Option Addr) (w : World), (Instr.typeAssert (.iface 96 (.pointer a)) 33 58 true).run Tryz.prog w = .ok (.tuple #[.pointer none, .bool false]) w := fun a w => by kernel_rfl
  have a6 : ∀ (a : Option Addr) (w : World), (Instr.typeAssert (.iface 96 (.pointer a)) 33 61 true).run Tryz.prog w = .ok (.tuple #[.pointer none, .bool false]) w := fun a w => by kernel_rfl
  have a7 : ∀ (a : Option Addr) (w : World), (Instr.typeAssert (.iface 96 (.pointer a)) 33 66 true).run Tryz.prog w = .ok (.tuple #[.pointer none, .bool false]) w := fun a w => by kernel_rfl
  have a8 : ∀ (a : Option Addr) (w : World), (Instr.typeAssert (.iface 96 (.pointer a)) 33 69 true).run Tryz.prog w = .ok (.tuple #[.pointer none, .bool false]) w := fun a w => by kernel_rfl
  have a9 : ∀ (a : Option Addr) (w : World), (Instr.typeAssert (.iface 96 (.pointer a)) 33 72 true).run Tryz.prog w = .ok (.tuple #[.pointer none, .bool false]) w := fun a w => by kernel_rfl
  have a10 : ∀ (a : Option Addr) (w : World), (Instr.typeAssert (.iface 96 (.pointer a)) 33 75 true).run Tryz.prog w = .ok (.tuple #[.pointer none, .bool false]) w := fun a w => by kernel_rfl
  have a11 : ∀ (a : Option Addr) (w : World), (Instr.typeAssert (.iface 96 (.pointer a)) 33 77 true).run Tryz.prog w = .ok (.tuple #[.pointer none, .bool false]) w := fun a w => by kernel_rfl
  have a12 : ∀ (a : Option Addr) (w : World), (Instr.typeAssert (.iface 96 (.pointer a)) 33 79 true).run Tryz.prog w = .ok (.tuple #[.pointer none, .bool false]) w := fun a w => by kernel_rfl
  have a13 : ∀ (a : Option Addr) (w : World), (Instr.typeAssert (.iface 96 (.pointer a)) 33 81 true).run Tryz.prog w = .ok (.tuple #[.pointer none, .bool false]) w := fun a w => by kernel_rfl
  have a14 : ∀ (a : Option Addr) (w : World), (Instr.typeAssert (.iface 96 (.pointer a)) 33 83 true).run Tryz.prog w = .ok (.tuple #[.pointer none, .bool false]) w := fun a w => by kernel_rfl
  have a15 : ∀ (a : Option Addr) (w : World), (Instr.typeAssert (.iface 96 (.pointer a)) 33 86 true).run Tryz.prog w = .ok (.tuple #[.pointer none, .bool false]) w := fun a w => by kernel_rfl
  have a16 : ∀ (a : Option Addr) (w : World), (Instr.typeAssert (.iface 96 (.pointer a)) 33 89 true).run Tryz.prog w = .ok (.tuple #[.pointer none, .bool false]) w := fun a w => by kernel_rfl
  have a17 : ∀ (a : Option Addr) (w : World), (Instr.typeAssert (.iface 96 (.pointer a)) 33 92 true).run Tryz.prog w = .ok (.tuple #[.pointer none, .bool false]) w := fun a w => by kernel_rfl
  go_enter Tryz.func27, Tryz.ntmps27
  go_wp2_with fail
  refine (kindMoreArrayType p _).mono ?_
  rintro e w' ⟨rfl, rfl⟩
  go_wp2_with fail
  go_ret
  exact ⟨rfl, rfl⟩

set_option maxRecDepth 100000 in
set_option maxHeartbeats 2000000 in
theorem kindMoreVectorType (p : Option Addr) (w : World) : Calls Tryz.prog 45 #[.iface 99 (.pointer p)] w fun e w' => e = .returned (.string kVectorType) ∧ w = w' := by
  have a0 : ∀ (a : Option Addr) (w : World), (Instr.typeAssert (.iface 99 (.pointer a)) 33 96 true).run Tryz.prog w = .ok (.tuple #[.pointer none, .bool false]) w := fun a w => by kernel_rfl
  have a1 : ∀ (a : Option Addr) (w : World), (Instr.typeAssert (.iface 99 (.pointer a)) 33 99 true).run Tryz.prog w = .ok (.tuple #[.pointer a, .bool true]) w := fun a w => by kernel_rfl
  go_enter Tryz.func45, Tryz.ntmps45
  go_wp2_with fail
  go_ret
  exact ⟨rfl, rfl⟩

set_option maxRecDepth 100000 in
set_option maxHeartbeats 2000000 in
theorem kindVectorType (p : Option Addr) : KindOf (.iface 99 (.pointer p)) kVectorType := by
  intro w
  have a0 : ∀ (a : Option Addr) (w : World), (Instr.typeAssert (.iface 99 (.pointer a)) 33 42 true).run Tryz.prog w = .ok (.tuple #[.pointer none, .bool false]) w := fun a w => by kernel_rfl
  have a1 : ∀ (a : Option Addr) (w : World), (Instr.typeAssert (.iface 99 (.pointer a)) 33 45 true).run Tryz.prog w = .ok (.tuple #[.pointer none, .bool false]) w := fun a w => by kernel_rfl
  have a2 : ∀ (a : Option Addr) (w : World), (Instr.typeAssert (.iface 99 (.pointer a)) 33 47 true).run Tryz.prog w = .ok (.tuple #[.pointer none, .bool false]) w := fun a w => by kernel_rfl
  have a3 : ∀ (a : Option Addr) (w : World), (Instr.typeAssert (.iface 99 (.pointer a)) 33 51 true).run Tryz.prog w = .ok (.tuple #[.pointer none, .bool false]) w := fun a w => by kernel_rfl
  have a4 : ∀ (a : Option Addr) (w : World), (Instr.typeAssert (.iface 99 (.pointer a)) 33 55 true).run Tryz.prog w = .ok (.tuple #[.pointer none, .bool false]) w := fun a w => by kernel_rfl
  have a5 : ∀ (a : Option Addr) (w : World), (Instr.typeAssert (.iface 99 (.pointer a)) 33 58 true).run Tryz.prog w = .ok (.tuple #[.pointer none, .bool false]) w := fun a w => by kernel_rfl
  have a6 : ∀ (a : Option Addr) (w : World), (Instr.typeAssert (.iface 99 (.pointer a)) 33 61 true).run Tryz.prog w = .ok (.tuple #[.pointer none, .bool false]) w := fun a w => by kernel_rfl
  have a7 : ∀ (a : Option Addr) (w : World), (Instr.typeAssert (.iface 99 (.pointer a)) 33 66 true).run Tryz.prog w = .ok (.tuple #[.pointer none, .bool false]) w := fun a w => by kernel_rfl
  have a8 : ∀ (a : Option Addr) (w : World), (Instr.typeAssert (.iface 99 (.pointer a)) 33 69 true).run Tryz.prog w = .ok (.tuple #[.pointer none, .bool false]) w := fun a w => by kernel_rfl
  have a9 : ∀ (a : Option Addr) (w : World), (Instr.typeAssert (.iface 99 (.pointer a)) 33 72 true).run Tryz.prog w = .ok (.tuple #[.pointer none, .bool false]) w := fun a w => by kernel_rfl
  have a10 : ∀ (a : Option Addr) (w : World), (Instr.typeAssert (.iface 99 (.pointer a)) 33 75 true).run Tryz.prog w = .ok (.tuple #[.pointer none, .bool false]) w := fun a w => by kernel_rfl
  have a11 : ∀ (a : Option Addr) (w : World), (Instr.typeAssert (.iface 99 (.pointer a)) 33 77 true).run Tryz.prog w = .ok (.tuple #[.pointer none, .bool false]) w := fun a w => by kernel_rfl
  have a12 : ∀ (a : Option Addr) (w : World), (Instr.typeAssert (.iface 99 (.pointer a)) 33 79 true).run Tryz.prog w = .ok (.tuple #[.pointer none, .bool false]) w := fun a w => by kernel_rfl
  have a13 : ∀ (a : Option Addr) (w : World), (Instr.typeAssert (.iface 99 (.pointer a)) 33 81 true).run Tryz.prog w = .ok (.tuple #[.pointer none, .bool false]) w := fun a w => by kernel_rfl
  have a14 : ∀ (a : Option Addr) (w : World), (Instr.typeAssert (.iface 99 (.pointer a)) 33 83 true).run Tryz.prog w = .ok (.tuple #[.pointer none, .bool false]) w := fun a w => by kernel_rfl
  have a15 : ∀ (a : Option Addr) (w : World), (Instr.typeAssert (.iface 99 (.pointer a)) 33 86 true).run Tryz.prog w = .ok (.tuple #[.pointer none, .bool false]) w := fun a w => by kernel_rfl
  have a16 : ∀ (a : Option Addr) (w : World), (Instr.typeAssert (.iface 99 (.pointer a)) 33 89 true).run Tryz.prog w = .ok (.tuple #[.pointer none, .bool false]) w := fun a w => by kernel_rfl
  have a17 : ∀ (a : Option Addr) (w : World), (Instr.typeAssert (.iface 99 (.pointer a)) 33 92 true).run Tryz.prog w = .ok (.tuple #[.pointer none, .bool false]) w := fun a w => by kernel_rfl
  go_enter Tryz.func27, Tryz.ntmps27
  go_wp2_with fail
  refine (kindMoreVectorType p _).mono ?_
  rintro e w' ⟨rfl, rfl⟩
  go_wp2_with fail
  go_ret
  exact ⟨rfl, rfl⟩

set_option maxRecDepth 100000 in
set_option maxHeartbeats 2000000 in
theorem kindMorePtrMem (p : Option Addr) (w : World) : Calls Tryz.prog 45 #[.iface 102 (.pointer p)] w fun e w' => e = .returned (.string kPtrMem) ∧ w = w' := by
  have a0 : ∀ (a : Option Addr) (w : World), (Instr.typeAssert (.iface 102 (.pointer a)) 33 96 true).run Tryz.prog w = .ok (.tuple #[.pointer none, .bool false]) w := fun a w => by kernel_rfl
  have a1 : ∀ (a : Option Addr) (w : World), (Instr.typeAssert (.iface 102 (.pointer a)) 33 99 true).run Tryz.prog w = .ok (.tuple #[.pointer none, .bool false]) w := fun a w => by kernel_rfl
  have a2 : ∀ (a : Option Addr) (w : World), (Instr.typeAssert (.iface 102 (.pointer a)) 33 102 true).run Tryz.prog w = .ok (.tuple #[.pointer a, .bool true]) w := fun a w => by kernel_rfl
  go_enter Tryz.func45, Tryz.ntmps45
  go_wp2_with fail
  go_ret
  exact ⟨rfl, rfl⟩

set_option maxRecDepth 100000 in
set_option maxHeartbeats 2000000 in
theorem kindPtrMem (p : Option Addr) : KindOf (.iface 102 (.pointer p)) kPtrMem := by
  intro w
  have a0 : ∀ (a : Option Addr) (w : World), (Instr.typeAssert (.iface 102 (.pointer a)) 33 42 true).run Tryz.prog w = .ok (.tuple #[.pointer none, .bool false]) w := fun a w => by kernel_rfl
  have a1 : ∀ (a : Option Addr) (w : World), (Instr.typeAssert (.iface 102 (.pointer a)) 33 45 true).run Tryz.prog w = .ok (.tuple #[.pointer none, .bool false]) w := fun a w => by kernel_rfl
  have a2 : ∀ (a : Option Addr) (w : World), (Instr.typeAssert (.iface 102 (.pointer a)) 33 47 true).run Tryz.prog w = .ok (.tuple #[.pointer none, .bool false]) w := fun a w => by kernel_rfl
  have a3 : ∀ (a : Option Addr) (w : World), (Instr.typeAssert (.iface 102 (.pointer a)) 33 51 true).run Tryz.prog w = .ok (.tuple #[.pointer none, .bool false]) w := fun a w => by kernel_rfl
  have a4 : ∀ (a : Option Addr) (w : World), (Instr.typeAssert (.iface 102 (.pointer a)) 33 55 true).run Tryz.prog w = .ok (.tuple #[.pointer none, .bool false]) w := fun a w => by kernel_rfl
  have a5 : ∀ (a : Option Addr) (w : World), (Instr.typeAssert (.iface 102 (.pointer a)) 33 58 true).run Tryz.prog w = .ok (.tuple #[.pointer none, .bool false]) w := fun a w => by kernel_rfl
  have a6 : ∀ (a : Option Addr) (w : World), (Instr.typeAssert (.iface 102 (.pointer a)) 33 61 true).run Tryz.prog w = .ok (.tuple #[.pointer none, .bool false]) w := fun a w => by kernel_rfl
  have a7 : ∀ (a : Option Addr) (w : World), (Instr.typeAssert (.iface 102 (.pointer a)) 33 66 true).run Tryz.prog w = .ok (.tuple #[.pointer none, .bool false]) w := fun a w => by kernel_rfl
  have a8 : ∀ (a : Option Addr) (w : World), (Instr.typeAssert (.iface 102 (.pointer a)) 33 69 true).run Tryz.prog w = .ok (.tuple #[.pointer none, .bool false]) w := fun a w => by kernel_rfl
  have a9 : ∀ (a : Option Addr) (w : World), (Instr.typeAssert (.iface 102 (.pointer a)) 33 72 true).run Tryz.prog w = .ok (.tuple #[.pointer none, .bool false]) w := fun a w => by kernel_rfl
  have a10 : ∀ (a : Option Addr) (w : World), (Instr.typeAssert (.iface 102 (.pointer a)) 33 75 true).run Tryz.prog w = .ok (.tuple #[.pointer none, .bool false]) w := fun a w => by kernel_rfl
  have a11 : ∀ (a : Option Addr) (w : World), (Instr.typeAssert (.iface 102 (.pointer a)) 33 77 true).run Tryz.prog w = .ok (.tuple #[.pointer none, .bool false]) w := fun a w => by kernel_rfl
  have a12 : ∀ (a : Option Addr) (w : World), (Instr.typeAssert (.iface 102 (.pointer a)) 33 79 true).run Tryz.prog w = .ok (.tuple #[.pointer none, .bool false]) w := fun a w => by kernel_rfl
  have a13 : ∀ (a : Option Addr) (w : World), (Instr.typeAssert (.iface 102 (.pointer a)) 33 81 true).run Tryz.prog w = .ok (.tuple #[.pointer none, .bool false]) w := fun a w => by kernel_rfl
  have a14 : ∀ (a : Option Addr) (w : World), (Instr.typeAssert (.iface 102 (.pointer a)) 33 83 true).run Tryz.prog w = .ok (.tuple #[.pointer none, .bool false]) w := fun a w => by kernel_rfl
  have a15 : ∀ (a : Option Addr) (w : World), (Instr.typeAssert (.iface 102 (.pointer a)) 33 86 true).run Tryz.prog w = .ok (.tuple #[.pointer none, .bool false]) w := fun a w => by kernel_rfl
  have a16 : ∀ (a : Option Addr) (w : World), (Instr.typeAssert (.iface 102 (.pointer a)) 33 89 true).run Tryz.prog w = .ok (.tuple #[.pointer none, .bool false]) w := fun a w => by kernel_rfl
  have a17 : ∀ (a : Option Addr) (w : World), (Instr.typeAssert (.iface 102 (.pointer a)) 33 92 true).run Tryz.prog w = .ok (.tuple #[.pointer none, .bool false]) w := fun a w => by kernel_rfl
  go_enter Tryz.func27, Tryz.ntmps27
  go_wp2_with fail
  refine (kindMorePtrMem p _).mono ?_
  rintro e w' ⟨rfl, rfl⟩
  go_wp2_with fail
  go_ret
  exact ⟨rfl, rfl⟩

set_option maxRecDepth 100000 in
set_option maxHeartbeats 2000000 in
theorem kindMoreVendorQualifier (p : Option Addr) (w : World) : Calls Tryz.prog 45 #[.iface 105 (.pointer p)] w fun e w' => e = .returned (.string kVendorQualifier) ∧ w = w' := by
  have a0 : ∀ (a : Option Addr) (w : World), (Instr.typeAssert (.iface 105 (.pointer a)) 33 96 true).run Tryz.prog w = .ok (.tuple #[.pointer none, .bool false]) w := fun a w => by kernel_rfl
  have a1 : ∀ (a : Option Addr) (w : World), (Instr.typeAssert (.iface 105 (.pointer a)) 33 99 true).run Tryz.prog w = .ok (.tuple #[.pointer none, .bool false]) w := fun a w => by kernel_rfl
  have a2 : ∀ (a : Option Addr) (w : World), (Instr.typeAssert (.iface 105 (.pointer a)) 33 102 true).run Tryz.prog w = .ok (.tuple #[.pointer none, .bool false]) w := fun a w => by kernel_rfl
  have a3 : ∀ (a : Option Addr) (w : World), (Instr.typeAssert (.iface 105 (.pointer a)) 33 105 true).run Tryz.prog w = .ok (.tuple #[.pointer a, .bool true]) w := fun a w => by kernel_rfl
  go_enter Tryz.func45, Tryz.ntmps45
  go_wp2_with fail
  go_ret
  exact ⟨rfl, rfl⟩

set_option maxRecDepth 100000 in
set_option maxHeartbeats 2000000 in
theorem kindVendorQualifier (p : Option Addr) : KindOf (.iface 105 (.pointer p)) kVendorQualifier := by
  intro w
  have a0 : ∀ (a : Option Addr) (w : World), (Instr.typeAssert (.iface 105 (.pointer a)) 33 42 true).run Tryz.prog w = .ok (.tuple #[.pointer none, .bool false]) w := fun a w => by kernel_rfl
  have a1 : ∀ (a : Option Addr) (w : World), (Instr.typeAssert (.iface 105 (.pointer a)) 33 45 true).run Tryz.prog w = .ok (.tuple #[.pointer none, .bool false]) w := fun a w => by kernel_rfl
  have a2 : ∀ (a : Option Addr) (w : World), (Instr.typeAssert (.iface 105 (.pointer a)) 33 47 true).run Tryz.prog w = .ok (.tuple #[.pointer none, .bool false]) w := fun a w => by kernel_rfl
  have a3 : ∀ (a : Option Addr) (w : World), (Instr.typeAssert (.iface 105 (.pointer a)) 33 51 true).run Tryz.prog w = .ok (.tuple #[.pointer none, .bool false]) w := fun a w => by kernel_rfl
  have a4 : ∀ (a : Option Addr) (w : World), (Instr.typeAssert (.iface 105 (.pointer a)) 33 55 true).run Tryz.prog w = .ok (.tuple #[.pointer none, .bool false]) w := fun a w => by kernel_rfl
  have a5 : ∀ (a : Option Addr) (w : World), (Instr.typeAssert (.iface 105 (.pointer a)) 33 58 true).run Tryz.prog w = .ok (.tuple #[.pointer none, .bool false]) w := fun a w => by kernel_rfl
  have a6 : ∀ (a : Option Addr) (w : World), (Instr.typeAssert (.iface 105 (.pointer a)) 33 61 true).run Tryz.prog w = .ok (.tuple #[.pointer none, .bool false]) w := fun a w => by kernel_rfl
  have a7 : ∀ (a : Option Addr) (w : World), (Instr.typeAssert (.iface 105 (.pointer a)) 33 66 true).run Tryz.prog w = .ok (.tuple #[.pointer none, .bool false]) w := fun a w => by kernel_rfl
  have a8 : ∀ (a : Option Addr) (w : World), (Instr.typeAssert (.iface 105 (.pointer a)) 33 69 true).run Tryz.prog w = .ok (.tuple #[.pointer none, .bool false]) w := fun a w => by kernel_rfl
  have a9 : ∀ (a : Option Addr) (w : World), (Instr.typeAssert (.iface 105 (.pointer a)) 33 72 true).run Tryz.prog w = .ok (.tuple #[.pointer none, .bool false]) w := fun a w => by kernel_rfl
  have a10 : ∀ (a : Option Addr) (w : World), (Instr.typeAssert (.iface 105 (.pointer a)) 33 75 true).run Tryz.prog w = .ok (.tuple #[.pointer none, .bool false]) w := fun a w => by kernel_rfl
  have a11 : ∀ (a : Option Addr) (w : World), (Instr.typeAssert (.iface 105 (.pointer a)) 33 77 true).run Tryz.prog w = .ok (.tuple #[.pointer none, .bool false]) w := fun a w => by kernel_rfl
  have a12 : ∀ (a : Option Addr) (w : World), (Instr.typeAssert (.iface 105 (.pointer a)) 33 79 true).run Tryz.prog w = .ok (.tuple #[.pointer none, .bool false]) w := fun a w => by kernel_rfl
  have a13 : ∀ (a : Option Addr) (w : World), (Instr.typeAssert (.iface 105 (.pointer a)) 33 81 true).run Tryz.prog w = .ok (.tuple #[.pointer none, .bool false]) w := fun a w => by kernel_rfl
  have a14 : ∀ (a : Option Addr) (w : World), (Instr.typeAssert (.iface 105 (.pointer a)) 33 83 true).run Tryz.prog w = .ok (.tuple #[.pointer none, .bool false]) w := fun a w => by kernel_rfl
  have a15 : ∀ (a : Option Addr) (w : World), (Instr.typeAssert (.iface 105 (.pointer a)) 33 86 true).run Tryz.prog w = .ok (.tuple #[.pointer none, .bool false]) w := fun a w => by kernel_rfl
  have a16 : ∀ (a : Option Addr) (w : World), (Instr.typeAssert (.iface 105 (.pointer a)) 33 89 true).run Tryz.prog w = .ok (.tuple #[.pointer none, .bool false]) w := fun a w => by kernel_rfl
  have a17 : ∀ (a : Option Addr) (w : World), (Instr.typeAssert (.iface 105 (.pointer a)) 33 92 true).run Tryz.prog w = .ok (.tuple #[.pointer none, .bool false]) w := fun a w => by kernel_rfl
  go_enter Tryz.func27, Tryz.ntmps27
  go_wp2_with fail
  refine (kindMoreVendorQualifier p _).mono ?_
  rintro e w' ⟨rfl, rfl⟩
  go_wp2_with fail
  go_ret
  exact ⟨rfl, rfl⟩

set_option maxRecDepth 100000 in
set_option maxHeartbeats 2000000 in
theorem kindMoreLiteral (p : Option Addr) (w : World) : Calls Tryz.prog 45 #[.iface 114 (.pointer p)] w fun e w' => e = .returned (.string kLiteral) ∧ w = w' := by
  have a0 : ∀ (a : Option Addr) (w : World), (Instr.typeAssert (.iface 114 (.pointer a)) 33 96 true).run Tryz.prog w = .ok (.tuple #[.pointer none, .bool false]) w := fun a w => by kernel_rfl
  have a1 : ∀ (a : Option Addr) (w : World), (Instr.typeAssert (.iface 114 (.pointer a)) 33 99 true).run Tryz.prog w = .ok (.tuple #[.pointer none, .bool false]) w := fun a w => by kernel_rfl
  have a2 : ∀ (a : Option Addr) (w : World), (Instr.typeAssert (.iface 114 (.pointer a)) 33 102 true).run Tryz.prog w = .ok (.tuple #[.pointer none, .bool false]) w := fun a w => by kernel_rfl
  have a3 : ∀ (a : Option Addr) (w : World), (Instr.typeAssert (.iface 114 (.pointer a)) 33 105 true).run Tryz.prog w = .ok (.tuple #[.pointer none, .bool false]) w := fun a w => by kernel_rfl
  have a4 : ∀ (a : Option Addr) (w : World), (Instr.typeAssert (.iface 114 (.pointer a)) 33 108 true).run Tryz.prog w = .ok (.tuple #[.pointer none, .bool false]) w := fun a w => by kernel_rfl
  have a5 : ∀ (a : Option Addr) (w : World), (Instr.typeAssert (.iface 114 (.pointer a)) 33 111 true).run Tryz.prog w = .ok (.tuple #[.pointer none, .bool false]) w := fun a w => by kernel_rfl
  have a6 : ∀ (a : Option Addr) (w : World), (Instr.typeAssert (.iface 114 (.pointer a)) 33 114 true).run Tryz.prog w = .ok (.tuple #[.pointer a, .bool true]) w := fun a w => by kernel_rfl
  go_enter Tryz.func45, Tryz.ntmps45
  go_wp2_with fail
  go_ret
  exact ⟨rfl, rfl⟩

set_option maxRecDepth 100000 in
set_option maxHeartbeats 2000000 in
theorem kindLiteral (p : Option Addr) : KindOf (.iface 114 (.pointer p)) kLiteral := by
  intro w
  have a0 : ∀ (a : Option Addr) (w : World), (Instr.typeAssert (.iface 114 (.pointer a)) 33 42 true).run Tryz.prog w = .ok (.tuple #[.pointer none, .bool false]) w := fun a w => by kernel_rfl
  have a1 : ∀ (a : Option Addr) (w : World), (Instr.typeAssert (.iface 114 (.pointer a)) 33 45 true).run Tryz.prog w = .ok (.tuple #[.pointer none, .bool false]) w := fun a w => by kernel_rfl
  have a2 : ∀ (a : Option Addr) (w : World), (Instr.typeAssert (.iface 114 (.pointer a)) 33 47 true).run Tryz.prog w = .ok (.tuple #[.pointer none, .bool false]) w := fun a w => by kernel_rfl
  have a3 : ∀ (a : Option Addr) (w : World), (Instr.typeAssert (.iface 114 (.pointer a)) 33 51 true).run Tryz.prog w = .ok (.tuple #[.pointer none, .bool false]) w := fun a w => by kernel_rfl
  have a4 : ∀ (a : Option Addr) (w : World), (Instr.typeAssert (.iface 114 (.pointer a)) 33 55 true).run Tryz.prog w = .ok (.tuple #[.pointer none, .bool false]) w := fun a w => by kernel_rfl
  have a5 : ∀ (a : Option Addr) (w : World), (Instr.typeAssert (.iface 114 (.pointer a)) 33 58 true).run Tryz.prog w = .ok (.tuple #[.pointer none, .bool false]) w := fun a w => by kernel_rfl
  have a6 : ∀ (a : Option Addr) (w : World), (Instr.typeAssert (.iface 114 (.pointer a)) 33 61 true).run Tryz.prog w = .ok (.tuple #[.pointer none, .bool false]) w := fun a w => by kernel_rfl
  have a7 : ∀ (a : Option Addr) (w : World), (Instr.typeAssert (.iface 114 (.pointer a)) 33 66 true).run Tryz.prog w = .ok (.tuple #[.pointer none, .bool false]) w := fun a w => by kernel_rfl
  have a8 : ∀ (a : Option Addr) (w : World), (Instr.typeAssert (.iface 114 (.pointer a)) 33 69 true).run Tryz.prog w = .ok (.tuple #[.pointer none, .bool false]) w := fun a w => by kernel_rfl
  have a9 : ∀ (a : Option Addr) (w : World), (Instr.typeAssert (.iface 114 (.pointer a)) 33 72 true).run Tryz.prog w = .ok (.tuple #[.pointer none, .bool false]) w := fun a w => by kernel_rfl
  have a10 : ∀ (a : Option Addr) (w : World), (Instr.typeAssert (.iface 114 (.pointer a)) 33 75 true).run Tryz.prog w = .ok (.tuple #[.pointer none, .bool false]) w := fun a w => by kernel_rfl
  have a11 : ∀ (a : Option Addr) (w : World), (Instr.typeAssert (.iface 114 (.pointer a)) 33 77 true).run Tryz.prog w = .ok (.tuple #[.pointer none, .bool false]) w := fun a w => by kernel_rfl
  have a12 : ∀ (a : Option Addr) (w : World), (Instr.typeAssert (.iface 114 (.pointer a)) 33 79 true).run Tryz.prog w = .ok (.tuple #[.pointer none, .bool false]) w := fun a w => by kernel_rfl
  have a13 : ∀ (a : Option Addr) (w : World), (Instr.typeAssert (.iface 114 (.pointer a)) 33 81 true).run Tryz.prog w = .ok (.tuple #[.pointer none, .bool false]) w := fun a w => by kernel_rfl
  have a14 : ∀ (a : Option Addr) (w : World), (Instr.typeAssert (.iface 114 (.pointer a)) 33 83 true).run Tryz.prog w = .ok (.tuple #[.pointer none, .bool false]) w := fun a w => by kernel_rfl
  have a15 : ∀ (a : Option Addr) (w : World), (Instr.typeAssert (.iface 114 (.pointer a)) 33 86 true).run Tryz.prog w = .ok (.tuple #[.pointer none, .bool false]) w := fun a w => by kernel_rfl
  have a16 : ∀ (a : Option Addr) (w : World), (Instr.typeAssert (.iface 114 (.pointer a)) 33 89 true).run Tryz.prog w = .ok (.tuple #[.pointer none, .bool false]) w := fun a w => by kernel_rfl
  have a17 : ∀ (a : Option Addr) (w : World), (Instr.typeAssert (.iface 114 (.pointer a)) 33 92 true).run Tryz.prog w = .ok (.tuple #[.pointer none, .bool false]) w := fun a w => by kernel_rfl
  go_enter Tryz.func27, Tryz.ntmps27
  go_wp2_with fail
  refine (kindMoreLiteral p _).mono ?_
  rintro e w' ⟨rfl, rfl⟩
  go_wp2_with fail
  go_ret
  exact ⟨rfl, rfl⟩

set_option maxRecDepth 100000 in
set_option maxHeartbeats 2000000 in
theorem kindMoreArgumentPack (p : Option Addr) (w : World) : Calls Tryz.prog 45 #[.iface 117 (.pointer p)] w fun e w' => e = .returned (.string kArgumentPack) ∧ w = w' := by
  have a0 : ∀ (a : Option Addr) (w : World), (Instr.typeAssert (.iface 117 (.pointer a)) 33 96 true).run Tryz.prog w = .ok (.tuple #[.pointer none, .bool false]) w := fun a w => by kernel_rfl
  have a1 : ∀ (a : Option Addr) (w : World), (Instr.typeAssert (.iface 117 (.pointer a)) 33 99 true).run Tryz.prog w = .ok (.tuple #[.pointer none, .bool false]) w := fun a w => by kernel_rfl
  have a2 : ∀ (a : Option Addr) (w : World), (Instr.typeAssert (.iface 117 (.pointer a)) 33 102 true).run Tryz.prog w = .ok (.tuple #[.pointer none, .bool false]) w := fun a w => by kernel_rfl
  have a3 : ∀ (a : Option Addr) (w : World), (Instr.typeAssert (.iface 117 (.pointer a)) 33 105 true).run Tryz.prog w = .ok (.tuple #[.pointer none, .bool false]) w := fun a w => by kernel_rfl
  have a4 : ∀ (a : Option Addr) (w : World), (Instr.typeAssert (.iface 117 (.pointer a)) 33 108 true).run Tryz.prog w = .ok (.tuple #[.pointer none, .bool false]) w := fun a w => by kernel_rfl
  have a5 : ∀ (a : Option Addr) (w : World), (Instr.typeAssert (.iface 117 (.pointer a)) 33 111 true).run Tryz.prog w = .ok (.tuple #[.pointer none, .bool false]) w := fun a w => by kernel_rfl
  have a6 : ∀ (a : Option Addr) (w : World), (Instr.typeAssert (.iface 117 (.pointer a)) 33 114 true).run Tryz.prog w = .ok (.tuple #[.pointer none, .bool false]) w := fun a w => by kernel_rfl
  have a7 : ∀ (a : Option Addr) (w : World), (Instr.typeAssert (.iface 117 (.pointer a)) 33 117 true).run Tryz.prog w = .ok (.tuple #[.pointer a, .bool true]) w := fun a w => by kernel_rfl
  go_enter Tryz.func45, Tryz.ntmps45
  go_wp2_with fail
  go_ret
  exact ⟨rfl, rfl⟩

set_option maxRecDepth 100000 in
set_option maxHeartbeats 2000000 in
theorem kindArgumentPack (p : Option Addr) : KindOf (.iface 117 (.pointer p)) kArgumentPack := by
  intro w
  have a0 : ∀ (a : Option Addr) (w : World), (Instr.typeAssert (.iface 117 (.pointer a)) 33 42 true).run Tryz.prog w = .ok (.tuple #[.pointer none, .bool false]) w := fun a w => by kernel_rfl
  have a1 : ∀ (a : Option Addr) (w : World), (Instr.typeAssert (.iface 117 (.pointer a)) 33 45 true).run Tryz.prog w = .ok (.tuple #[.pointer none, .bool false]) w := fun a w => by kernel_rfl
  have a2 : ∀ (a : Option Addr) (w : World), (Instr.typeAssert (.iface 117 (.pointer a)) 33 47 true).run Tryz.prog w = .ok (.tuple #[.pointer none, .bool false]) w := fun a w => by kernel_rfl
  have a3 : ∀ (a : Option Addr) (w : World), (Instr.typeAssert (.iface 117 (.pointer a)) 33 51 true).run Tryz.prog w = .ok (.tuple #[.pointer none, .bool false]) w := fun a w => by kernel_rfl
  have a4 : ∀ (a : Option Addr) (w : World), (Instr.typeAssert (.iface 117 (.pointer a)) 33 55 true).run Tryz.prog w = .ok (.tuple #[.pointer none, .bool false]) w := fun a w => by kernel_rfl
  have a5 : ∀ (a : Option Addr) (w : World), (Instr.typeAssert (.iface 117 (.pointer a)) 33 58 true).run Tryz.prog w = .ok (.tuple #[.pointer none, .bool false]) w := fun a w => by kernel_rfl
  have a6 : ∀ (a : Option Addr) (w : World), (Instr.typeAssert (.iface 117 (.pointer a)) 33 61 true).run Tryz.prog w = .ok (.tuple #[.pointer none, .bool false]) w := fun a w => by kernel_rfl
  have a7 : ∀ (a : Option Addr) (w : World), (Instr.typeAssert (.iface 117 (.pointer a)) 33 66 true).run Tryz.prog w = .ok (.tuple #[.pointer none, .bool false]) w := fun a w => by kernel_rfl
  have a8 : ∀ (a : Option Addr) (w : World), (Instr.typeAssert (.iface 117 (.pointer a)) 33 69 true).run Tryz.prog w = .ok (.tuple #[.pointer none, .bool false]) w := fun a w => by kernel_rfl
  have a9 : ∀ (a : Option Addr) (w : World), (Instr.typeAssert (.iface 117 (.pointer a)) 33 72 true).run Tryz.prog w = .ok (.tuple #[.pointer none, .bool false]) w := fun a w => by kernel_rfl
  have a10 : ∀ (a : Option Addr) (w : World), (Instr.typeAssert (.iface 117 (.pointer a)) 33 75 true).run Tryz.prog w = .ok (.tuple #[.pointer none, .bool false]) w := fun a w => by kernel_rfl
  have a11 : ∀ (a : Option Addr) (w : World), (Instr.typeAssert (.iface 117 (.pointer a)) 33 77 true).run Tryz.prog w = .ok (.tuple #[.pointer none, .bool false]) w := fun a w => by kernel_rfl
  have a12 : ∀ (a : Option Addr) (w : World), (Instr.typeAssert (.iface 117 (.pointer a)) 33 79 true).run Tryz.prog w = .ok (.tuple #[.pointer none, .bool false]) w := fun a w => by kernel_rfl
  have a13 : ∀ (a : Option Addr) (w : World), (Instr.typeAssert (.iface 117 (.pointer a)) 33 81 true).run Tryz.prog w = .ok (.tuple #[.pointer none, .bool false]) w := fun a w => by kernel_rfl
  have a14 : ∀ (a : Option Addr) (w : World), (Instr.typeAssert (.iface 117 (.pointer a)) 33 83 true).run Tryz.prog w = .ok (.tuple #[.pointer none, .bool false]) w := fun a w => by kernel_rfl
  have a15 : ∀ (a : Option Addr) (w : World), (Instr.typeAssert (.iface 117 (.pointer a)) 33 86 true).run Tryz.prog w = .ok (.tuple #[.pointer none, .bool false]) w := fun a w => by kernel_rfl
  have a16 : ∀ (a : Option Addr) (w : World), (Instr.typeAssert (.iface 117 (.pointer a)) 33 89 true).run Tryz.prog w = .ok (.tuple #[.pointer none, .bool false]) w := fun a w => by kernel_rfl
  have a17 : ∀ (a : Option Addr) (w : World), (Instr.typeAssert (.iface 117 (.pointer a)) 33 92 true).run Tryz.prog w = .ok (.tuple #[.pointer none, .bool false]) w := fun a w => by kernel_rfl
  go_enter Tryz.func27, Tryz.ntmps27
  go_wp2_with fail
  refine (kindMoreArgumentPack p _).mono ?_
  rintro e w' ⟨rfl, rfl⟩
  go_wp2_with fail
  go_ret
  exact ⟨rfl, rfl⟩

set_option maxRecDepth 100000 in
set_option maxHeartbeats 2000000 in
theorem kindMoreClosure (p : Option Addr) (w : World) : Calls Tryz.prog 45 #[.iface 124 (.pointer p)] w fun e w' => e = .returned (.string kClosure) ∧ w = w' := by
  have a0 : ∀ (a : Option Addr) (w : World), (Instr.typeAssert (.iface 124 (.pointer a)) 33 96 true).run Tryz.prog w = .ok (.tuple #[.pointer none, .bool false]) w := fun a w => by kernel_rfl
  have a1 : ∀ (a : Option Addr) (w : World), (Instr.typeAssert (.iface 124 (.pointer a)) 33 99 true).run Tryz.prog w = .ok (.tuple #[.pointer none, .bool false]) w := fun a w => by kernel_rfl
  have a2 : ∀ (a : Option Addr) (w : World), (Instr.typeAssert (.iface 124 (.pointer a)) 33 102 true).run Tryz.prog w = .ok (.tuple #[.pointer none, .bool false]) w := fun a w => by kernel_rfl
  have a3 : ∀ (a : Option Addr) (w : World), (Instr.typeAssert (.iface 124 (.pointer a)) 33 105 true).run Tryz.prog w = .ok (.tuple #[.pointer none, .bool false]) w := fun a w => by kernel_rfl
  have a4 : ∀ (a : Option Addr) (w : World), (Instr.typeAssert (.iface 124 (.pointer a)) 33 108 true).run Tryz.prog w = .ok (.tuple #[.pointer none, .bool false]) w := fun a w => by kernel_rfl
  have a5 : ∀ (a : Option Addr) (w : World), (Instr.typeAssert (.iface 124 (.pointer a)) 33 111 true).run Tryz.prog w = .ok (.tuple #[.pointer none, .bool false]) w := fun a w => by kernel_rfl
  have a6 : ∀ (a : Option Addr) (w : World), (Instr.typeAssert (.iface 124 (.pointer a)) 33 114 true).run Tryz.prog w = .ok (.tuple #[.pointer none, .bool false]) w := fun a w => by kernel_rfl
  have a7 : ∀ (a : Option Addr) (w : World), (Instr.typeAssert (.iface 124 (.pointer a)) 33 117 true).run Tryz.prog w = .ok (.tuple #[.pointer none, .bool false]) w := fun a w => by kernel_rfl
  have a8 : ∀ (a : Option Addr) (w : World), (Instr.typeAssert (.iface 124 (.pointer a)) 33 121 true).run Tryz.prog w = .ok (.tuple #[.pointer none, .bool false]) w := fun a w => by kernel_rfl
  have a9 : ∀ (a : Option Addr) (w : World), (Instr.typeAssert (.iface 124 (.pointer a)) 33 124 true).run Tryz.prog w = .ok (.tuple #[.pointer a, .bool true]) w := fun a w => by kernel_rfl
  go_enter Tryz.func45, Tryz.ntmps45
  go_wp2_with fail
  go_ret
  exact ⟨rfl, rfl⟩

set_option maxRecDepth 100000 in
set_option maxHeartbeats 2000000 in
theorem kindClosure (p : Option Addr) : KindOf (.iface 124 (.pointer p)) kClosure := by
  intro w
  have a0 : ∀ (a : Option Addr) (w : World), (Instr.typeAssert (.iface 124 (.pointer a)) 33 42 true).run Tryz.prog w = .ok (.tuple #[.pointer none, .bool false]) w := fun a w => by kernel_rfl
  have a1 : ∀ (a : Option Addr) (w : World), (Instr.typeAssert (.iface 124 (.pointer a)) 33 45 true).run Tryz.prog w = .ok (.tuple #[.pointer none, .bool false]) w := fun a w => by kernel_rfl
  have a2 : ∀ (a : Option Addr) (w : World), (Instr.typeAssert (.iface 124 (.pointer a)) 33 47 true).run Tryz.prog w = .ok (.tuple #[.pointer none, .bool false]) w := fun a w => by kernel_rfl
  have a3 : ∀ (a : Option Addr) (w : World), (Instr.typeAssert (.iface 124 (.pointer a)) 33 51 true).run Tryz.prog w = .ok (.tuple #[.pointer none, .bool false]) w := fun a w => by kernel_rfl
  have a4 : ∀ (a : Option Addr) (w : World), (Instr.typeAssert (.iface 124 (.pointer a)) 33 55 true).run Tryz.prog w = .ok (.tuple #[.pointer none, .bool false]) w := fun a w => by kernel_rfl
  have a5 : ∀ (a : Option Addr) (w : World), (Instr.typeAssert (.iface 124 (.pointer a)) 33 58 true).run Tryz.prog w = .ok (.tuple #[.pointer none, .bool false]) w := fun a w => by kernel_rfl
  have a6 : ∀ (a : Option Addr) (w : World), (Instr.typeAssert (.iface 124 (.pointer a)) 33 61 true).run Tryz.prog w = .ok (.tuple #[.pointer none, .bool false]) w := fun a w => by kernel_rfl
  have a7 : ∀ (a : Option Addr) (w : World), (Instr.typeAssert (.iface 124 (.pointer a)) 33 66 true).run Tryz.prog w = .ok (.tuple #[.pointer none, .bool false]) w := fun a w => by kernel_rfl
  have a8 : ∀ (a : Option Addr) (w : World), (Instr.typeAssert (.iface 124 (.pointer a)) 33 69 true).run Tryz.prog w = .ok (.tuple #[.pointer none, .bool false]) w := fun a w => by kernel_rfl
  have a9 : ∀ (a : Option Addr) (w : World), (Instr.typeAssert (.iface 124 (.pointer a)) 33 72 true).run Tryz.prog w = .ok (.tuple #[.pointer none, .bool false]) w := fun a w => by kernel_rfl
  have a10 : ∀ (a : Option Addr) (w : World), (Instr.typeAssert (.iface 124 (.pointer a)) 33 75 true).run Tryz.prog w = .ok (.tuple #[.pointer none, .bool false]) w := fun a w => by kernel_rfl
  have a11 : ∀ (a : Option Addr) (w : World), (Instr.typeAssert (.iface 124 (.pointer a)) 33 77 true).run Tryz.prog w = .ok (.tuple #[.pointer none, .bool false]) w := fun a w => by kernel_rfl
  have a12 : ∀ (a : Option Addr) (w : World), (Instr.typeAssert (.iface 124 (.pointer a)) 33 79 true).run Tryz.prog w = .ok (.tuple #[.pointer none, .bool false]) w := fun a w => by kernel_rfl
  have a13 : ∀ (a : Option Addr) (w : World), (Instr.typeAssert (.iface 124 (.pointer a)) 33 81 true).run Tryz.prog w = .ok (.tuple #[.pointer none, .bool false]) w := fun a w => by kernel_rfl
  have a14 : ∀ (a : Option Addr) (w : World), (Instr.typeAssert (.iface 124 (.pointer a)) 33 83 true).run Tryz.prog w = .ok (.tuple #[.pointer none, .bool false]) w := fun a w => by kernel_rfl
  have a15 : ∀ (a : Option Addr) (w : World), (Instr.typeAssert (.iface 124 (.pointer a)) 33 86 true).run Tryz.prog w = .ok (.tuple #[.pointer none, .bool false]) w := fun a w => by kernel_rfl
  have a16 : ∀ (a : Option Addr) (w : World), (Instr.typeAssert (.iface 124 (.pointer a)) 33 89 true).run Tryz.prog w = .ok (.tuple #[.pointer none, .bool false]) w := fun a w => by kernel_rfl
  have a17 : ∀ (a : Option Addr) (w : World), (Instr.typeAssert (.iface 124 (.pointer a)) 33 92 true).run Tryz.prog w = .ok (.tuple #[.pointer none, .bool false]) w := fun a w => by kernel_rfl
  go_enter Tryz.func27, Tryz.ntmps27
  go_wp2_with fail
  refine (kindMoreClosure p _).mono ?_
  rintro e w' ⟨rfl, rfl⟩
  go_wp2_with fail
  go_ret
  exact ⟨rfl, rfl⟩

set_option maxRecDepth 100000 in
set_option maxHeartbeats 2000000 in
theorem kindMoreUnnamedType (p : Option Addr) (w : World) : Calls Tryz.prog 45 #[.iface 127 (.pointer p)] w fun e w' => e = .returned (.string kUnnamedType) ∧ w = w' := by
  have a0 : ∀ (a : Option Addr) (w : World), (Instr.typeAssert (.iface 127 (.pointer a)) 33 96 true).run Tryz.prog w = .ok (.tuple #[.pointer none, .bool false]) w := fun a w => by kernel_rfl
  have a1 : ∀ (a : Option Addr) (w : World), (Instr.typeAssert (.iface 127 (.pointer a)) 33 99 true).run Tryz.prog w = .ok (.tuple #[.pointer none, .bool false]) w := fun a w => by kernel_rfl
  have a2 : ∀ (a : Option Addr) (w : World), (Instr.typeAssert (.iface 127 (.pointer a)) 33 102 true).run Tryz.prog w = .ok (.tuple #[.pointer none, .bool false]) w := fun a w => by kernel_rfl
  have a3 : ∀ (a : Option Addr) (w : World), (Instr.typeAssert (.iface 127 (.pointer a)) 33 105 true).run Tryz.prog w = .ok (.tuple #[.pointer none, .bool false]) w := fun a w => by kernel_rfl
  have a4 : ∀ (a : Option Addr) (w : World), (Instr.typeAssert (.iface 127 (.pointer a)) 33 108 true).run Tryz.prog w = .ok (.tuple #[.pointer none, .bool false]) w := fun a w => by kernel_rfl
  have a5 : ∀ (a : Option Addr) (w : World), (Instr.typeAssert (.iface 127 (.pointer a)) 33 111 true).run Tryz.prog w = .ok (.tuple #[.pointer none, .bool false]) w := fun a w => by kernel_rfl
  have a6 : ∀ (a : Option Addr) (w : World), (Instr.typeAssert (.iface 127 (.pointer a)) 33 114 true).run Tryz.prog w = .ok (.tuple #[.pointer none, .bool false]) w := fun a w => by kernel_rfl
  have a7 : ∀ (a : Option Addr) (w : World), (Instr.typeAssert (.iface 127 (.pointer a)) 33 117 true).run Tryz.prog w = .ok (.tuple #[.pointer none, .bool false]) w := fun a w => by kernel_rfl
  have a8 : ∀ (a : Option Addr) (w : World), (Instr.typeAssert (.iface 127 (.pointer a)) 33 121 true).run Tryz.prog w = .ok (.tuple #[.pointer none, .bool false]) w := fun a w => by kernel_rfl
  have a9 : ∀ (a : Option Addr) (w : World), (Instr.typeAssert (.iface 127 (.pointer a)) 33 124 true).run Tryz.prog w = .ok (.tuple #[.pointer none, .bool false]) w := fun a w => by kernel_rfl
  have a10 : ∀ (a : Option Addr) (w : World), (Instr.typeAssert (.iface 127 (.pointer a)) 33 127 true).run Tryz.prog w = .ok (.tuple #[.pointer a, .bool true]) w := fun a w => by kernel_rfl
  go_enter Tryz.func45, Tryz.ntmps45
  go_wp2_with fail
  go_ret
  exact ⟨rfl, rfl⟩

set_option maxRecDepth 100000 in
set_option maxHeartbeats 2000000 in
theorem kindUnnamedType (p : Option Addr) : KindOf (.iface 127 (.pointer p)) kUnnamedType := by
  intro w
  have a0 : ∀ (a : Option Addr) (w : World), (Instr.typeAssert (.iface 127 (.pointer a)) 33 42 true).run Tryz.prog w = .ok (.tuple #[.pointer none, .bool false]) w := fun a w => by kernel_rfl
  have a1 : ∀ (a : Option Addr) (w : World), (Instr.typeAssert (.iface 127 (.pointer a)) 33 45 true).run Tryz.prog w = .ok (.tuple #[.pointer none, .bool false]) w := fun a w => by kernel_rfl
  have a2 : ∀ (a : Option Addr) (w : World), (Instr.typeAssert (.iface 127 (.pointer a)) 33 47 true).run Tryz.prog w = .ok (.tuple #[.pointer none, .bool false]) w := fun a w => by kernel_rfl
  have a3 : ∀ (a : Option Addr) (w : World), (Instr.typeAssert (.iface 127 (.pointer a)) 33 51 true).run Tryz.prog w = .ok (.tuple #[.pointer none, .bool false]) w := fun a w => by kernel_rfl
  have a4 : ∀ (a : Option Addr) (w : World), (Instr.typeAssert (.iface 127 (.pointer a)) 33 55 true).run Tryz.prog w = .ok (.tuple #[.pointer none, .bool false]) w := fun a w => by kernel_rfl
  have a5 : ∀ (a : Option Addr) (w : World), (Instr.typeAssert (.iface 127 (.pointer a)) 33 58 true).run Tryz.prog w = .ok (.tuple #[.pointer none, .bool false]) w := fun a w => by kernel_rfl
  have a6 : ∀ (a : Option Addr) (w : World), (Instr.typeAssert (.iface 127 (.pointer a)) 33 61 true).run Tryz.prog w = .ok (.tuple #[.pointer none, .bool false]) w := fun a w => by kernel_rfl
  have a7 : ∀ (a : Option Addr) (w : World), (Instr.typeAssert (.iface 127 (.pointer a)) 33 66 true).run Tryz.prog w = .ok (.tuple #[.pointer none, .bool false]) w := fun a w => by kernel_rfl
  have a8 : ∀ (a : Option Addr) (w : World), (Instr.typeAssert (.iface 127 (.pointer a)) 33 69 true).run Tryz.prog w = .ok (.tuple #[.pointer none, .bool false]) w := fun a w => by kernel_rfl
  have a9 : ∀ (a : Option Addr) (w : World), (Instr.typeAssert (.iface 127 (.pointer a)) 33 72 true).run Tryz.prog w = .ok (.tuple #[.pointer none, .bool false]) w := fun a w => by kernel_rfl
  have a10 : ∀ (a : Option Addr) (w : World), (Instr.typeAssert (.iface 127 (.pointer a)) 33 75 true).run Tryz.prog w = .ok (.tuple #[.pointer none, .bool false]) w := fun a w => by kernel_rfl
  have a11 : ∀ (a : Option Addr) (w : World), (Instr.typeAssert (.iface 127 (.pointer a)) 33 77 true).run Tryz.prog w = .ok (.tuple #[.pointer none, .bool false]) w := fun a w => by kernel_rfl
  have a12 : ∀ (a : Option Addr) (w : World), (Instr.typeAssert (.iface 127 (.pointer a)) 33 79 true).run Tryz.prog w = .ok (.tuple #[.pointer none, .bool false]) w := fun a w => by kernel_rfl
  have a13 : ∀ (a : Option Addr) (w : World), (Instr.typeAssert (.iface 127 (.pointer a)) 33 81 true).run Tryz.prog w = .ok (.tuple #[.pointer none, .bool false]) w := fun a w => by kernel_rfl
  have a14 : ∀ (a : Option Addr) (w : World), (Instr.typeAssert (.iface 127 (.pointer a)) 33 83 true).run Tryz.prog w = .ok (.tuple #[.pointer none, .bool false]) w := fun a w => by kernel_rfl
  have a15 : ∀ (a : Option Addr) (w : World), (Instr.typeAssert (.iface 127 (.pointer a)) 33 86 true).run Tryz.prog w = .ok (.tuple #[.pointer none, .bool false]) w := fun a w => by kernel_rfl
  have a16 : ∀ (a : Option Addr) (w : World), (Instr.typeAssert (.iface 127 (.pointer a)) 33 89 true).run Tryz.prog w = .ok (.tuple #[.pointer none, .bool false]) w := fun a w => by kernel_rfl
  have a17 : ∀ (a : Option Addr) (w : World), (Instr.typeAssert (.iface 127 (.pointer a)) 33 92 true).run Tryz.prog w = .ok (.tuple #[.pointer none, .bool false]) w := fun a w => by kernel_rfl
  go_enter Tryz.func27, Tryz.ntmps27
  go_wp2_with fail
  refine (kindMoreUnnamedType p _).mono ?_
  rintro e w' ⟨rfl, rfl⟩
  go_wp2_with fail
  go_ret
  exact ⟨rfl, rfl⟩

set_option maxRecDepth 100000 in
set_option maxHeartbeats 2000000 in
theorem kindMoreTaggedName (p : Option Addr) (w : World) : Calls Tryz.prog 45 #[.iface 130 (.pointer p)] w fun e w' => e = .returned (.string kTaggedName) ∧ w = w' := by
  have a0 : ∀ (a : Option Addr) (w : World), (Instr.typeAssert (.iface 130 (.pointer a)) 33 96 true).run Tryz.prog w = .ok (.tuple #[.pointer none, .bool false]) w := fun a w => by kernel_rfl
  have a1 : ∀ (a : Option Addr) (w : World), (Instr.typeAssert (.iface 130 (.pointer a)) 33 99 true).run Tryz.prog w = .ok (.tuple #[.pointer none, .bool false]) w := fun a w => by kernel_rfl
  have a2 : ∀ (a : Option Addr) (w : World), (Instr.typeAssert (.iface 130 (.pointer a)) 33 102 true).run Tryz.prog w = .ok (.tuple #[.pointer none, .bool false]) w := fun a w => by kernel_rfl
  have a3 : ∀ (a : Option Addr) (w : World), (Instr.typeAssert (.iface 130 (.pointer a)) 33 105 true).run Tryz.prog w = .ok (.tuple #[.pointer none, .bool false]) w := fun a w => by kernel_rfl
  have a4 : ∀ (a : Option Addr) (w : World), (Instr.typeAssert (.iface 130 (.pointer a)) 33 108 true).run Tryz.prog w = .ok (.tuple #[.pointer none, .bool false]) w := fun a w => by kernel_rfl
  have a5 : ∀ (a : Option Addr) (w : World), (Instr.typeAssert (.iface 130 (.pointer a)) 33 111 true).run Tryz.prog w = .ok (.tuple #[.pointer none, .bool false]) w := fun a w => by kernel_rfl
  have a6 : ∀ (a : Option Addr) (w : World), (Instr.typeAssert (.iface 130 (.pointer a)) 33 114 true).run Tryz.prog w = .ok (.tuple #[.pointer none, .bool false]) w := fun a w => by kernel_rfl
  have a7 : ∀ (a : Option Addr) (w : World), (Instr.typeAssert (.iface 130 (.pointer a)) 33 117 true).run Tryz.prog w = .ok (.tuple #[.pointer none, .bool false]) w := fun a w => by kernel_rfl
  have a8 : ∀ (a : Option Addr) (w : World), (Instr.typeAssert (.iface 130 (.pointer a)) 33 121 true).run Tryz.prog w = .ok (.tuple #[.pointer none, .bool false]) w := fun a w => by kernel_rfl
  have a9 : ∀ (a : Option Addr) (w : World), (Instr.typeAssert (.iface 130 (.pointer a)) 33 124 true).run Tryz.prog w = .ok (.tuple #[.pointer none, .bool false]) w := fun a w => by kernel_rfl
  have a10 : ∀ (a : Option Addr) (w : World), (Instr.typeAssert (.iface 130 (.pointer a)) 33 127 true).run Tryz.prog w = .ok (.tuple #[.pointer none, .bool false]) w := fun a w => by kernel_rfl
  have a11 : ∀ (a : Option Addr) (w : World), (Instr.typeAssert (.iface 130 (.pointer a)) 33 130 true).run Tryz.prog w = .ok (.tuple #[.pointer a, .bool true]) w := fun a w => by kernel_rfl
  go_enter Tryz.func45, Tryz.ntmps45
  go_wp2_with fail
  go_ret
  exact ⟨rfl, rfl⟩

set_option maxRecDepth 100000 in
set_option maxHeartbeats 2000000 in
theorem kindTaggedName (p : Option Addr) : KindOf (.iface 130 (.pointer p)) kTaggedName := by
  intro w
  have a0 : ∀ (a : Option Addr) (w : World), (Instr.typeAssert (.iface 130 (.pointer a)) 33 42 true).run Tryz.prog w = .ok (.tuple #[.pointer none, .bool false]) w := fun a w => by kernel_rfl
  have a1 : ∀ (a : Option Addr) (w : World), (Instr.typeAssert (.iface 130 (.pointer a)) 33 45 true).run Tryz.prog w = .ok (.tuple #[.pointer none, .bool false]) w := fun a w => by kernel_rfl
  have a2 : ∀ (a : Option Addr) (w : World), (Instr.typeAssert (.iface 130 (.pointer a)) 33 47 true).run Tryz.prog w = .ok (.tuple #[.pointer none, .bool false]) w := fun a w => by kernel_rfl
  have a3 : ∀ (a : Option Addr) (w : World), (Instr.typeAssert (.iface 130 (.pointer a)) 33 51 true).run Tryz.prog w = .ok (.tuple #[.pointer none, .bool false]) w := fun a w => by kernel_rfl
  have a4 : ∀ (a : Option Addr) (w : World), (Instr.typeAssert (.iface 130 (.pointer a)) 33 55 true).run Tryz.prog w = .ok (.tuple #[.pointer none, .bool false]) w := fun a w => by kernel_rfl
  have a5 : ∀ (a : Option Addr) (w : World), (Instr.typeAssert (.iface 130 (.pointer a)) 33 58 true).run Tryz.prog w = .ok (.tuple #[.pointer none, .bool false]) w := fun a w => by kernel_rfl
  have a6 : ∀ (a : Option Addr) (w : World), (Instr.typeAssert (.iface 130 (.pointer a)) 33 61 true).run Tryz.prog w = .ok (.tuple #[.pointer none, .bool false]) w := fun a w => by kernel_rfl
  have a7 : ∀ (a : Option Addr) (w : World), (Instr.typeAssert (.iface 130 (.pointer a)) 33 66 true).run Tryz.prog w = .ok (.tuple #[.pointer none, .bool false]) w := fun a w => by kernel_rfl
  have a8 : ∀ (a : Option Addr) (w : World), (Instr.typeAssert (.iface 130 (.pointer a)) 33 69 true).run Tryz.prog w = .ok (.tuple #[.pointer none, .bool false]) w := fun a w => by kernel_rfl
  have a9 : ∀ (a : Option Addr) (w : World), (Instr.typeAssert (.iface 130 (.pointer a)) 33 72 true).run Tryz.prog w = .ok (.tuple #[.pointer none, .bool false]) w := fun a w => by kernel_rfl
  have a10 : ∀ (a : Option Addr) (w : World), (Instr.typeAssert (.iface 130 (.pointer a)) 33 75 true).run Tryz.prog w = .ok (.tuple #[.pointer none, .bool false]) w := fun a w => by kernel_rfl
  have a11 : ∀ (a : Option Addr) (w : World), (Instr.typeAssert (.iface 130 (.pointer a)) 33 77 true).run Tryz.prog w = .ok (.tuple #[.pointer none, .bool false]) w := fun a w => by kernel_rfl
  have a12 : ∀ (a : Option Addr) (w : World), (Instr.typeAssert (.iface 130 (.pointer a)) 33 79 true).run Tryz.prog w = .ok (.tuple #[.pointer none, .bool false]) w := fun a w => by kernel_rfl
  have a13 : ∀ (a : Option Addr) (w : World), (Instr.typeAssert (.iface 130 (.pointer a)) 33 81 true).run Tryz.prog w = .ok (.tuple #[.pointer none, .bool false]) w := fun a w => by kernel_rfl
  have a14 : ∀ (a : Option Addr) (w : World), (Instr.typeAssert (.iface 130 (.pointer a)) 33 83 true).run Tryz.prog w = .ok (.tuple #[.pointer none, .bool false]) w := fun a w => by kernel_rfl
  have a15 : ∀ (a : Option Addr) (w : World), (Instr.typeAssert (.iface 130 (.pointer a)) 33 86 true).run Tryz.prog w = .ok (.tuple #[.pointer none, .bool false]) w := fun a w => by kernel_rfl
  have a16 : ∀ (a : Option Addr) (w : World), (Instr.typeAssert (.iface 130 (.pointer a)) 33 89 true).run Tryz.prog w = .ok (.tuple #[.pointer none, .bool false]) w := fun a w => by kernel_rfl
  have a17 : ∀ (a : Option Addr) (w : World), (Instr.typeAssert (.iface 130 (.pointer a)) 33 92 true).run Tryz.prog w = .ok (.tuple #[.pointer none, .bool false]) w := fun a w => by kernel_rfl
  go_enter Tryz.func27, Tryz.ntmps27
  go_wp2_with fail
  refine (kindMoreTaggedName p _).mono ?_
  rintro e w' ⟨rfl, rfl⟩
  go_wp2_with fail
  go_ret
  exact ⟨rfl, rfl⟩

set_option maxRecDepth 100000 in
set_option maxHeartbeats 2000000 in
theorem kindMoreCast (p : Option Addr) (w : World) : Calls Tryz.prog 45 #[.iface 142 (.pointer p)] w fun e w' => e = .returned (.string kCast) ∧ w = w' := by
  have a0 : ∀ (a : Option Addr) (w : World), (Instr.typeAssert (.iface 142 (.pointer a)) 33 96 true).run Tryz.prog w = .ok (.tuple #[.pointer none, .bool false]) w := fun a w => by kernel_rfl
  have a1 : ∀ (a : Option Addr) (w : World), (Instr.typeAssert (.iface 142 (.pointer a)) 33 99 true).run Tryz.prog w = .ok (.tuple #[.pointer none, .bool false]) w := fun a w => by kernel_rfl
  have a2 : ∀ (a : Option Addr) (w : World), (Instr.typeAssert (.iface 142 (.pointer a)) 33 102 true).run Tryz.prog w = .ok (.tuple #[.pointer none, .bool false]) w := fun a w => by kernel_rfl
  have a3 : ∀ (a : Option Addr) (w : World), (Instr.typeAssert (.iface 142 (.pointer a)) 33 105 true).run Tryz.prog w = .ok (.tuple #[.pointer none, .bool false]) w := fun a w => by kernel_rfl
  have a4 : ∀ (a : Option Addr) (w : World), (Instr.typeAssert (.iface 142 (.pointer a)) 33 108 true).run Tryz.prog w = .ok (.tuple #[.pointer none, .bool false]) w := fun a w => by kernel_rfl
  have a5 : ∀ (a : Option Addr) (w : World), (Instr.typeAssert (.iface 142 (.pointer a)) 33 111 true).run Tryz.prog w = .ok (.tuple #[.pointer none, .bool false]) w := fun a w => by kernel_rfl
  have a6 : ∀ (a : Option Addr) (w : World), (Instr.typeAssert (.iface 142 (.pointer a)) 33 114 true).run Tryz.prog w = .ok (.tuple #[.pointer none, .bool false]) w := fun a w => by kernel_rfl
  have a7 : ∀ (a : Option Addr) (w : World), (Instr.typeAssert (.iface 142 (.pointer a)) 33 117 true).run Tryz.prog w = .ok (.tuple #[.pointer none, .bool false]) w := fun a w => by kernel_rfl
  have a8 : ∀ (a : Option Addr) (w : World), (Instr.typeAssert (.iface 142 (.pointer a)) 33 121 true).run Tryz.prog w = .ok (.tuple #[.pointer none, .bool false]) w := fun a w => by kernel_rfl
  have a9 : ∀ (a : Option Addr) (w : World), (Instr.typeAssert (.iface 142 (.pointer a)) 33 124 true).run Tryz.prog w = .ok (.tuple #[.pointer none, .bool false]) w := fun a w => by kernel_rfl
  have a10 : ∀ (a : Option Addr) (w : World), (Instr.typeAssert (.iface 142 (.pointer a)) 33 127 true).run Tryz.prog w = .ok (.tuple #[.pointer none, .bool false]) w := fun a w => by kernel_rfl
  have a11 : ∀ (a : Option Addr) (w : World), (Instr.typeAssert (.iface 142 (.pointer a)) 33 130 true).run Tryz.prog w = .ok (.tuple #[.pointer none, .bool false]) w := fun a w => by kernel_rfl
  have a12 : ∀ (a : Option Addr) (w : World), (Instr.typeAssert (.iface 142 (.pointer a)) 33 133 true).run Tryz.prog w = .ok (.tuple #[.pointer none, .bool false]) w := fun a w => by kernel_rfl
  have a13 : ∀ (a : Option Addr) (w : World), (Instr.typeAssert (.iface 142 (.pointer a)) 33 136 true).run Tryz.prog w = .ok (.tuple #[.pointer none, .bool false]) w := fun a w => by kernel_rfl
  have a14 : ∀ (a : Option Addr) (w : World), (Instr.typeAssert (.iface 142 (.pointer a)) 33 139 true).run Tryz.prog w = .ok (.tuple #[.pointer none, .bool false]) w := fun a w => by kernel_rfl
  have a15 : ∀ (a : Option Addr) (w : World), (Instr.typeAssert (.iface 142 (.pointer a)) 33 142 true).run Tryz.prog w = .ok (.tuple #[.pointer a, .bool true]) w := fun a w => by kernel_rfl
  go_enter Tryz.func45, Tryz.ntmps45
  go_wp2_with fail
  go_ret
  exact ⟨rfl, rfl⟩

set_option maxRecDepth 100000 in
set_option maxHeartbeats 2000000 in
theorem kindCast (p : Option Addr) : KindOf (.iface 142 (.pointer p)) kCast := by
  intro w
  have a0 : ∀ (a : Option Addr) (w : World), (Instr.typeAssert (.iface 142 (.pointer a)) 33 42 true).run Tryz.prog w = .ok (.tuple #[.pointer none, .bool false]) w := fun a w => by kernel_rfl
  have a1 : ∀ (a : Option Addr) (w : World), (Instr.typeAssert (.iface 142 (.pointer a)) 33 45 true).run Tryz.prog w = .ok (.tuple #[.pointer none, .bool false]) w := fun a w => by kernel_rfl
  have a2 : ∀ (a : Option Addr) (w : World), (Instr.typeAssert (.iface 142 (.pointer a)) 33 47 true).run Tryz.prog w = .ok (.tuple #[.pointer none, .bool false]) w := fun a w => by kernel_rfl
  have a3 : ∀ (a : Option Addr) (w : World), (Instr.typeAssert (.iface 142 (.pointer a)) 33 51 true).run Tryz.prog w = .ok (.tuple #[.pointer none, .bool false]) w := fun a w => by kernel_rfl
  have a4 : ∀ (a : Option Addr) (w : World), (Instr.typeAssert (.iface 142 (.pointer a)) 33 55 true).run Tryz.prog w = .ok (.tuple #[.pointer none, .bool false]) w := fun a w => by kernel_rfl
  have a5 : ∀ (a : Option Addr) (w : World), (Instr.typeAssert (.iface 142 (.pointer a)) 33 58 true).run Tryz.prog w = .ok (.tuple #[.pointer none, .bool false]) w := fun a w => by kernel_rfl
  have a6 : ∀ (a : Option Addr) (w : World), (Instr.typeAssert (.iface 142 (.pointer a)) 33 61 true).run Tryz.prog w = .ok (.tuple #[.pointer none, .bool false]) w := fun a w => by kernel_rfl
  have a7 : ∀ (a : Option Addr) (w : World), (Instr.typeAssert (.iface 142 (.pointer a)) 33 66 true).run Tryz.prog w = .ok (.tuple #[.pointer none, .bool false]) w := fun a w => by kernel_rfl
  have a8 : ∀ (a : Option Addr) (w : World), (Instr.typeAssert (.iface 142 (.pointer a)) 33 69 true).run Tryz.prog w = .ok (.tuple #[.pointer none, .bool false]) w := fun a w => by kernel_rfl
  have a9 : ∀ (a : Option Addr) (w : World), (Instr.typeAssert (.iface 142 (.pointer a)) 33 72 true).run Tryz.prog w = .ok (.tuple #[.pointer none, .bool false]) w := fun a w => by kernel_rfl
  have a10 : ∀ (a : Option Addr) (w : World), (Instr.typeAssert (.iface 142 (.pointer a)) 33 75 true).run Tryz.prog w = .ok (.tuple #[.pointer none, .bool false]) w := fun a w => by kernel_rfl
  have a11 : ∀ (a : Option Addr) (w : World), (Instr.typeAssert (.iface 142 (.pointer a)) 33 77 true).run Tryz.prog w = .ok (.tuple #[.pointer none, .bool false]) w := fun a w => by kernel_rfl
  have a12 : ∀ (a : Option Addr) (w : World), (Instr.typeAssert (.iface 142 (.pointer a)) 33 79 true).run Tryz.prog w = .ok (.tuple #[.pointer none, .bool false]) w := fun a w => by kernel_rfl
  have a13 : ∀ (a : Option Addr) (w : World), (Instr.typeAssert (.iface 142 (.pointer a)) 33 81 true).run Tryz.prog w = .ok (.tuple #[.pointer none, .bool false]) w := fun a w => by kernel_rfl
  have a14 : ∀ (a : Option Addr) (w : World), (Instr.typeAssert (.iface 142 (.pointer a)) 33 83 true).run Tryz.prog w = .ok (.tuple #[.pointer none, .bool false]) w := fun a w => by kernel_rfl
  have a15 : ∀ (a : Option Addr) (w : World), (Instr.typeAssert (.iface 142 (.pointer a)) 33 86 true).run Tryz.prog w = .ok (.tuple #[.pointer none, .bool false]) w := fun a w => by kernel_rfl
  have a16 : ∀ (a : Option Addr) (w : World), (Instr.typeAssert (.iface 142 (.pointer a)) 33 89 true).run Tryz.prog w = .ok (.tuple #[.pointer none, .bool false]) w := fun a w => by kernel_rfl
  have a17 : ∀ (a : Option Addr) (w : World), (Instr.typeAssert (.iface 142 (.pointer a)) 33 92 true).run Tryz.prog w = .ok (.tuple #[.pointer none, .bool false]) w := fun a w => by kernel_rfl
  go_enter Tryz.func27, Tryz.ntmps27
  go_wp2_with fail
  refine (kindMoreCast p _).mono ?_
  rintro e w' ⟨rfl, rfl⟩
  go_wp2_with fail
  go_ret
  exact ⟨rfl, rfl⟩

/-- The pointers to elements, with their kinds. -/
def ptrs : List (ByteArray × Nat) := [(kName, 42), (kBuiltinType, 45), (kOperator, 47), (kConstructor, 51), (kDestructor, 55), (kQualified, 58), (kTemplate, 61), (kTyped, 66), (kFunctionType, 69), (kPointerType, 72), (kReferenceType, 75), (kRvalueReferenceType, 77), (kComplexType, 79), (kImaginaryType, 81), (kTypeWithQualifiers, 83), (kQualifiers, 86), (kQualifier, 89), (kMethodWithQualifiers, 92), (kArrayType, 96), (kVectorType, 99), (kPtrMem, 102), (kVendorQualifier, 105), (kLiteral, 114), (kArgumentPack, 117), (kClosure, 124), (kUnnamedType, 127), (kTaggedName, 130), (kCast, 142)]
theorem PtrK.mem {k : ByteArray} {p : Nat} (h : PtrK k p) : (k, p) ∈ ptrs := by
  unfold PtrK leafTab unaryTab binaryTab listTab at h
  simp only [List.mem_cons, Prod.mk.injEq, List.not_mem_nil, or_false] at h
  unfold ptrs
  simp only [List.mem_cons, Prod.mk.injEq, List.not_mem_nil, or_false]
  rcases h with ⟨ex, h | h | h⟩ | h | h
  · rcases h with h | h | h <;> (obtain ⟨rfl, rfl, _⟩ := h; simp)
  · rcases h with h | h | h | h | h | h | h | h <;> (obtain ⟨rfl, rfl, _⟩ := h; simp)
  · rcases h with h | h | h | h | h | h | h | h <;> (obtain ⟨rfl, rfl, _⟩ := h; simp)
  · rcases h with h | h <;> (obtain ⟨rfl, rfl⟩ := h; simp)
  · rcases h with h | h | h | h | h | h | h <;> (obtain ⟨rfl, rfl⟩ := h; simp)

theorem kindOfC {k : ByteArray} {p : Nat} (h : PtrK k p) (a : Option Addr) : KindOf (.iface p (.pointer a)) k := by
  have hm := h.mem
  unfold ptrs at hm
  simp only [List.mem_cons, Prod.mk.injEq, List.not_mem_nil, or_false] at hm
  rcases hm with ⟨rfl, rfl⟩ | ⟨rfl, rfl⟩ | ⟨rfl, rfl⟩ | ⟨rfl, rfl⟩ | ⟨rfl, rfl⟩ | ⟨rfl, rfl⟩ | ⟨rfl, rfl⟩ | ⟨rfl, rfl⟩ | ⟨rfl, rfl⟩ | ⟨rfl, rfl⟩ | ⟨rfl, rfl⟩ | ⟨rfl, rfl⟩ | ⟨rfl, rfl⟩ | ⟨rfl, rfl⟩ | ⟨rfl, rfl⟩ | ⟨rfl, rfl⟩ | ⟨rfl, rfl⟩ | ⟨rfl, rfl⟩ | ⟨rfl, rfl⟩ | ⟨rfl, rfl⟩ | ⟨rfl, rfl⟩ | ⟨rfl, rfl⟩ | ⟨rfl, rfl⟩ | ⟨rfl, rfl⟩ | ⟨rfl, rfl⟩ | ⟨rfl, rfl⟩ | ⟨rfl, rfl⟩ | ⟨rfl, rfl⟩
  · exact kindName a
  · exact kindBuiltinType a
  · exact kindOperator a
  · exact kindConstructor a
  · exact kindDestructor a
  · exact kindQualified a
  · exact kindTemplate a
  · exact kindTyped a
  · exact kindFunctionType a
  · exact kindPointerType a
  · exact kindReferenceType a
  · exact kindRvalueReferenceType a
  · exact kindComplexType a
  · exact kindImaginaryType a
  · exact kindTypeWithQualifiers a
  · exact kindQualifiers a
  · exact kindQualifier a
  · exact kindMethodWithQualifiers a
  · exact kindArrayType a
  · exact kindVectorType a
  · exact kindPtrMem a
  · exact kindVendorQualifier a
  · exact kindLiteral a
  · exact kindArgumentPack a
  · exact kindClosure a
  · exact kindUnnamedType a
  · exact kindTaggedName a
  · exact kindCast a
end Go.Proofs.YteojmibojkkheaaGreatDoor
