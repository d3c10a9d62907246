/- impl.kindOf: the kind of an element, and of none; conditions: none. -/
import Derived.Test.YtlfbmpenekiigaaGreatDoorAst
import Derived.WalkKit
import Derived.ProofKit
namespace Go.Proofs.YtlfbmpenekiigaaGreatDoor
open Go.ChangeShapes Go.WideShapes Go.ChangeAt Go.RowKit
set_option linter.unusedVariables false

/-- What kindOf says of a value. -/
def KindOf (v : Value) (k : ByteArray) : Prop := ∀ w : World, Calls Tryz.prog 19 #[v] w fun e w' => e = .returned (.string k) ∧ w = w'

set_option maxRecDepth 100000 in
set_option maxHeartbeats 2000000 in
theorem kindName (p : Option Addr) : KindOf (.iface 36 (.pointer p)) kName := by
  intro w
  have a0 : ∀ (a : Option Addr) (w : World), (Instr.typeAssert (.iface 36 (.pointer a)) 33 36 true).run Tryz.prog w = .ok (.tuple #[.pointer a, .bool true]) w := fun a w => by kernel_rfl
  go_enter Tryz.func19, Tryz.ntmps19
  go_wp2_with fail
  go_ret
  exact ⟨rfl, rfl⟩

set_option maxRecDepth 100000 in
set_option maxHeartbeats 2000000 in
theorem kindBuiltinType (p : Option Addr) : KindOf (.iface 46 (.pointer p)) kBuiltinType := by
  intro w
  have a0 : ∀ (a : Option Addr) (w : World), (Instr.typeAssert (.iface 46 (.pointer a)) 33 36 true).run Tryz.prog w = .ok (.tuple #[.pointer none, .bool false]) w := fun a w => by kernel_rfl
  have a1 : ∀ (a : Option Addr) (w : World), (Instr.typeAssert (.iface 46 (.pointer a)) 33 46 true).run Tryz.prog w = .ok (.tuple #[.pointer a, .bool true]) w := fun a w => by kernel_rfl
  go_enter Tryz.func19, Tryz.ntmps19
  go_wp2_with fail
  go_ret
  exact ⟨rfl, rfl⟩

set_option maxRecDepth 100000 in
set_option maxHeartbeats 2000000 in
theorem kindOperator (p : Option Addr) : KindOf (.iface 48 (.pointer p)) kOperator := by
  intro w
  have a0 : ∀ (a : Option Addr) (w : World), (Instr.typeAssert (.iface 48 (.pointer a)) 33 36 true).run Tryz.prog w = .ok (.tuple #[.pointer none, .bool false]) w := fun a w => by kernel_rfl
  have a1 : ∀ (a : Option Addr) (w : World), (Instr.typeAssert (.iface 48 (.pointer a)) 33 46 true).run Tryz.prog w = .ok (.tuple #[.pointer none, .bool false]) w := fun a w => by kernel_rfl
  have a2 : ∀ (a : Option Addr) (w : World), (Instr.typeAssert (.iface 48 (.pointer a)) 33 48 true).run Tryz.prog w = .ok (.tuple #[.pointer a, .bool true]) w := fun a w => by kernel_rfl
  go_enter Tryz.func19, Tryz.ntmps19
  go_wp2_with fail
  go_ret
  exact ⟨rfl, rfl⟩

set_option maxRecDepth 100000 in
set_option maxHeartbeats 2000000 in
theorem kindConstructor (p : Option Addr) : KindOf (.iface 52 (.pointer p)) kConstructor := by
  intro w
  have a0 : ∀ (a : Option Addr) (w : World), (Instr.typeAssert (.iface 52 (.pointer a)) 33 36 true).run Tryz.prog w = .ok (.tuple #[.pointer none, .bool false]) w := fun a w => by kernel_rfl
  have a1 : ∀ (a : Option Addr) (w : World), (Instr.typeAssert (.iface 52 (.pointer a)) 33 46 true).run Tryz.prog w = .ok (.tuple #[.pointer none, .bool false]) w := fun a w => by kernel_rfl
  have a2 : ∀ (a : Option Addr) (w : World), (Instr.typeAssert (.iface 52 (.pointer a)) 33 48 true).run Tryz.prog w = .ok (.tuple #[.pointer none, .bool false]) w := fun a w => by kernel_rfl
  have a3 : ∀ (a : Option Addr) (w : World), (Instr.typeAssert (.iface 52 (.pointer a)) 33 52 true).run Tryz.prog w = .ok (.tuple #[.pointer a, .bool true]) w := fun a w => by kernel_rfl
  go_enter Tryz.func19, Tryz.ntmps19
  go_wp2_with fail
  go_ret
  exact ⟨rfl, rfl⟩

set_option maxRecDepth 100000 in
set_option maxHeartbeats 2000000 in
theorem kindDestructor (p : Option Addr) : KindOf (.iface 56 (.pointer p)) kDestructor := by
  intro w
  have a0 : ∀ (a : Option Addr) (w : World), (Instr.typeAssert (.iface 56 (.pointer a)) 33 36 true).run Tryz.prog w = .ok (.tuple #[.pointer none, .bool false]) w := fun a w => by kernel_rfl
  have a1 : ∀ (a : Option Addr) (w : World), (Instr.typeAssert (.iface 56 (.pointer a)) 33 46 true).run Tryz.prog w = .ok (.tuple #[.pointer none, .bool false]) w := fun a w => by kernel_rfl
  have a2 : ∀ (a : Option Addr) (w : World), (Instr.typeAssert (.iface 56 (.pointer a)) 33 48 true).run Tryz.prog w = .ok (.tuple #[.pointer none, .bool false]) w := fun a w => by kernel_rfl
  have a3 : ∀ (a : Option Addr) (w : World), (Instr.typeAssert (.iface 56 (.pointer a)) 33 52 true).run Tryz.prog w = .ok (.tuple #[.pointer none, .bool false]) w := fun a w => by kernel_rfl
  have a4 : ∀ (a : Option Addr) (w : World), (Instr.typeAssert (.iface 56 (.pointer a)) 33 56 true).run Tryz.prog w = .ok (.tuple #[.pointer a, .bool true]) w := fun a w => by kernel_rfl
  go_enter Tryz.func19, Tryz.ntmps19
  go_wp2_with fail
  go_ret
  exact ⟨rfl, rfl⟩

set_option maxRecDepth 100000 in
set_option maxHeartbeats 2000000 in
theorem kindQualified (p : Option Addr) : KindOf (.iface 59 (.pointer p)) kQualified := by
  intro w
  have a0 : ∀ (a : Option Addr) (w : World), (Instr.typeAssert (.iface 59 (.pointer a)) 33 36 true).run Tryz.prog w = .ok (.tuple #[.pointer none, .bool false]) w := fun a w => by kernel_rfl
  have a1 : ∀ (a : Option Addr) (w : World), (Instr.typeAssert (.iface 59 (.pointer a)) 33 46 true).run Tryz.prog w = .ok (.tuple #[.pointer none, .bool false]) w := fun a w => by kernel_rfl
  have a2 : ∀ (a : Option Addr) (w : World), (Instr.typeAssert (.iface 59 (.pointer a)) 33 48 true).run Tryz.prog w = .ok (.tuple #[.pointer none, .bool false]) w := fun a w => by kernel_rfl
  have a3 : ∀ (a : Option Addr) (w : World), (Instr.typeAssert (.iface 59 (.pointer a)) 33 52 true).run Tryz.prog w = .ok (.tuple #[.pointer none, .bool false]) w := fun a w => by kernel_rfl
  have a4 : ∀ (a : Option Addr) (w : World), (Instr.typeAssert (.iface 59 (.pointer a)) 33 56 true).run Tryz.prog w = .ok (.tuple #[.pointer none, .bool false]) w := fun a w => by kernel_rfl
  have a5 : ∀ (a : Option Addr) (w : World), (Instr.typeAssert (.iface 59 (.pointer a)) 33 59 true).run Tryz.prog w = .ok (.tuple #[.pointer a, .bool true]) w := fun a w => by kernel_rfl
  go_enter Tryz.func19, Tryz.ntmps19
  go_wp2_with fail
  go_ret
  exact ⟨rfl, rfl⟩

set_option maxRecDepth 100000 in
set_option maxHeartbeats 2000000 in
theorem kindTemplate (p : Option Addr) : KindOf (.iface 62 (.pointer p)) kTemplate := by
  intro w
  have a0 : ∀ (a : Option Addr) (w : World), (Instr.typeAssert (.iface 62 (.pointer a)) 33 36 true).run Tryz.prog w = .ok (.tuple #[.pointer none, .bool false]) w := fun a w => by kernel_rfl
  have a1 : ∀ (a : Option Addr) (w : World), (Instr.typeAssert (.iface 62 (.pointer a)) 33 46 true).run Tryz.prog w = .ok (.tuple #[.pointer none, .bool false]) w := fun a w => by kernel_rfl
  have a2 : ∀ (a : Option Addr) (w : World), (Instr.typeAssert (.iface 62 (.pointer a)) 33 48 true).run Tryz.prog w = .ok (.tuple #[.pointer none, .bool false]) w := fun a w => by kernel_rfl
  have a3 : ∀ (a : Option Addr) (w : World), (Instr.typeAssert (.iface 62 (.pointer a)) 33 52 true).run Tryz.prog w = .ok (.tuple #[.pointer none, .bool false]) w := fun a w => by kernel_rfl
  have a4 : ∀ (a : Option Addr) (w : World), (Instr.typeAssert (.iface 62 (.pointer a)) 33 56 true).run Tryz.prog w = .ok (.tuple #[.pointer none, .bool false]) w := fun a w => by kernel_rfl
  have a5 : ∀ (a : Option Addr) (w : World), (Instr.typeAssert (.iface 62 (.pointer a)) 33 59 true).run Tryz.prog w = .ok (.tuple #[.pointer none, .bool false]) w := fun a w => by kernel_rfl
  have a6 : ∀ (a : Option Addr) (w : World), (Instr.typeAssert (.iface 62 (.pointer a)) 33 62 true).run Tryz.prog w = .ok (.tuple #[.pointer a, .bool true]) w := fun a w => by kernel_rfl
  go_enter Tryz.func19, Tryz.ntmps19
  go_wp2_with fail
  go_ret
  exact ⟨rfl, rfl⟩

set_option maxRecDepth 100000 in
set_option maxHeartbeats 2000000 in
theorem kindTyped (p : Option Addr) : KindOf (.iface 67 (.pointer p)) kTyped := by
  intro w
  have a0 : ∀ (a : Option Addr) (w : World), (Instr.typeAssert (.iface 67 (.pointer a)) 33 36 true).run Tryz.prog w = .ok (.tuple #[.pointer none, .bool false]) w := fun a w => by kernel_rfl
  have a1 : ∀ (a : Option Addr) (w : World), (Instr.typeAssert (.iface 67 (.pointer a)) 33 46 true).run Tryz.prog w = .ok (.tuple #[.pointer none, .bool false]) w := fun a w => by kernel_rfl
  have a2 : ∀ (a : Option Addr) (w : World), (Instr.typeAssert (.iface 67 (.pointer a)) 33 48 true).run Tryz.prog w = .ok (.tuple #[.pointer none, .bool false]) w := fun a w => by kernel_rfl
  have a3 : ∀ (a : Option Addr) (w : World), (Instr.typeAssert (.iface 67 (.pointer a)) 33 52 true).run Tryz.prog w = .ok (.tuple #[.pointer none, .bool false]) w := fun a w => by kernel_rfl
  have a4 : ∀ (a : Option Addr) (w : World), (Instr.typeAssert (.iface 67 (.pointer a)) 33 56 true).run Tryz.prog w = .ok (.tuple #[.pointer none, .bool false]) w := fun a w => by kernel_rfl
  have a5 : ∀ (a : Option Addr) (w : World), (Instr.typeAssert (.iface 67 (.pointer a)) 33 59 true).run Tryz.prog w = .ok (.tuple #[.pointer none, .bool false]) w := fun a w => by kernel_rfl
  have a6 : ∀ (a : Option Addr) (w : World), (Instr.typeAssert (.iface 67 (.pointer a)) 33 62 true).run Tryz.prog w = .ok (.tuple #[.pointer none, .bool false]) w := fun a w => by kernel_rfl
  have a7 : ∀ (a : Option Addr) (w : World), (Instr.typeAssert (.iface 67 (.pointer a)) 33 67 true).run Tryz.prog w = .ok (.tuple #[.pointer a, .bool true]) w := fun a w => by kernel_rfl
  go_enter Tryz.func19, Tryz.ntmps19
  go_wp2_with fail
  go_ret
  exact ⟨rfl, rfl⟩

set_option maxRecDepth 100000 in
set_option maxHeartbeats 2000000 in
theorem kindFunctionType (p : Option Addr) : KindOf (.iface 70 (.pointer p)) kFunctionType := by
  intro w
  have a0 : ∀ (a : Option Addr) (w : World), (Instr.typeAssert (.iface 70 (.pointer a)) 33 36 true).run Tryz.prog w = .ok (.tuple #[.pointer none, .bool false]) w := fun a w => by kernel_rfl
  have a1 : ∀ (a : Option Addr) (w : World), (Instr.typeAssert (.iface 70 (.pointer a)) 33 46 true).run Tryz.prog w = .ok (.tuple #[.pointer none, .bool false]) w := fun a w => by kernel_rfl
  have a2 : ∀ (a : Option Addr) (w : World), (Instr.typeAssert (.iface 70 (.pointer a)) 33 48 true).run Tryz.prog w = .ok (.tuple #[.pointer none, .bool false]) w := fun a w => by kernel_rfl
  have a3 : ∀ (a : Option Addr) (w : World), (Instr.typeAssert (.iface 70 (.pointer a)) 33 52 true).run Tryz.prog w = .ok (.tuple #[.pointer none, .bool false]) w := fun a w => by kernel_rfl
  have a4 : ∀ (a : Option Addr) (w : World), (Instr.typeAssert (.iface 70 (.pointer a)) 33 56 true).run Tryz.prog w = .ok (.tuple #[.pointer none, .bool false]) w := fun a w => by kernel_rfl
  have a5 : ∀ (a : Option Addr) (w : World), (Instr.typeAssert (.iface 70 (.pointer a)) 33 59 true).run Tryz.prog w = .ok (.tuple #[.pointer none, .bool false]) w := fun a w => by kernel_rfl
  have a6 : ∀ (a : Option Addr) (w : World), (Instr.typeAssert (.iface 70 (.pointer a)) 33 62 true).run Tryz.prog w = .ok (.tuple #[.pointer none, .bool false]) w := fun a w => by kernel_rfl
  have a7 : ∀ (a : Option Addr) (w : World), (Instr.typeAssert (.iface 70 (.pointer a)) 33 67 true).run Tryz.prog w = .ok (.tuple #[.pointer none, .bool false]) w := fun a w => by kernel_rfl
  have a8 : ∀ (a : Option Addr) (w : World), (Instr.typeAssert (.iface 70 (.pointer a)) 33 70 true).run Tryz.prog w = .ok (.tuple #[.pointer a, .bool true]) w := fun a w => by kernel_rfl
  go_enter Tryz.func19, Tryz.ntmps19
  go_wp2_with fail
  go_ret
  exact ⟨rfl, rfl⟩

set_option maxRecDepth 100000 in
set_option maxHeartbeats 2000000 in
theorem kindPointerType (p : Option Addr) : KindOf (.iface 73 (.pointer p)) kPointerType := by
  intro w
  have a0 : ∀ (a : Option Addr) (w : World), (Instr.typeAssert (.iface 73 (.pointer a)) 33 36 true).run Tryz.prog w = .ok (.tuple #[.pointer none, .bool false]) w := fun a w => by kernel_rfl
  have a1 : ∀ (a : Option Addr) (w : World), (Instr.typeAssert (.iface 73 (.pointer a)) 33 46 true).run Tryz.prog w = .ok (.tuple #[.pointer none, .bool false]) w := fun a w => by kernel_rfl
  have a2 : ∀ (a : Option Addr) (w : World), (Instr.typeAssert (.iface 73 (.pointer a)) 33 48 true).run Tryz.prog w = .ok (.tuple #[.pointer none, .bool false]) w := fun a w => by kernel_rfl
  have a3 : ∀ (a : Option Addr) (w : World), (Instr.typeAssert (.iface 73 (.pointer a)) 33 52 true).run Tryz.prog w = .ok (.tuple #[.pointer none, .bool false]) w := fun a w => by kernel_rfl
  have a4 : ∀ (a : Option Addr) (w : World), (Instr.typeAssert (.iface 73 (.pointer a)) 33 56 true).run Tryz.prog w = .ok (.tuple #[.pointer none, .bool false]) w := fun a w => by kernel_rfl
  have a5 : ∀ (a : Option Addr) (w : World), (Instr.typeAssert (.iface 73 (.pointer a)) 33 59 true).run Tryz.prog w = .ok (.tuple #[.pointer none, .bool false]) w := fun a w => by kernel_rfl
  have a6 : ∀ (a : Option Addr) (w : World), (Instr.typeAssert (.iface 73 (.pointer a)) 33 62 true).run Tryz.prog w = .ok (.tuple #[.pointer none, .bool false]) w := fun a w => by kernel_rfl
  have a7 : ∀ (a : Option Addr) (w : World), (Instr.typeAssert (.iface 73 (.pointer a)) 33 67 true).run Tryz.prog w = .ok (.tuple #[.pointer none, .bool false]) w := fun a w => by kernel_rfl
  have a8 : ∀ (a : Option Addr) (w : World), (Instr.typeAssert (.iface 73 (.pointer a)) 33 70 true).run Tryz.prog w = .ok (.tuple #[.pointer none, .bool false]) w := fun a w => by kernel_rfl
  have a9 : ∀ (a : Option Addr) (w : World), (Instr.typeAssert (.iface 73 (.pointer a)) 33 73 true).run Tryz.prog w = .ok (.tuple #[.pointer a, .bool true]) w := fun a w => by kernel_rfl
  go_enter Tryz.func19, Tryz.ntmps19
  go_wp2_with fail
  go_ret
  exact ⟨rfl, rfl⟩

set_option maxRecDepth 100000 in
set_option maxHeartbeats 2000000 in
theorem kindReferenceType (p : Option Addr) : KindOf (.iface 76 (.pointer p)) kReferenceType := by
  intro w
  have a0 : ∀ (a : Option Addr) (w : World), (Instr.typeAssert (.iface 76 (.pointer a)) 33 36 true).run Tryz.prog w = .ok (.tuple #[.pointer none, .bool false]) w := fun a w => by kernel_rfl
  have a1 : ∀ (a : Option Addr) (w : World), (Instr.typeAssert (.iface 76 (.pointer a)) 33 46 true).run Tryz.prog w = .ok (.tuple #[.pointer none, .bool false]) w := fun a w => by kernel_rfl
  have a2 : ∀ (a : Option Addr) (w : World), (Instr.typeAssert (.iface 76 (.pointer a)) 33 48 true).run Tryz.prog w = .ok (.tuple #[.pointer none, .bool false]) w := fun a w => by kernel_rfl
  have a3 : ∀ (a : Option Addr) (w : World), (Instr.typeAssert (.iface 76 (.pointer a)) 33 52 true).run Tryz.prog w = .ok (.tuple #[.pointer none, .bool false]) w := fun a w => by kernel_rfl
  have a4 : ∀ (a : Option Addr) (w : World), (Instr.typeAssert (.iface 76 (.pointer a)) 33 56 true).run Tryz.prog w = .ok (.tuple #[.pointer none, .bool false]) w := fun a w => by kernel_rfl
  have a5 : ∀ (a : Option Addr) (w : World), (Instr.typeAssert (.iface 76 (.pointer a)) 33 59 true).run Tryz.prog w = .ok (.tuple #[.pointer none, .bool false]) w := fun a w => by kernel_rfl
  have a6 : ∀ (a : Option Addr) (w : World), (Instr.typeAssert (.iface 76 (.pointer a)) 33 62 true).run Tryz.prog w = .ok (.tuple #[.pointer none, .bool false]) w := fun a w => by kernel_rfl
  have a7 : ∀ (a : Option Addr) (w : World), (Instr.typeAssert (.iface 76 (.pointer a)) 33 67 true).run Tryz.prog w = .ok (.tuple #[.pointer none, .bool false]) w := fun a w => by kernel_rfl
  have a8 : ∀ (a : Option Addr) (w : World), (Instr.typeAssert (.iface 76 (.pointer a)) 33 70 true).run Tryz.prog w = .ok (.tuple #[.pointer none, .bool false]) w := fun a w => by kernel_rfl
  have a9 : ∀ (a : Option Addr) (w : World), (Instr.typeAssert (.iface 76 (.pointer a)) 33 73 true).run Tryz.prog w = .ok (.tuple #[.pointer none, .bool false]) w := fun a w => by kernel_rfl
  have a10 : ∀ (a : Option Addr) (w : World), (Instr.typeAssert (.iface 76 (.pointer a)) 33 76 true).run Tryz.prog w = .ok (.tuple #[.pointer a, .bool true]) w := fun a w => by kernel_rfl
  go_enter Tryz.func19, Tryz.ntmps19
  go_wp2_with fail
  go_ret
  exact ⟨rfl, rfl⟩

set_option maxRecDepth 100000 in
set_option maxHeartbeats 2000000 in
theorem kindRvalueReferenceType (p : Option Addr) : KindOf (.iface 78 (.pointer p)) kRvalueReferenceType := by
  intro w
  have a0 : ∀ (a : Option Addr) (w : World), (Instr.typeAssert (.iface 78 (.pointer a)) 33 36 true).run Tryz.prog w = .ok (.tuple #[.pointer none, .bool false]) w := fun a w => by kernel_rfl
  have a1 : ∀ (a : Option Addr) (w : World), (Instr.typeAssert (.iface 78 (.pointer a)) 33 46 true).run Tryz.prog w = .ok (.tuple #[.pointer none, .bool false]) w := fun a w => by kernel_rfl
  have a2 : ∀ (a : Option Addr) (w : World), (Instr.typeAssert (.iface 78 (.pointer a)) 33 48 true).run Tryz.prog w = .ok (.tuple #[.pointer none, .bool false]) w := fun a w => by kernel_rfl
  have a3 : ∀ (a : Option Addr) (w : World), (Instr.typeAssert (.iface 78 (.pointer a)) 33 52 true).run Tryz.prog w = .ok (.tuple #[.pointer none, .bool false]) w := fun a w => by kernel_rfl
  have a4 : ∀ (a : Option Addr) (w : World), (Instr.typeAssert (.iface 78 (.pointer a)) 33 56 true).run Tryz.prog w = .ok (.tuple #[.pointer none, .bool false]) w := fun a w => by kernel_rfl
  have a5 : ∀ (a : Option Addr) (w : World), (Instr.typeAssert (.iface 78 (.pointer a)) 33 59 true).run Tryz.prog w = .ok (.tuple #[.pointer none, .bool false]) w := fun a w => by kernel_rfl
  have a6 : ∀ (a : Option Addr) (w : World), (Instr.typeAssert (.iface 78 (.pointer a)) 33 62 true).run Tryz.prog w = .ok (.tuple #[.pointer none, .bool false]) w := fun a w => by kernel_rfl
  have a7 : ∀ (a : Option Addr) (w : World), (Instr.typeAssert (.iface 78 (.pointer a)) 33 67 true).run Tryz.prog w = .ok (.tuple #[.pointer none, .bool false]) w := fun a w => by kernel_rfl
  have a8 : ∀ (a : Option Addr) (w : World), (Instr.typeAssert (.iface 78 (.pointer a)) 33 70 true).run Tryz.prog w = .ok (.tuple #[.pointer none, .bool false]) w := fun a w => by kernel_rfl
  have a9 : ∀ (a : Option Addr) (w : World), (Instr.typeAssert (.iface 78 (.pointer a)) 33 73 true).run Tryz.prog w = .ok (.tuple #[.pointer none, .bool false]) w := fun a w => by kernel_rfl
  have a10 : ∀ (a : Option Addr) (w : World), (Instr.typeAssert (.iface 78 (.pointer a)) 33 76 true).run Tryz.prog w = .ok (.tuple #[.pointer none, .bool false]) w := fun a w => by kernel_rfl
  have a11 : ∀ (a : Option Addr) (w : World), (Instr.typeAssert (.iface 78 (.pointer a)) 33 78 true).run Tryz.prog w = .ok (.tuple #[.pointer a, .bool true]) w := fun a w => by kernel_rfl
  go_enter Tryz.func19, Tryz.ntmps19
  go_wp2_with fail
  go_ret
  exact ⟨rfl, rfl⟩

set_option maxRecDepth 100000 in
set_option maxHeartbeats 2000000 in
theorem kindComplexType (p : Option Addr) : KindOf (.iface 80 (.pointer p)) kComplexType := by
  intro w
  have a0 : ∀ (a : Option Addr) (w : World), (Instr.typeAssert (.iface 80 (.pointer a)) 33 36 true).run Tryz.prog w = .ok (.tuple #[.pointer none, .bool false]) w := fun a w => by kernel_rfl
  have a1 : ∀ (a : Option Addr) (w : World), (Instr.typeAssert (.iface 80 (.pointer a)) 33 46 true).run Tryz.prog w = .ok (.tuple #[.pointer none, .bool false]) w := fun a w => by kernel_rfl
  have a2 : ∀ (a : Option Addr) (w : World), (Instr.typeAssert (.iface 80 (.pointer a)) 33 48 true).run Tryz.prog w = .ok (.tuple #[.pointer none, .bool false]) w := fun a w => by kernel_rfl
  have a3 : ∀ (a : Option Addr) (w : World), (Instr.typeAssert (.iface 80 (.pointer a)) 33 52 true).run Tryz.prog w = .ok (.tuple #[.pointer none, .bool false]) w := fun a w => by kernel_rfl
  have a4 : ∀ (a : Option Addr) (w : World), (Instr.typeAssert (.iface 80 (.pointer a)) 33 56 true).run Tryz.prog w = .ok (.tuple #[.pointer none, .bool false]) w := fun a w => by kernel_rfl
  have a5 : ∀ (a : Option Addr) (w : World), (Instr.typeAssert (.iface 80 (.pointer a)) 33 59 true).run Tryz.prog w = .ok (.tuple #[.pointer none, .bool false]) w := fun a w => by kernel_rfl
  have a6 : ∀ (a : Option Addr) (w : World), (Instr.typeAssert (.iface 80 (.pointer a)) 33 62 true).run Tryz.prog w = .ok (.tuple #[.pointer none, .bool false]) w := fun a w => by kernel_rfl
  have a7 : ∀ (a : Option Addr) (w : World), (Instr.typeAssert (.iface 80 (.pointer a)) 33 67 true).run Tryz.prog w = .ok (.tuple #[.pointer none, .bool false]) w := fun a w => by kernel_rfl
  have a8 : ∀ (a : Option Addr) (w : World), (Instr.typeAssert (.iface 80 (.pointer a)) 33 70 true).run Tryz.prog w = .ok (.tuple #[.pointer none, .bool false]) w := fun a w => by kernel_rfl
  have a9 : ∀ (a : Option Addr) (w : World), (Instr.typeAssert (.iface 80 (.pointer a)) 33 73 true).run Tryz.prog w = .ok (.tuple #[.pointer none, .bool false]) w := fun a w => by kernel_rfl
  have a10 : ∀ (a : Option Addr) (w : World), (Instr.typeAssert (.iface 80 (.pointer a)) 33 76 true).run Tryz.prog w = .ok (.tuple #[.pointer none, .bool false]) w := fun a w => by kernel_rfl
  have a11 : ∀ (a : Option Addr) (w : World), (Instr.typeAssert (.iface 80 (.pointer a)) 33 78 true).run Tryz.prog w = .ok (.tuple #[.pointer none, .bool false]) w := fun a w => by kernel_rfl
  have a12 : ∀ (a : Option Addr) (w : World), (Instr.typeAssert (.iface 80 (.pointer a)) 33 80 true).run Tryz.prog w = .ok (.tuple #[.pointer a, .bool true]) w := fun a w => by kernel_rfl
  go_enter Tryz.func19, Tryz.ntmps19
  go_wp2_with fail
  go_ret
  exact ⟨rfl, rfl⟩

set_option maxRecDepth 100000 in
set_option maxHeartbeats 2000000 in
theorem kindImaginaryType (p : Option Addr) : KindOf (.iface 82 (.pointer p)) kImaginaryType := by
  intro w
  have a0 : ∀ (a : Option Addr) (w : World), (Instr.typeAssert (.iface 82 (.pointer a)) 33 36 true).run Tryz.prog w = .ok (.tuple #[.pointer none, .bool false]) w := fun a w => by kernel_rfl
  have a1 : ∀ (a : Option Addr) (w : World), (Instr.typeAssert (.iface 82 (.pointer a)) 33 46 true).run Tryz.prog w = .ok (.tuple #[.pointer none, .bool false]) w := fun a w => by kernel_rfl
  have a2 : ∀ (a : Option Addr) (w : World), (Instr.typeAssert (.iface 82 (.pointer a)) 33 48 true).run Tryz.prog w = .ok (.tuple #[.pointer none, .bool false]) w := fun a w => by kernel_rfl
  have a3 : ∀ (a : Option Addr) (w : World), (Instr.typeAssert (.iface 82 (.pointer a)) 33 52 true).run Tryz.prog w = .ok (.tuple #[.pointer none, .bool false]) w := fun a w => by kernel_rfl
  have a4 : ∀ (a : Option Addr) (w : World), (Instr.typeAssert (.iface 82 (.pointer a)) 33 56 true).run Tryz.prog w = .ok (.tuple #[.pointer none, .bool false]) w := fun a w => by kernel_rfl
  have a5 : ∀ (a : Option Addr) (w : World), (Instr.typeAssert (.iface 82 (.pointer a)) 33 59 true).run Tryz.prog w = .ok (.tuple #[.pointer none, .bool false]) w := fun a w => by kernel_rfl
  have a6 : ∀ (a : Option Addr) (w : World), (Instr.typeAssert (.iface 82 (.pointer a)) 33 62 true).run Tryz.prog w = .ok (.tuple #[.pointer none, .bool false]) w := fun a w => by kernel_rfl
  have a7 : ∀ (a : Option Addr) (w : World), (Instr.typeAssert (.iface 82 (.pointer a)) 33 67 true).run Tryz.prog w = .ok (.tuple #[.pointer none, .bool false]) w := fun a w => by kernel_rfl
  have a8 : ∀ (a : Option Addr) (w : World), (Instr.typeAssert (.iface 82 (.pointer a)) 33 70 true).run Tryz.prog w = .ok (.tuple #[.pointer none, .bool false]) w := fun a w => by kernel_rfl
  have a9 : ∀ (a : Option Addr) (w : World), (Instr.typeAssert (.iface 82 (.pointer a)) 33 73 true).run Tryz.prog w = .ok (.tuple #[.pointer none, .bool false]) w := fun a w => by kernel_rfl
  have a10 : ∀ (a : Option Addr) (w : World), (Instr.typeAssert (.iface 82 (.pointer a)) 33 76 true).run Tryz.prog w = .ok (.tuple #[.pointer none, .bool false]) w := fun a w => by kernel_rfl
  have a11 : ∀ (a : Option Addr) (w : World), (Instr.typeAssert (.iface 82 (.pointer a)) 33 78 true).run Tryz.prog w = .ok (.tuple #[.pointer none, .bool false]) w := fun a w => by kernel_rfl
  have a12 : ∀ (a : Option Addr) (w : World), (Instr.typeAssert (.iface 82 (.pointer a)) 33 80 true).run Tryz.prog w = .ok (.tuple #[.pointer none, .bool false]) w := fun a w => by kernel_rfl
  have a13 : ∀ (a : Option Addr) (w : World), (Instr.typeAssert (.iface 82 (.pointer a)) 33 82 true).run Tryz.prog w = .ok (.tuple #[.pointer a, .bool true]) w := fun a w => by kernel_rfl
  go_enter Tryz.func19, Tryz.ntmps19
  go_wp2_with fail
  go_ret
  exact ⟨rfl, rfl⟩

set_option maxRecDepth 100000 in
set_option maxHeartbeats 2000000 in
theorem kindTypeWithQualifiers (p : Option Addr) : KindOf (.iface 84 (.pointer p)) kTypeWithQualifiers := by
  intro w
  have a0 : ∀ (a : Option Addr) (w : World), (Instr.typeAssert (.iface 84 (.pointer a)) 33 36 true).run Tryz.prog w = .ok (.tuple #[.pointer none, .bool false]) w := fun a w => by kernel_rfl
  have a1 : ∀ (a : Option Addr) (w : World), (Instr.typeAssert (.iface 84 (.pointer a)) 33 46 true).run Tryz.prog w = .ok (.tuple #[.pointer none, .bool false]) w := fun a w => by kernel_rfl
  have a2 : ∀ (a : Option Addr) (w : World), (Instr.typeAssert (.iface 84 (.pointer a)) 33 48 true).run Tryz.prog w = .ok (.tuple #[.pointer none, .bool false]) w := fun a w => by kernel_rfl
  have a3 : ∀ (a : Option Addr) (w : World), (Instr.typeAssert (.iface 84 (.pointer a)) 33 52 true).run Tryz.prog w = .ok (.tuple #[.pointer none, .bool false]) w := fun a w => by kernel_rfl
  have a4 : ∀ (a : Option Addr) (w : World), (Instr.typeAssert (.iface 84 (.pointer a)) 33 56 true).run Tryz.prog w = .ok (.tuple #[.pointer none, .bool false]) w := fun a w => by kernel_rfl
  have a5 : ∀ (a : Option Addr) (w : World), (Instr.typeAssert (.iface 84 (.pointer a)) 33 59 true).run Tryz.prog w = .ok (.tuple #[.pointer none, .bool false]) w := fun a w => by kernel_rfl
  have a6 : ∀ (a : Option Addr) (w : World), (Instr.typeAssert (.iface 84 (.pointer a)) 33 62 true).run Tryz.prog w = .ok (.tuple #[.pointer none, .bool false]) w := fun a w => by kernel_rfl
  have a7 : ∀ (a : Option Addr) (w : World), (Instr.typeAssert (.iface 84 (.pointer a)) 33 67 true).run Tryz.prog w = .ok (.tuple #[.pointer none, .bool false]) w := fun a w => by kernel_rfl
  have a8 : ∀ (a : Option Addr) (w : World), (Instr.typeAssert (.iface 84 (.pointer a)) 33 70 true).run Tryz.prog w = .ok (.tuple #[.pointer none, .bool false]) w := fun a w => by kernel_rfl
  have a9 : ∀ (a : Option Addr) (w : World), (Instr.typeAssert (.iface 84 (.pointer a)) 33 73 true).run Tryz.prog w = .ok (.tuple #[.pointer none, .bool false]) w := fun a w => by kernel_rfl
  have a10 : ∀ (a : Option Addr) (w : World), (Instr.typeAssert (.iface 84 (.pointer a)) 33 76 true).run Tryz.prog w = .ok (.tuple #[.pointer none, .bool false]) w := fun a w => by kernel_rfl
  have a11 : ∀ (a : Option Addr) (w : World), (Instr.typeAssert (.iface 84 (.pointer a)) 33 78 true).run Tryz.prog w = .ok (.tuple #[.pointer none, .bool false]) w := fun a w => by kernel_rfl
  have a12 : ∀ (a : Option Addr) (w : World), (Instr.typeAssert (.iface 84 (.pointer a)) 33 80 true).run Tryz.prog w = .ok (.tuple #[.pointer none, .bool false]) w := fun a w => by kernel_rfl
  have a13 : ∀ (a : Option Addr) (w : World), (Instr.typeAssert (.iface 84 (.pointer a)) 33 82 true).run Tryz.prog w = .ok (.tuple #[.pointer none, .bool false]) w := fun a w => by kernel_rfl
  have a14 : ∀ (a : Option Addr) (w : World), (Instr.typeAssert (.iface 84 (.pointer a)) 33 84 true).run Tryz.prog w = .ok (.tuple #[.pointer a, .bool true]) w := fun a w => by kernel_rfl
  go_enter Tryz.func19, Tryz.ntmps19
  go_wp2_with fail
  go_ret
  exact ⟨rfl, rfl⟩

set_option maxRecDepth 100000 in
set_option maxHeartbeats 2000000 in
theorem kindQualifiers (p : Option Addr) : KindOf (.iface 87 (.pointer p)) kQualifiers := by
  intro w
  have a0 : ∀ (a : Option Addr) (w : World), (Instr.typeAssert (.iface 87 (.pointer a)) 33 36 true).run Tryz.prog w = .ok (.tuple #[.pointer none, .bool false]) w := fun a w => by kernel_rfl
  have a1 : ∀ (a : Option Addr) (w : World), (Instr.typeAssert (.iface 87 (.pointer a)) 33 46 true).run Tryz.prog w = .ok (.tuple #[.pointer none, .bool false]) w := fun a w => by kernel_rfl
  have a2 : ∀ (a : Option Addr) (w : World), (Instr.typeAssert (.iface 87 (.pointer a)) 33 48 true).run Tryz.prog w = .ok (.tuple #[.pointer none, .bool false]) w := fun a w => by kernel_rfl
  have a3 : ∀ (a : Option Addr) (w : World), (Instr.typeAssert (.iface 87 (.pointer a)) 33 52 true).run Tryz.prog w = .ok (.tuple #[.pointer none, .bool false]) w := fun a w => by kernel_rfl
  have a4 : ∀ (a : Option Addr) (w : World), (Instr.typeAssert (.iface 87 (.pointer a)) 33 56 true).run Tryz.prog w = .ok (.tuple #[.pointer none, .bool false]) w := fun a w => by kernel_rfl
  have a5 : ∀ (a : Option Addr) (w : World), (Instr.typeAssert (.iface 87 (.pointer a)) 33 59 true).run Tryz.prog w = .ok (.tuple #[.pointer none, .bool false]) w := fun a w => by kernel_rfl
  have a6 : ∀ (a : Option Addr) (w : World), (Instr.typeAssert (.iface 87 (.pointer a)) 33 62 true).run Tryz.prog w = .ok (.tuple #[.pointer none, .bool false]) w := fun a w => by kernel_rfl
  have a7 : ∀ (a : Option Addr) (w : World), (Instr.typeAssert (.iface 87 (.pointer a)) 33 67 true).run Tryz.prog w = .ok (.tuple #[.pointer none, .bool false]) w := fun a w => by kernel_rfl
  have a8 : ∀ (a : Option Addr) (w : World), (Instr.typeAssert (.iface 87 (.pointer a)) 33 70 true).run Tryz.prog w = .ok (.tuple #[.pointer none, .bool false]) w := fun a w => by kernel_rfl
  have a9 : ∀ (a : Option Addr) (w : World), (Instr.typeAssert (.iface 87 (.pointer a)) 33 73 true).run Tryz.prog w = .ok (.tuple #[.pointer none, .bool false]) w := fun a w => by kernel_rfl
  have a10 : ∀ (a : Option Addr) (w : World), (Instr.typeAssert (.iface 87 (.pointer a)) 33 76 true).run Tryz.prog w = .ok (.tuple #[.pointer none, .bool false]) w := fun a w => by kernel_rfl
  have a11 : ∀ (a : Option Addr) (w : World), (Instr.typeAssert (.iface 87 (.pointer a)) 33 78 true).run Tryz.prog w = .ok (.tuple #[.pointer none, .bool false]) w := fun a w => by kernel_rfl
  have a12 : ∀ (a : Option Addr) (w : World), (Instr.typeAssert (.iface 87 (.pointer a)) 33 80 true).run Tryz.prog w = .ok (.tuple #[.pointer none, .bool false]) w := fun a w => by kernel_rfl
  have a13 : ∀ (a : Option Addr) (w : World), (Instr.typeAssert (.iface 87 (.pointer a)) 33 82 true).run Tryz.prog w = .ok (.tuple #[.pointer none, .bool false]) w := fun a w => by kernel_rfl
  have a14 : ∀ (a : Option Addr) (w : World), (Instr.typeAssert (.iface 87 (.pointer a)) 33 84 true).run Tryz.prog w = .ok (.tuple #[.pointer none, .bool false]) w := fun a w => by kernel_rfl
  have a15 : ∀ (a : Option Addr) (w : World), (Instr.typeAssert (.iface 87 (.pointer a)) 33 87 true).run Tryz.prog w = .ok (.tuple #[.pointer a, .bool true]) w := fun a w => by kernel_rfl
  go_enter Tryz.func19, Tryz.ntmps19
  go_wp2_with fail
  go_ret
  exact ⟨rfl, rfl⟩

set_option maxRecDepth 100000 in
set_option maxHeartbeats 2000000 in
theorem kindQualifier (p : Option Addr) : KindOf (.iface 90 (.pointer p)) kQualifier := by
  intro w
  have a0 : ∀ (a : Option Addr) (w : World), (Instr.typeAssert (.iface 90 (.pointer a)) 33 36 true).run Tryz.prog w = .ok (.tuple #[.pointer none, .bool false]) w := fun a w => by kernel_rfl
  have a1 : ∀ (a : Option Addr) (w : World), (Instr.typeAssert (.iface 90 (.pointer a)) 33 46 true).run Tryz.prog w = .ok (.tuple #[.pointer none, .bool false]) w := fun a w => by kernel_rfl
  have a2 : ∀ (a : Option Addr) (w : World), (Instr.typeAssert (.iface 90 (.pointer a)) 33 48 true).run Tryz.prog w = .ok (.tuple #[.pointer none, .bool false]) w := fun a w => by kernel_rfl
  have a3 : ∀ (a : Option Addr) (w : World), (Instr.typeAssert (.iface 90 (.pointer a)) 33 52 true).run Tryz.prog w = .ok (.tuple #[.pointer none, .bool false]) w := fun a w => by kernel_rfl
  have a4 : ∀ (a : Option Addr) (w : World), (Instr.typeAssert (.iface 90 (.pointer a)) 33 56 true).run Tryz.prog w = .ok (.tuple #[.pointer none, .bool false]) w := fun a w => by kernel_rfl
  have a5 : ∀ (a : Option Addr) (w : World), (Instr.typeAssert (.iface 90 (.pointer a)) 33 59 true).run Tryz.prog w = .ok (.tuple #[.pointer none, .bool false]) w := fun a w => by kernel_rfl
  have a6 : ∀ (a : Option Addr) (w : World), (Instr.typeAssert (.iface 90 (.pointer a)) 33 62 true).run Tryz.prog w = .ok (.tuple #[.pointer none, .bool false]) w := fun a w => by kernel_rfl
  have a7 : ∀ (a : Option Addr) (w : World), (Instr.typeAssert (.iface 90 (.pointer a)) 33 67 true).run Tryz.prog w = .ok (.tuple #[.pointer none, .bool false]) w := fun a w => by kernel_rfl
  have a8 : ∀ (a : Option Addr) (w : World), (Instr.typeAssert (.iface 90 (.pointer a)) 33 70 true).run Tryz.prog w = .ok (.tuple #[.pointer none, .bool false]) w := fun a w => by kernel_rfl
  have a9 : ∀ (a : Option Addr) (w : World), (Instr.typeAssert (.iface 90 (.pointer a)) 33 73 true).run Tryz.prog w = .ok (.tuple #[.pointer none, .bool false]) w := fun a w => by kernel_rfl
  have a10 : ∀ (a : Option Addr) (w : World), (Instr.typeAssert (.iface 90 (.pointer a)) 33 76 true).run Tryz.prog w = .ok (.tuple #[.pointer none, .bool false]) w := fun a w => by kernel_rfl
  have a11 : ∀ (a : Option Addr) (w : World), (Instr.typeAssert (.iface 90 (.pointer a)) 33 78 true).run Tryz.prog w = .ok (.tuple #[.pointer none, .bool false]) w := fun a w => by kernel_rfl
  have a12 : ∀ (a : Option Addr) (w : World), (Instr.typeAssert (.iface 90 (.pointer a)) 33 80 true).run Tryz.prog w = .ok (.tuple #[.pointer none, .bool false]) w := fun a w => by kernel_rfl
  have a13 : ∀ (a : Option Addr) (w : World), (Instr.typeAssert (.iface 90 (.pointer a)) 33 82 true).run Tryz.prog w = .ok (.tuple #[.pointer none, .bool false]) w := fun a w => by kernel_rfl
  have a14 : ∀ (a : Option Addr) (w : World), (Instr.typeAssert (.iface 90 (.pointer a)) 33 84 true).run Tryz.prog w = .ok (.tuple #[.pointer none, .bool false]) w := fun a w => by kernel_rfl
  have a15 : ∀ (a : Option Addr) (w : World), (Instr.typeAssert (.iface 90 (.pointer a)) 33 87 true).run Tryz.prog w = .ok (.tuple #[.pointer none, .bool false]) w := fun a w => by kernel_rfl
  have a16 : ∀ (a : Option Addr) (w : World), (Instr.typeAssert (.iface 90 (.pointer a)) 33 90 true).run Tryz.prog w = .ok (.tuple #[.pointer a, .bool true]) w := fun a w => by kernel_rfl
  go_enter Tryz.func19, Tryz.ntmps19
  go_wp2_with fail
  go_ret
  exact ⟨rfl, rfl⟩

set_option maxRecDepth 100000 in
set_option maxHeartbeats 2000000 in
theorem kindMethodWithQualifiers (p : Option Addr) : KindOf (.iface 93 (.pointer p)) kMethodWithQualifiers := by
  intro w
  have a0 : ∀ (a : Option Addr) (w : World), (Instr.typeAssert (.iface 93 (.pointer a)) 33 36 true).run Tryz.prog w = .ok (.tuple #[.pointer none, .bool false]) w := fun a w => by kernel_rfl
  have a1 : ∀ (a : Option Addr) (w : World), (Instr.typeAssert (.iface 93 (.pointer a)) 33 46 true).run Tryz.prog w = .ok (.tuple #[.pointer none, .bool false]) w := fun a w => by kernel_rfl
  have a2 : ∀ (a : Option Addr) (w : World), (Instr.typeAssert (.iface 93 (.pointer a)) 33 48 true).run Tryz.prog w = .ok (.tuple #[.pointer none, .bool false]) w := fun a w => by kernel_rfl
  have a3 : ∀ (a : Option Addr) (w : World), (Instr.typeAssert (.iface 93 (.pointer a)) 33 52 true).run Tryz.prog w = .ok (.tuple #[.pointer none, .bool false]) w := fun a w => by kernel_rfl
  have a4 : ∀ (a : Option Addr) (w : World), (Instr.typeAssert (.iface 93 (.pointer a)) 33 56 true).run Tryz.prog w = .ok (.tuple #[.pointer none, .bool false]) w := fun a w => by kernel_rfl
  have a5 : ∀ (a : Option Addr) (w : World), (Instr.typeAssert (.iface 93 (.pointer a)) 33 59 true).run Tryz.prog w = .ok (.tuple #[.pointer none, .bool false]) w := fun a w => by kernel_rfl
  have a6 : ∀ (a : Option Addr) (w : World), (Instr.typeAssert (.iface 93 (.pointer a)) 33 62 true).run Tryz.prog w = .ok (.tuple #[.pointer none, .bool false]) w := fun a w => by kernel_rfl
  have a7 : ∀ (a : Option Addr) (w : World), (Instr.typeAssert (.iface 93 (.pointer a)) 33 67 true).run Tryz.prog w = .ok (.tuple #[.pointer none, .bool false]) w := fun a w => by kernel_rfl
  have a8 : ∀ (a : Option Addr) (w : World), (Instr.typeAssert (.iface 93 (.pointer a)) 33 70 true).run Tryz.prog w = .ok (.tuple #[.pointer none, .bool false]) w := fun a w => by kernel_rfl
  have a9 : ∀ (a : Option Addr) (w : World), (Instr.typeAssert (.iface 93 (.pointer a)) 33 73 true).run Tryz.prog w = .ok (.tuple #[.pointer none, .bool false]) w := fun a w => by kernel_rfl
  have a10 : ∀ (a : Option Addr) (w : World), (Instr.typeAssert (.iface 93 (.pointer a)) 33 76 true).run Tryz.prog w = .ok (.tuple #[.pointer none, .bool false]) w := fun a w => by kernel_rfl
  have a11 : ∀ (a : Option Addr) (w : World), (Instr.typeAssert (.iface 93 (.pointer a)) 33 78 true).run Tryz.prog w = .ok (.tuple #[.pointer none, .bool false]) w := fun a w => by kernel_rfl
  have a12 : ∀ (a : Option Addr) (w : World), (Instr.typeAssert (.iface 93 (.pointer a)) 33 80 true).run Tryz.prog w = .ok (.tuple #[.pointer none, .bool false]) w := fun a w => by kernel_rfl
  have a13 : ∀ (a : Option Addr) (w : World), (Instr.typeAssert (.iface 93 (.pointer a)) 33 82 true).run Tryz.prog w = .ok (.tuple #[.pointer none, .bool false]) w := fun a w => by kernel_rfl
  have a14 : ∀ (a : Option Addr) (w : World), (Instr.typeAssert (.iface 93 (.pointer a)) 33 84 true).run Tryz.prog w = .ok (.tuple #[.pointer none, .bool false]) w := fun a w => by kernel_rfl
  have a15 : ∀ (a : Option Addr) (w : World), (Instr.typeAssert (.iface 93 (.pointer a)) 33 87 true).run Tryz.prog w = .ok (.tuple #[.pointer none, .bool false]) w := fun a w => by kernel_rfl
  have a16 : ∀ (a : Option Addr) (w : World), (Instr.typeAssert (.iface 93 (.pointer a)) 33 90 true).run Tryz.prog w = .ok (.tuple #[.pointer none, .bool false]) w := fun a w => by kernel_rfl
  have a17 : ∀ (a : Option Addr) (w : World), (Instr.typeAssert (.iface 93 (.pointer a)) 33 93 true).run Tryz.prog w = .ok (.tuple #[.pointer a, .bool true]) w := fun a w => by kernel_rfl
  go_enter Tryz.func19, Tryz.ntmps19
  go_wp2_with fail
  go_ret
  exact ⟨rfl, rfl⟩

set_option maxRecDepth 100000 in
set_option maxHeartbeats 2000000 in
theorem kindMoreArrayType (p : Option Addr) (w : World) : Calls Tryz.prog 36 #[.iface 101 (.pointer p)] w fun e w' => e = .returned (.string kArrayType) ∧ w = w' := by
  have a0 : ∀ (a : Option Addr) (w : World), (Instr.typeAssert (.iface 101 (.pointer a)) 33 101 true).run Tryz.prog w = .ok (.tuple #[.pointer a, .bool true]) w := fun a w => by kernel_rfl
  go_enter Tryz.func36, Tryz.ntmps36
  go_wp2_with fail
  go_ret
  exact ⟨rfl, rfl⟩

set_option maxRecDepth 100000 in
set_option maxHeartbeats 2000000 in
theorem kindArrayType (p : Option Addr) : KindOf (.iface 101 (.pointer p)) kArrayType := by
  intro w
  have a0 : ∀ (a : Option Addr) (w : World), (Instr.typeAssert (.iface 101 (.pointer a)) 33 36 true).run Tryz.prog w = .ok (.tuple #[.pointer none, .bool false]) w := fun a w => by kernel_rfl
  have a1 : ∀ (a : Option Addr) (w : World), (Instr.typeAssert (.iface 101 (.pointer a)) 33 46 true).run Tryz.prog w = .ok (.tuple #[.pointer none, .bool false]) w := fun a w => by kernel_rfl
  have a2 : ∀ (a : Option Addr) (w : World), (Instr.typeAssert (.iface 101 (.pointer a)) 33 48 true).run Tryz.prog w = .ok (.tuple #[.pointer none, .bool false]) w := fun a w => by kernel_rfl
  have a3 : ∀ (a : Option Addr) (w : World), (Instr.typeAssert (.iface 101 (.pointer a)) 33 52 true).run Tryz.prog w = .ok (.tuple #[.pointer none, .bool false]) w := fun a w => by kernel_rfl
  have a4 : ∀ (a : Option Addr) (w : World), (Instr.typeAssert (.iface 101 (.pointer a)) 33 56 true).run Tryz.prog w = .ok (.tuple #[.pointer none, .bool false]) w := fun a w => by kernel_rfl
  have a5 : ∀ (a : Option Addr) (w : World), (Instr.typeAssert (.iface 101 (.pointer a)) 33 59 true).run Tryz.prog w = .ok (.tuple #[.pointer none, .bool false]) w := fun a w => by kernel_rfl
  have a6 : ∀ (a : Option Addr) (w : World), (Instr.typeAssert (.iface 101 (.pointer a)) 33 62 true).run Tryz.prog w = .ok (.tuple #[.pointer none, .bool false]) w := fun a w => by kernel_rfl
  have a7 : ∀ (a : Option Addr) (w : World), (Instr.typeAssert (.iface 101 (.pointer a)) 33 67 true).run Tryz.prog w = .ok (.tuple #[.pointer none, .bool false]) w := fun a w => by kernel_rfl
  have a8 : ∀ (a : Option Addr) (w : World), (Instr.typeAssert (.iface 101 (.pointer a)) 33 70 true).run Tryz.prog w = .ok (.tuple #[.pointer none, .bool false]) w := fun a w => by kernel_rfl
  have a9 : ∀ (a : Option Addr) (w : World), (Instr.typeAssert (.iface 101 (.pointer a)) 33 73 true).run Tryz.prog w = .ok (.tuple #[.pointer none, .bool false]) w := fun a w => by kernel_rfl
  have a10 : ∀ (a : Option Addr) (w : World), (Instr.typeAssert (.iface 101 (.pointer a)) 33 76 true).run Tryz.prog w = .ok (.tuple #[.pointer none, .bool false]) w := fun a w => by kernel_rfl
  have a11 : ∀ (a : Option Addr) (w : World), (Instr.typeAssert (.iface 101 (.pointer a)) 33 78 true).run Tryz.prog w = .ok (.tuple #[.pointer none, .bool false]) w := fun a w => by kernel_rfl
  have a12 : ∀ (a : Option Addr) (w : World), (Instr.typeAssert (.iface 101 (.pointer a)) 33 80 true).run Tryz.prog w = .ok (.tuple #[.pointer none, .bool false]) w := fun a w => by kernel_rfl
  have a13 : ∀ (a : Option Addr) (w : World), (Instr.typeAssert (.iface 101 (.pointer a)) 33 82 true).run Tryz.prog w = .ok (.tuple #[.pointer none, .bool false]) w := fun a w => by kernel_rfl
  have a14 : ∀ (a : Option Addr) (w : World), (Instr.typeAssert (.iface 101 (.pointer a)) 33 84 true).run Tryz.prog w = .ok (.tuple #[.pointer none, .bool false]) w := fun a w => by kernel_rfl
  have a15 : ∀ (a : Option Addr) (w : World), (Instr.typeAssert (.iface 101 (.pointer a)) 33 87 true).run Tryz.prog w = .ok (.tuple #[.pointer none, .bool false]) w := fun a w => by kernel_rfl
  have a16 : ∀ (a : Option Addr) (w : World), (Instr.typeAssert (.iface 101 (.pointer a)) 33 90 true).run Tryz.prog w = .ok (.tuple #[.pointer none, .bool false]) w := fun a w => by kernel_rfl
  have a17 : ∀ (a : Option Addr) (w : World), (Instr.typeAssert (.iface 101 (.pointer a)) 33 93 true).run Tryz.prog w = .ok (.tuple #[.pointer none, .bool false]) w := fun a w => by kernel_rfl
  go_enter Tryz.func19, Tryz.ntmps19
  go_wp2_with fail
  refine (kindMoreArrayType p _).mono ?_
  rintro e w' ⟨rfl, rfl⟩
  go_wp2_with fail
  go_ret
  exact ⟨rfl, rfl⟩

set_option maxRecDepth 100000 in
set_option maxHeartbeats 2000000 in
theorem kindMoreVectorType (p : Option Addr) (w : World) : Calls Tryz.prog 36 #[.iface 104 (.pointer p)] w fun e w' => e = .returned (.string kVectorType) ∧ w = w' := by
  have a0 : ∀ (a : Option Addr) (w : World), (Instr.typeAssert (.iface 104 (.pointer a)) 33 101 true).run Tryz.prog w = .ok (.tuple #[.pointer none, .bool false]) w := fun a w => by kernel_rfl
  have a1 : ∀ (a : Option Addr) (w : World), (Instr.typeAssert (.iface 104 (.pointer a)) 33 104 true).run Tryz.prog w = .ok (.tuple #[.pointer a, .bool true]) w := fun a w => by kernel_rfl
  go_enter Tryz.func36, Tryz.ntmps36
  go_wp2_with fail
  go_ret
  exact ⟨rfl, rfl⟩

set_option maxRecDepth 100000 in
set_option maxHeartbeats 2000000 in
theorem kindVectorType (p : Option Addr) : KindOf (.iface 104 (.pointer p)) kVectorType := by
  intro w
  have a0 : ∀ (a : Option Addr) (w : World), (Instr.typeAssert (.iface 104 (.pointer a)) 33 36 true).run Tryz.prog w = .ok (.tuple #[.pointer none, .bool false]) w := fun a w => by kernel_rfl
  have a1 : ∀ (a : Option Addr) (w : World), (Instr.typeAssert (.iface 104 (.pointer a)) 33 46 true).run Tryz.prog w = .ok (.tuple #[.pointer none, .bool false]) w := fun a w => by kernel_rfl
  have a2 : ∀ (a : Option Addr) (w : World), (Instr.typeAssert (.iface 104 (.pointer a)) 33 48 true).run Tryz.prog w = .ok (.tuple #[.pointer none, .bool false]) w := fun a w => by kernel_rfl
  have a3 : ∀ (a : Option Addr) (w : World), (Instr.typeAssert (.iface 104 (.pointer a)) 33 52 true).run Tryz.prog w = .ok (.tuple #[.pointer none, .bool false]) w := fun a w => by kernel_rfl
  have a4 : ∀ (a : Option Addr) (w : World), (Instr.typeAssert (.iface 104 (.pointer a)) 33 56 true).run Tryz.prog w = .ok (.tuple #[.pointer none, .bool false]) w := fun a w => by kernel_rfl
  have a5 : ∀ (a : Option Addr) (w : World), (Instr.typeAssert (.iface 104 (.pointer a)) 33 59 true).run Tryz.prog w = .ok (.tuple #[.pointer none, .bool false]) w := fun a w => by kernel_rfl
  have a6 : ∀ (a : Option Addr) (w : World), (Instr.typeAssert (.iface 104 (.pointer a)) 33 62 true).run Tryz.prog w = .ok (.tuple #[.pointer none, .bool false]) w := fun a w => by kernel_rfl
  have a7 : ∀ (a : Option Addr) (w : World), (Instr.typeAssert (.iface 104 (.pointer a)) 33 67 true).run Tryz.prog w = .ok (.tuple #[.pointer none, .bool false]) w := fun a w => by kernel_rfl
  have a8 : ∀ (a : Option Addr) (w : World), (Instr.typeAssert (.iface 104 (.pointer a)) 33 70 true).run Tryz.prog w = .ok (.tuple #[.pointer none, .bool false]) w := fun a w => by kernel_rfl
  have a9 : ∀ (a : Option Addr) (w : World), (Instr.typeAssert (.iface 104 (.pointer a)) 33 73 true).run Tryz.prog w = .ok (.tuple #[.pointer none, .bool false]) w := fun a w => by kernel_rfl
  have a10 : ∀ (a : Option Addr) (w : World), (Instr.typeAssert (.iface 104 (.pointer a)) 33 76 true).run Tryz.prog w = .ok (.tuple #[.pointer none, .bool false]) w := fun a w => by kernel_rfl
  have a11 : ∀ (a : Option Addr) (w : World), (Instr.typeAssert (.iface 104 (.pointer a)) 33 78 true).run Tryz.prog w = .ok (.tuple #[.pointer none, .bool false]) w := fun a w => by kernel_rfl
  have a12 : ∀ (a : Option Addr) (w : World), (Instr.typeAssert (.iface 104 (.pointer a)) 33 80 true).run Tryz.prog w = .ok (.tuple #[.pointer none, .bool false]) w := fun a w => by kernel_rfl
  have a13 : ∀ (a : Option Addr) (w : World), (Instr.typeAssert (.iface 104 (.pointer a)) 33 82 true).run Tryz.prog w = .ok (.tuple #[.pointer none, .bool false]) w := fun a w => by kernel_rfl
  have a14 : ∀ (a : Option Addr) (w : World), (Instr.typeAssert (.iface 104 (.pointer a)) 33 84 true).run Tryz.prog w = .ok (.tuple #[.pointer none, .bool false]) w := fun a w => by kernel_rfl
  have a15 : ∀ (a : Option Addr) (w : World), (Instr.typeAssert (.iface 104 (.pointer a)) 33 87 true).run Tryz.prog w = .ok (.tuple #[.pointer none, .bool false]) w := fun a w => by kernel_rfl
  have a16 : ∀ (a : Option Addr) (w : World), (Instr.typeAssert (.iface 104 (.pointer a)) 33 90 true).run Tryz.prog w = .ok (.tuple #[.pointer none, .bool false]) w := fun a w => by kernel_rfl
  have a17 : ∀ (a : Option Addr) (w : World), (Instr.typeAssert (.iface 104 (.pointer a)) 33 93 true).run Tryz.prog w = .ok (.tuple #[.pointer none, .bool false]) w := fun a w => by kernel_rfl
  go_enter Tryz.func19, Tryz.ntmps19
  go_wp2_with fail
  refine (kindMoreVectorType p _).mono ?_
  rintro e w' ⟨rfl, rfl⟩
  go_wp2_with fail
  go_ret
  exact ⟨rfl, rfl⟩

set_option maxRecDepth 100000 in
set_option maxHeartbeats 2000000 in
theorem kindMorePtrMem (p : Option Addr) (w : World) : Calls Tryz.prog 36 #[.iface 107 (.pointer p)] w fun e w' => e = .returned (.string kPtrMem) ∧ w = w' := by
  have a0 : ∀ (a : Option Addr) (w : World), (Instr.typeAssert (.iface 107 (.pointer a)) 33 101 true).run Tryz.prog w = .ok (.tuple #[.pointer none, .bool false]) w := fun a w => by kernel_rfl
  have a1 : ∀ (a : Option Addr) (w : World), (Instr.typeAssert (.iface 107 (.pointer a)) 33 104 true).run Tryz.prog w = .ok (.tuple #[.pointer none, .bool false]) w := fun a w => by kernel_rfl
  have a2 : ∀ (a : Option Addr) (w : World), (Instr.typeAssert (.iface 107 (.pointer a)) 33 107 true).run Tryz.prog w = .ok (.tuple #[.pointer a, .bool true]) w := fun a w => by kernel_rfl
  go_enter Tryz.func36, Tryz.ntmps36
  go_wp2_with fail
  go_ret
  exact ⟨rfl, rfl⟩

set_option maxRecDepth 100000 in
set_option maxHeartbeats 2000000 in
theorem kindPtrMem (p : Option Addr) : KindOf (.iface 107 (.pointer p)) kPtrMem := by
  intro w
  have a0 : ∀ (a : Option Addr) (w : World), (Instr.typeAssert (.iface 107 (.pointer a)) 33 36 true).run Tryz.prog w = .ok (.tuple #[.pointer none, .bool false]) w := fun a w => by kernel_rfl
  have a1 : ∀ (a : Option Addr) (w : World), (Instr.typeAssert (.iface 107 (.pointer a)) 33 46 true).run Tryz.prog w = .ok (.tuple #[.pointer none, .bool false]) w := fun a w => by kernel_rfl
  have a2 : ∀ (a : Option Addr) (w : World), (Instr.typeAssert (.iface 107 (.pointer a)) 33 48 true).run Tryz.prog w = .ok (.tuple #[.pointer none, .bool false]) w := fun a w => by kernel_rfl
  have a3 : ∀ (a : Option Addr) (w : World), (Instr.typeAssert (.iface 107 (.pointer a)) 33 52 true).run Tryz.prog w = .ok (.tuple #[.pointer none, .bool false]) w := fun a w => by kernel_rfl
  have a4 : ∀ (a : Option Addr) (w : World), (Instr.typeAssert (.iface 107 (.pointer a)) 33 56 true).run Tryz.prog w = .ok (.tuple #[.pointer none, .bool false]) w := fun a w => by kernel_rfl
  have a5 : ∀ (a : Option Addr) (w : World), (Instr.typeAssert (.iface 107 (.pointer a)) 33 59 true).run Tryz.prog w = .ok (.tuple #[.pointer none, .bool false]) w := fun a w => by kernel_rfl
  have a6 : ∀ (a : Option Addr) (w : World), (Instr.typeAssert (.iface 107 (.pointer a)) 33 62 true).run Tryz.prog w = .ok (.tuple #[.pointer none, .bool false]) w := fun a w => by kernel_rfl
  have a7 : ∀ (a : Option Addr) (w : World), (Instr.typeAssert (.iface 107 (.pointer a)) 33 67 true).run Tryz.prog w = .ok (.tuple #[.pointer none, .bool false]) w := fun a w => by kernel_rfl
  have a8 : ∀ (a : Option Addr) (w : World), (Instr.typeAssert (.iface 107 (.pointer a)) 33 70 true).run Tryz.prog w = .ok (.tuple #[.pointer none, .bool false]) w := fun a w => by kernel_rfl
  have a9 : ∀ (a : Option Addr) (w : World), (Instr.typeAssert (.iface 107 (.pointer a)) 33 73 true).run Tryz.prog w = .ok (.tuple #[.pointer none, .bool false]) w := fun a w => by kernel_rfl
  have a10 : ∀ (a : Option Addr) (w : World), (Instr.typeAssert (.iface 107 (.pointer a)) 33 76 true).run Tryz.prog w = .ok (.tuple #[.pointer none, .bool false]) w := fun a w => by kernel_rfl
  have a11 : ∀ (a : Option Addr) (w : World), (Instr.typeAssert (.iface 107 (.pointer a)) 33 78 true).run Tryz.prog w = .ok (.tuple #[.pointer none, .bool false]) w := fun a w => by kernel_rfl
  have a12 : ∀ (a : Option Addr) (w : World), (Instr.typeAssert (.iface 107 (.pointer a)) 33 80 true).run Tryz.prog w = .ok (.tuple #[.pointer none, .bool false]) w := fun a w => by kernel_rfl
  have a13 : ∀ (a : Option Addr) (w : World), (Instr.typeAssert (.iface 107 (.pointer a)) 33 82 true).run Tryz.prog w = .ok (.tuple #[.pointer none, .bool false]) w := fun a w => by kernel_rfl
  have a14 : ∀ (a : Option Addr) (w : World), (Instr.typeAssert (.iface 107 (.pointer a)) 33 84 true).run Tryz.prog w = .ok (.tuple #[.pointer none, .bool false]) w := fun a w => by kernel_rfl
  have a15 : ∀ (a : Option Addr) (w : World), (Instr.typeAssert (.iface 107 (.pointer a)) 33 87 true).run Tryz.prog w = .ok (.tuple #[.pointer none, .bool false]) w := fun a w => by kernel_rfl
  have a16 : ∀ (a : Option Addr) (w : World), (Instr.typeAssert (.iface 107 (.pointer a)) 33 90 true).run Tryz.prog w = .ok (.tuple #[.pointer none, .bool false]) w := fun a w => by kernel_rfl
  have a17 : ∀ (a : Option Addr) (w : World), (Instr.typeAssert (.iface 107 (.pointer a)) 33 93 true).run Tryz.prog w = .ok (.tuple #[.pointer none, .bool false]) w := fun a w => by kernel_rfl
  go_enter Tryz.func19, Tryz.ntmps19
  go_wp2_with fail
  refine (kindMorePtrMem p _).mono ?_
  rintro e w' ⟨rfl, rfl⟩
  go_wp2_with fail
  go_ret
  exact ⟨rfl, rfl⟩

set_option maxRecDepth 100000 in
set_option maxHeartbeats 2000000 in
theorem kindMoreVendorQualifier (p : Option Addr) (w : World) : Calls Tryz.prog 36 #[.iface 110 (.pointer p)] w fun e w' => e = .returned (.string kVendorQualifier) ∧ w = w' := by
  have a0 : ∀ (a : Option Addr) (w : World), (Instr.typeAssert (.iface 110 (.pointer a)) 33 101 true).run Tryz.prog w = .ok (.tuple #[.pointer none, .bool false]) w := fun a w => by kernel_rfl
  have a1 : ∀ (a : Option Addr) (w : World), (Instr.typeAssert (.iface 110 (.pointer a)) 33 104 true).run Tryz.prog w = .ok (.tuple #[.pointer none, .bool false]) w := fun a w => by kernel_rfl
  have a2 : ∀ (a : Option Addr) (w : World), (Instr.typeAssert (.iface 110 (.pointer a)) 33 107 true).run Tryz.prog w = .ok (.tuple #[.pointer none, .bool false]) w := fun a w => by kernel_rfl
  have a3 : ∀ (a : Option Addr) (w : World), (Instr.typeAssert (.iface 110 (.pointer a)) 33 110 true).run Tryz.prog w = .ok (.tuple #[.pointer a, .bool true]) w := fun a w => by kernel_rfl
  go_enter Tryz.func36, Tryz.ntmps36
  go_wp2_with fail
  go_ret
  exact ⟨rfl, rfl⟩

set_option maxRecDepth 100000 in
set_option maxHeartbeats 2000000 in
theorem kindVendorQualifier (p : Option Addr) : KindOf (.iface 110 (.pointer p)) kVendorQualifier := by
  intro w
  have a0 : ∀ (a : Option Addr) (w : World), (Instr.typeAssert (.iface 110 (.pointer a)) 33 36 true).run Tryz.prog w = .ok (.tuple #[.pointer none, .bool false]) w := fun a w => by kernel_rfl
  have a1 : ∀ (a : Option Addr) (w : World), (Instr.typeAssert (.iface 110 (.pointer a)) 33 46 true).run Tryz.prog w = .ok (.tuple #[.pointer none, .bool false]) w := fun a w => by kernel_rfl
  have a2 : ∀ (a : Option Addr) (w : World), (Instr.typeAssert (.iface 110 (.pointer a)) 33 48 true).run Tryz.prog w = .ok (.tuple #[.pointer none, .bool false]) w := fun a w => by kernel_rfl
  have a3 : ∀ (a : Option Addr) (w : World), (Instr.typeAssert (.iface 110 (.pointer a)) 33 52 true).run Tryz.prog w = .ok (.tuple #[.pointer none, .bool false]) w := fun a w => by kernel_rfl
  have a4 : ∀ (a : Option Addr) (w : World), (Instr.typeAssert (.iface 110 (.pointer a)) 33 56 true).run Tryz.prog w = .ok (.tuple #[.pointer none, .bool false]) w := fun a w => by kernel_rfl
  have a5 : ∀ (a : Option Addr) (w : World), (Instr.typeAssert (.iface 110 (.pointer a)) 33 59 true).run Tryz.prog w = .ok (.tuple #[.pointer none, .bool false]) w := fun a w => by kernel_rfl
  have a6 : ∀ (a : Option Addr) (w : World), (Instr.typeAssert (.iface 110 (.pointer a)) 33 62 true).run Tryz.prog w = .ok (.tuple #[.pointer none, .bool false]) w := fun a w => by kernel_rfl
  have a7 : ∀ (a : Option Addr) (w : World), (Instr.typeAssert (.iface 110 (.pointer a)) 33 67 true).run Tryz.prog w = .ok (.tuple #[.pointer none, .bool false]) w := fun a w => by kernel_rfl
  have a8 : ∀ (a : Option Addr) (w : World), (Instr.typeAssert (.iface 110 (.pointer a)) 33 70 true).run Tryz.prog w = .ok (.tuple #[.pointer none, .bool false]) w := fun a w => by kernel_rfl
  have a9 : ∀ (a : Option Addr) (w : World), (Instr.typeAssert (.iface 110 (.pointer a)) 33 73 true).run Tryz.prog w = .ok (.tuple #[.pointer none, .bool false]) w := fun a w => by kernel_rfl
  have a10 : ∀ (a : Option Addr) (w : World), (Instr.typeAssert (.iface 110 (.pointer a)) 33 76 true).run Tryz.prog w = .ok (.tuple #[.pointer none, .bool false]) w := fun a w => by kernel_rfl
  have a11 : ∀ (a : Option Addr) (w : World), (Instr.typeAssert (.iface 110 (.pointer a)) 33 78 true).run Tryz.prog w = .ok (.tuple #[.pointer none, .bool false]) w := fun a w => by kernel_rfl
  have a12 : ∀ (a : Option Addr) (w : World), (Instr.typeAssert (.iface 110 (.pointer a)) 33 80 true).run Tryz.prog w = .ok (.tuple #[.pointer none, .bool false]) w := fun a w => by kernel_rfl
  have a13 : ∀ (a : Option Addr) (w : World), (Instr.typeAssert (.iface 110 (.pointer a)) 33 82 true).run Tryz.prog w = .ok (.tuple #[.pointer none, .bool false]) w := fun a w => by kernel_rfl
  have a14 : ∀ (a : Option Addr) (w : World), (Instr.typeAssert (.iface 110 (.pointer a)) 33 84 true).run Tryz.prog w = .ok (.tuple #[.pointer none, .bool false]) w := fun a w => by kernel_rfl
  have a15 : ∀ (a : Option Addr) (w : World), (Instr.typeAssert (.iface 110 (.pointer a)) 33 87 true).run Tryz.prog w = .ok (.tuple #[.pointer none, .bool false]) w := fun a w => by kernel_rfl
  have a16 : ∀ (a : Option Addr) (w : World), (Instr.typeAssert (.iface 110 (.pointer a)) 33 90 true).run Tryz.prog w = .ok (.tuple #[.pointer none, .bool false]) w := fun a w => by kernel_rfl
  have a17 : ∀ (a : Option Addr) (w : World), (Instr.typeAssert (.iface 110 (.pointer a)) 33 93 true).run Tryz.prog w = .ok (.tuple #[.pointer none, .bool false]) w := fun a w => by kernel_rfl
  go_enter Tryz.func19, Tryz.ntmps19
  go_wp2_with fail
  refine (kindMoreVendorQualifier p _).mono ?_
  rintro e w' ⟨rfl, rfl⟩
  go_wp2_with fail
  go_ret
  exact ⟨rfl, rfl⟩

set_option maxRecDepth 100000 in
set_option maxHeartbeats 2000000 in
theorem kindMoreLiteral (p : Option Addr) (w : World) : Calls Tryz.prog 36 #[.iface 119 (.pointer p)] w fun e w' => e = .returned (.string kLiteral) ∧ w = w' := by
  have a0 : ∀ (a : Option Addr) (w : World), (Instr.typeAssert (.iface 119 (.pointer a)) 33 101 true).run Tryz.prog w = .ok (.tuple #[.pointer none, .bool false]) w := fun a w => by kernel_rfl
  have a1 : ∀ (a : Option Addr) (w : World), (Instr.typeAssert (.iface 119 (.pointer a)) 33 104 true).run Tryz.prog w = .ok (.tuple #[.pointer none, .bool false]) w := fun a w => by kernel_rfl
  have a2 : ∀ (a : Option Addr) (w : World), (Instr.typeAssert (.iface 119 (.pointer a)) 33 107 true).run Tryz.prog w = .ok (.tuple #[.pointer none, .bool false]) w := fun a w => by kernel_rfl
  have a3 : ∀ (a : Option Addr) (w : World), (Instr.typeAssert (.iface 119 (.pointer a)) 33 110 true).run Tryz.prog w = .ok (.tuple #[.pointer none, .bool false]) w := fun a w => by kernel_rfl
  have a4 : ∀ (a : Option Addr) (w : World), (Instr.typeAssert (.iface 119 (.pointer a)) 33 113 true).run Tryz.prog w = .ok (.tuple #[.pointer none, .bool false]) w := fun a w => by kernel_rfl
  have a5 : ∀ (a : Option Addr) (w : World), (Instr.typeAssert (.iface 119 (.pointer a)) 33 116 true).run Tryz.prog w = .ok (.tuple #[.pointer none, .bool false]) w := fun a w => by kernel_rfl
  have a6 : ∀ (a : Option Addr) (w : World), (Instr.typeAssert (.iface 119 (.pointer a)) 33 119 true).run Tryz.prog w = .ok (.tuple #[.pointer a, .bool true]) w := fun a w => by kernel_rfl
  go_enter Tryz.func36, Tryz.ntmps36
  go_wp2_with fail
  go_ret
  exact ⟨rfl, rfl⟩

set_option maxRecDepth 100000 in
set_option maxHeartbeats 2000000 in
theorem kindLiteral (p : Option Addr) : KindOf (.iface 119 (.pointer p)) kLiteral := by
  intro w
  have a0 : ∀ (a : Option Addr) (w : World), (Instr.typeAssert (.iface 119 (.pointer a)) 33 36 true).run Tryz.prog w = .ok (.tuple #[.pointer none, .bool false]) w := fun a w => by kernel_rfl
  have a1 : ∀ (a : Option Addr) (w : World), (Instr.typeAssert (.iface 119 (.pointer a)) 33 46 true).run Tryz.prog w = .ok (.tuple #[.pointer none, .bool false]) w := fun a w => by kernel_rfl
  have a2 : ∀ (a : Option Addr) (w : World), (Instr.typeAssert (.iface 119 (.pointer a)) 33 48 true).run Tryz.prog w = .ok (.tuple #[.pointer none, .bool false]) w := fun a w => by kernel_rfl
  have a3 : ∀ (a : Option Addr) (w : World), (Instr.typeAssert (.iface 119 (.pointer a)) 33 52 true).run Tryz.prog w = .ok (.tuple #[.pointer none, .bool false]) w := fun a w => by kernel_rfl
  have a4 : ∀ (a : Option Addr) (w : World), (Instr.typeAssert (.iface 119 (.pointer a)) 33 56 true).run Tryz.prog w = .ok (.tuple #[.pointer none, .bool false]) w := fun a w => by kernel_rfl
  have a5 : ∀ (a : Option Addr) (w : World), (Instr.typeAssert (.iface 119 (.pointer a)) 33 59 true).run Tryz.prog w = .ok (.tuple #[.pointer none, .bool false]) w := fun a w => by kernel_rfl
  have a6 : ∀ (a : Option Addr) (w : World), (Instr.typeAssert (.iface 119 (.pointer a)) 33 62 true).run Tryz.prog w = .ok (.tuple #[.pointer none, .bool false]) w := fun a w => by kernel_rfl
  have a7 : ∀ (a : Option Addr) (w : World), (Instr.typeAssert (.iface 119 (.pointer a)) 33 67 true).run Tryz.prog w = .ok (.tuple #[.pointer none, .bool false]) w := fun a w => by kernel_rfl
  have a8 : ∀ (a : Option Addr) (w : World), (Instr.typeAssert (.iface 119 (.pointer a)) 33 70 true).run Tryz.prog w = .ok (.tuple #[.pointer none, .bool false]) w := fun a w => by kernel_rfl
  have a9 : ∀ (a : Option Addr) (w : World), (Instr.typeAssert (.iface 119 (.pointer a)) 33 73 true).run Tryz.prog w = .ok (.tuple #[.pointer none, .bool false]) w := fun a w => by kernel_rfl
  have a10 : ∀ (a : Option Addr) (w : World), (Instr.typeAssert (.iface 119 (.pointer a)) 33 76 true).run Tryz.prog w = .ok (.tuple #[.pointer none, .bool false]) w := fun a w => by kernel_rfl
  have a11 : ∀ (a : Option Addr) (w : World), (Instr.typeAssert (.iface 119 (.pointer a)) 33 78 true).run Tryz.prog w = .ok (.tuple #[.pointer none, .bool false]) w := fun a w => by kernel_rfl
  have a12 : ∀ (a : Option Addr) (w : World), (Instr.typeAssert (.iface 119 (.pointer a)) 33 80 true).run Tryz.prog w = .ok (.tuple #[.pointer none, .bool false]) w := fun a w => by kernel_rfl
  have a13 : ∀ (a : Option Addr) (w : World), (Instr.typeAssert (.iface 119 (.pointer a)) 33 82 true).run Tryz.prog w = .ok (.tuple #[.pointer none, .bool false]) w := fun a w => by kernel_rfl
  have a14 : ∀ (a : Option Addr) (w : World), (Instr.typeAssert (.iface 119 (.pointer a)) 33 84 true).run Tryz.prog w = .ok (.tuple #[.pointer none, .bool false]) w := fun a w => by kernel_rfl
  have a15 : ∀ (a : Option Addr) (w : World), (Instr.typeAssert (.iface 119 (.pointer a)) 33 87 true).run Tryz.prog w = .ok (.tuple #[.pointer none, .bool false]) w := fun a w => by kernel_rfl
  have a16 : ∀ (a : Option Addr) (w : World), (Instr.typeAssert (.iface 119 (.pointer a)) 33 90 true).run Tryz.prog w = .ok (.tuple #[.pointer none, .bool false]) w := fun a w => by kernel_rfl
  have a17 : ∀ (a : Option Addr) (w : World), (Instr.typeAssert (.iface 119 (.pointer a)) 33 93 true).run Tryz.prog w = .ok (.tuple #[.pointer none, .bool false]) w := fun a w => by kernel_rfl
  go_enter Tryz.func19, Tryz.ntmps19
  go_wp2_with fail
  refine (kindMoreLiteral p _).mono ?_
  rintro e w' ⟨rfl, rfl⟩
  go_wp2_with fail
  go_ret
  exact ⟨rfl, rfl⟩

set_option maxRecDepth 100000 in
set_option maxHeartbeats 2000000 in
theorem kindMoreArgumentPack (p : Option Addr) (w : World) : Calls Tryz.prog 36 #[.iface 122 (.pointer p)] w fun e w' => e = .returned (.string kArgumentPack) ∧ w = w' := by
  have a0 : ∀ (a : Option Addr) (w : World), (Instr.typeAssert (.iface 122 (.pointer a)) 33 101 true).run Tryz.prog w = .ok (.tuple #[.pointer none, .bool false]) w := fun a w => by kernel_rfl
  have a1 : ∀ (a : Option Addr) (w : World), (Instr.typeAssert (.iface 122 (.pointer a)) 33 104 true).run Tryz.prog w = .ok (.tuple #[.pointer none, .bool false]) w := fun a w => by kernel_rfl
  have a2 : ∀ (a : Option Addr) (w : World), (Instr.typeAssert (.iface 122 (.pointer a)) 33 107 true).run Tryz.prog w = .ok (.tuple #[.pointer none, .bool false]) w := fun a w => by kernel_rfl
  have a3 : ∀ (a : Option Addr) (w : World), (Instr.typeAssert (.iface 122 (.pointer a)) 33 110 true).run Tryz.prog w = .ok (.tuple #[.pointer none, .bool false]) w := fun a w => by kernel_rfl
  have a4 : ∀ (a : Option Addr) (w : World), (Instr.typeAssert (.iface 122 (.pointer a)) 33 113 true).run Tryz.prog w = .ok (.tuple #[.pointer none, .bool false]) w := fun a w => by kernel_rfl
  have a5 : ∀ (a : Option Addr) (w : World), (Instr.typeAssert (.iface 122 (.pointer a)) 33 116 true).run Tryz.prog w = .ok (.tuple #[.pointer none, .bool false]) w := fun a w => by kernel_rfl
  have a6 : ∀ (a : Option Addr) (w : World), (Instr.typeAssert (.iface 122 (.pointer a)) 33 119 true).run Tryz.prog w = .ok (.tuple #[.pointer none, .bool false]) w := fun a w => by kernel_rfl
  have a7 : ∀ (a : Option Addr) (w : World), (Instr.typeAssert (.iface 122 (.pointer a)) 33 122 true).run Tryz.prog w = .ok (.tuple #[.pointer a, .bool true]) w := fun a w => by kernel_rfl
  go_enter Tryz.func36, Tryz.ntmps36
  go_wp2_with fail
  go_ret
  exact ⟨rfl, rfl⟩

set_option maxRecDepth 100000 in
set_option maxHeartbeats 2000000 in
theorem kindArgumentPack (p : Option Addr) : KindOf (.iface 122 (.pointer p)) kArgumentPack := by
  intro w
  have a0 : ∀ (a : Option Addr) (w : World), (Instr.typeAssert (.iface 122 (.pointer a)) 33 36 true).run Tryz.prog w = .ok (.tuple #[.pointer none, .bool false]) w := fun a w => by kernel_rfl
  have a1 : ∀ (a : Option Addr) (w : World), (Instr.typeAssert (.iface 122 (.pointer a)) 33 46 true).run Tryz.prog w = .ok (.tuple #[.pointer none, .bool false]) w := fun a w => by kernel_rfl
  have a2 : ∀ (a : Option Addr) (w : World), (Instr.typeAssert (.iface 122 (.pointer a)) 33 48 true).run Tryz.prog w = .ok (.tuple #[.pointer none, .bool false]) w := fun a w => by kernel_rfl
  have a3 : ∀ (a : Option Addr) (w : World), (Instr.typeAssert (.iface 122 (.pointer a)) 33 52 true).run Tryz.prog w = .ok (.tuple #[.pointer none, .bool false]) w := fun a w => by kernel_rfl
  have a4 : ∀ (a : Option Addr) (w : World), (Instr.typeAssert (.iface 122 (.pointer a)) 33 56 true).run Tryz.prog w = .ok (.tuple #[.pointer none, .bool false]) w := fun a w => by kernel_rfl
  have a5 : ∀ (a : Option Addr) (w : World), (Instr.typeAssert (.iface 122 (.pointer a)) 33 59 true).run Tryz.prog w = .ok (.tuple #[.pointer none, .bool false]) w := fun a w => by kernel_rfl
  have a6 : ∀ (a : Option Addr) (w : World), (Instr.typeAssert (.iface 122 (.pointer a)) 33 62 true).run Tryz.prog w = .ok (.tuple #[.pointer none, .bool false]) w := fun a w => by kernel_rfl
  have a7 : ∀ (a : Option Addr) (w : World), (Instr.typeAssert (.iface 122 (.pointer a)) 33 67 true).run Tryz.prog w = .ok (.tuple #[.pointer none, .bool false]) w := fun a w => by kernel_rfl
  have a8 : ∀ (a : Option Addr) (w : World), (Instr.typeAssert (.iface 122 (.pointer a)) 33 70 true).run Tryz.prog w = .ok (.tuple #[.pointer none, .bool false]) w := fun a w => by kernel_rfl
  have a9 : ∀ (a : Option Addr) (w : World), (Instr.typeAssert (.iface 122 (.pointer a)) 33 73 true).run Tryz.prog w = .ok (.tuple #[.pointer none, .bool false]) w := fun a w => by kernel_rfl
  have a10 : ∀ (a : Option Addr) (w : World), (Instr.typeAssert (.iface 122 (.pointer a)) 33 76 true).run Tryz.prog w = .ok (.tuple #[.pointer none, .bool false]) w := fun a w => by kernel_rfl
  have a11 : ∀ (a : Option Addr) (w : World), (Instr.typeAssert (.iface 122 (.pointer a)) 33 78 true).run Tryz.prog w = .ok (.tuple #[.pointer none, .bool false]) w := fun a w => by kernel_rfl
  have a12 : ∀ (a : Option Addr) (w : World), (Instr.typeAssert (.iface 122 (.pointer a)) 33 80 true).run Tryz.prog w = .ok (.tuple #[.pointer none, .bool false]) w := fun a w => by kernel_rfl
  have a13 : ∀ (a : Option Addr) (w : World), (Instr.typeAssert (.iface 122 (.pointer a)) 33 82 true).run Tryz.prog w = .ok (.tuple #[.pointer none, .bool false]) w := fun a w => by kernel_rfl
  have a14 : ∀ (a : Option Addr) (w : World), (Instr.typeAssert (.iface 122 (.pointer a)) 33 84 true).run Tryz.prog w = .ok (.tuple #[.pointer none, .bool false]) w := fun a w => by kernel_rfl
  have a15 : ∀ (a : Option Addr) (w : World), (Instr.typeAssert (.iface 122 (.pointer a)) 33 87 true).run Tryz.prog w = .ok (.tuple #[.pointer none, .bool false]) w := fun a w => by kernel_rfl
  have a16 : ∀ (a : Option Addr) (w : World), (Instr.typeAssert (.iface 122 (.pointer a)) 33 90 true).run Tryz.prog w = .ok (.tuple #[.pointer none, .bool false]) w := fun a w => by kernel_rfl
  have a17 : ∀ (a : Option Addr) (w : World), (Instr.typeAssert (.iface 122 (.pointer a)) 33 93 true).run Tryz.prog w = .ok (.tuple #[.pointer none, .bool false]) w := fun a w => by kernel_rfl
  go_enter Tryz.func19, Tryz.ntmps19
  go_wp2_with fail
  refine (kindMoreArgumentPack p _).mono ?_
  rintro e w' ⟨rfl, rfl⟩
  go_wp2_with fail
  go_ret
  exact ⟨rfl, rfl⟩

set_option maxRecDepth 100000 in
set_option maxHeartbeats 2000000 in
theorem kindMoreClosure (p : Option Addr) (w : World) : Calls Tryz.prog 36 #[.iface 129 (.pointer p)] w fun e w' => e = .returned (.string kClosure) ∧ w = w' := by
  have a0 : ∀ (a : Option Addr) (w : World), (Instr.typeAssert (.iface 129 (.pointer a)) 33 101 true).run Tryz.prog w = .ok (.tuple #[.pointer none, .bool false]) w := fun a w => by kernel_rfl
  have a1 : ∀ (a : Option Addr) (w : World), (Instr.typeAssert (.iface 129 (.pointer a)) 33 104 true).run Tryz.prog w = .ok (.tuple #[.pointer none, .bool false]) w := fun a w => by kernel_rfl
  have a2 : ∀ (a : Option Addr) (w : World), (Instr.typeAssert (.iface 129 (.pointer a)) 33 107 true).run Tryz.prog w = .ok (.tuple #[.pointer none, .bool false]) w := fun a w => by kernel_rfl
  have a3 : ∀ (a : Option Addr) (w : World), (Instr.typeAssert (.iface 129 (.pointer a)) 33 110 true).run Tryz.prog w = .ok (.tuple #[.pointer none, .bool false]) w := fun a w => by kernel_rfl
  have a4 : ∀ (a : Option Addr) (w : World), (Instr.typeAssert (.iface 129 (.pointer a)) 33 113 true).run Tryz.prog w = .ok (.tuple #[.pointer none, .bool false]) w := fun a w => by kernel_rfl
  have a5 : ∀ (a : Option Addr) (w : World), (Instr.typeAssert (.iface 129 (.pointer a)) 33 116 true).run Tryz.prog w = .ok (.tuple #[.pointer none, .bool false]) w := fun a w => by kernel_rfl
  have a6 : ∀ (a : Option Addr) (w : World), (Instr.typeAssert (.iface 129 (.pointer a)) 33 119 true).run Tryz.prog w = .ok (.tuple #[.pointer none, .bool false]) w := fun a w => by kernel_rfl
  have a7 : ∀ (a : Option Addr) (w : World), (Instr.typeAssert (.iface 129 (.pointer a)) 33 122 true).run Tryz.prog w = .ok (.tuple #[.pointer none, .bool false]) w := fun a w => by kernel_rfl
  have a8 : ∀ (a : Option Addr) (w : World), (Instr.typeAssert (.iface 129 (.pointer a)) 33 126 true).run Tryz.prog w = .ok (.tuple #[.pointer none, .bool false]) w := fun a w => by kernel_rfl
  have a9 : ∀ (a : Option Addr) (w : World), (Instr.typeAssert (.iface 129 (.pointer a)) 33 129 true).run Tryz.prog w = .ok (.tuple #[.pointer a, .bool true]) w := fun a w => by kernel_rfl
  go_enter Tryz.func36, Tryz.ntmps36
  go_wp2_with fail
  go_ret
  exact ⟨rfl, rfl⟩

set_option maxRecDepth 100000 in
set_option maxHeartbeats 2000000 in
theorem kindClosure (p : Option Addr) : KindOf (.iface 129 (.pointer p)) kClosure := by
  intro w
  have a0 : ∀ (a : Option Addr) (w : World), (Instr.typeAssert (.iface 129 (.pointer a)) 33 36 true).run Tryz.prog w = .ok (.tuple #[.pointer none, .bool false]) w := fun a w => by kernel_rfl
  have a1 : ∀ (a : Option Addr) (w : World), (Instr.typeAssert (.iface 129 (.pointer a)) 33 46 true).run Tryz.prog w = .ok (.tuple #[.pointer none, .bool false]) w := fun a w => by kernel_rfl
  have a2 : ∀ (a : Option Addr) (w : World), (Instr.typeAssert (.iface 129 (.pointer a)) 33 48 true).run Tryz.prog w = .ok (.tuple #[.pointer none, .bool false]) w := fun a w => by kernel_rfl
  have a3 : ∀ (a : Option Addr) (w : World), (Instr.typeAssert (.iface 129 (.pointer a)) 33 52 true).run Tryz.prog w = .ok (.tuple #[.pointer none, .bool false]) w := fun a w => by kernel_rfl
  have a4 : ∀ (a : Option Addr) (w : World), (Instr.typeAssert (.iface 129 (.pointer a)) 33 56 true).run Tryz.prog w = .ok (.tuple #[.pointer none, .bool false]) w := fun a w => by kernel_rfl
  have a5 : ∀ (a : Option Addr) (w : World), (Instr.typeAssert (.iface 129 (.pointer a)) 33 59 true).run Tryz.prog w = .ok (.tuple #[.pointer none, .bool false]) w := fun a w => by kernel_rfl
  have a6 : ∀ (a : Option Addr) (w : World), (Instr.typeAssert (.iface 129 (.pointer a)) 33 62 true).run Tryz.prog w = .ok (.tuple #[.pointer none, .bool false]) w := fun a w => by kernel_rfl
  have a7 : ∀ (a : Option Addr) (w : World), (Instr.typeAssert (.iface 129 (.pointer a)) 33 67 true).run Tryz.prog w = .ok (.tuple #[.pointer none, .bool false]) w := fun a w => by kernel_rfl
  have a8 : ∀ (a : Option Addr) (w : World), (Instr.typeAssert (.iface 129 (.pointer a)) 33 70 true).run Tryz.prog w = .ok (.tuple #[.pointer none, .bool false]) w := fun a w => by kernel_rfl
  have a9 : ∀ (a : Option Addr) (w : World), (Instr.typeAssert (.iface 129 (.pointer a)) 33 73 true).run Tryz.prog w = .ok (.tuple #[.pointer none, .bool false]) w := fun a w => by kernel_rfl
  have a10 : ∀ (a : Option Addr) (w : World), (Instr.typeAssert (.iface 129 (.pointer a)) 33 76 true).run Tryz.prog w = .ok (.tuple #[.pointer none, .bool false]) w := fun a w => by kernel_rfl
  have a11 : ∀ (a : Option Addr) (w : World), (Instr.typeAssert (.iface 129 (.pointer a)) 33 78 true).run Tryz.prog w = .ok (.tuple #[.pointer none, .bool false]) w := fun a w => by kernel_rfl
  have a12 : ∀ (a : Option Addr) (w : World), (Instr.typeAssert (.iface 129 (.pointer a)) 33 80 true).run Tryz.prog w = .ok (.tuple #[.pointer none, .bool false]) w := fun a w => by kernel_rfl
  have a13 : ∀ (a : Option Addr) (w : World), (Instr.typeAssert (.iface 129 (.pointer a)) 33 82 true).run Tryz.prog w = .ok (.tuple #[.pointer none, .bool false]) w := fun a w => by kernel_rfl
  have a14 : ∀ (a : Option Addr) (w : World), (Instr.typeAssert (.iface 129 (.pointer a)) 33 84 true).run Tryz.prog w = .ok (.tuple #[.pointer none, .bool false]) w := fun a w => by kernel_rfl
  have a15 : ∀ (a : Option Addr) (w : World), (Instr.typeAssert (.iface 129 (.pointer a)) 33 87 true).run Tryz.prog w = .ok (.tuple #[.pointer none, .bool false]) w := fun a w => by kernel_rfl
  have a16 : ∀ (a : Option Addr) (w : World), (Instr.typeAssert (.iface 129 (.pointer a)) 33 90 true).run Tryz.prog w = .ok (.tuple #[.pointer none, .bool false]) w := fun a w => by kernel_rfl
  have a17 : ∀ (a : Option Addr) (w : World), (Instr.typeAssert (.iface 129 (.pointer a)) 33 93 true).run Tryz.prog w = .ok (.tuple #[.pointer none, .bool false]) w := fun a w => by kernel_rfl
  go_enter Tryz.func19, Tryz.ntmps19
  go_wp2_with fail
  refine (kindMoreClosure p _).mono ?_
  rintro e w' ⟨rfl, rfl⟩
  go_wp2_with fail
  go_ret
  exact ⟨rfl, rfl⟩

set_option maxRecDepth 100000 in
set_option maxHeartbeats 2000000 in
theorem kindMoreUnnamedType (p : Option Addr) (w : World) : Calls Tryz.prog 36 #[.iface 132 (.pointer p)] w fun e w' => e = .returned (.string kUnnamedType) ∧ w = w' := by
  have a0 : ∀ (a : Option Addr) (w : World), (Instr.typeAssert (.iface 132 (.pointer a)) 33 101 true).run Tryz.prog w = .ok (.tuple #[.pointer none, .bool false]) w := fun a w => by kernel_rfl
  have a1 : ∀ (a : Option Addr) (w : World), (Instr.typeAssert (.iface 132 (.pointer a)) 33 104 true).run Tryz.prog w = .ok (.tuple #[.pointer none, .bool false]) w := fun a w => by kernel_rfl
  have a2 : ∀ (a : Option Addr) (w : World), (Instr.typeAssert (.iface 132 (.pointer a)) 33 107 true).run Tryz.prog w = .ok (.tuple #[.pointer none, .bool false]) w := fun a w => by kernel_rfl
  have a3 : ∀ (a : Option Addr) (w : World), (Instr.typeAssert (.iface 132 (.pointer a)) 33 110 true).run Tryz.prog w = .ok (.tuple #[.pointer none, .bool false]) w := fun a w => by kernel_rfl
  have a4 : ∀ (a : Option Addr) (w : World), (Instr.typeAssert (.iface 132 (.pointer a)) 33 113 true).run Tryz.prog w = .ok (.tuple #[.pointer none, .bool false]) w := fun a w => by kernel_rfl
  have a5 : ∀ (a : Option Addr) (w : World), (Instr.typeAssert (.iface 132 (.pointer a)) 33 116 true).run Tryz.prog w = .ok (.tuple #[.pointer none, .bool false]) w := fun a w => by kernel_rfl
  have a6 : ∀ (a : Option Addr) (w : World), (Instr.typeAssert (.iface 132 (.pointer a)) 33 119 true).run Tryz.prog w = .ok (.tuple #[.pointer none, .bool false]) w := fun a w => by kernel_rfl
  have a7 : ∀ (a : Option Addr) (w : World), (Instr.typeAssert (.iface 132 (.pointer a)) 33 122 true).run Tryz.prog w = .ok (.tuple #[.pointer none, .bool false]) w := fun a w => by kernel_rfl
  have a8 : ∀ (a : Option Addr) (w : World), (Instr.typeAssert (.iface 132 (.pointer a)) 33 126 true).run Tryz.prog w = .ok (.tuple #[.pointer none, .bool false]) w := fun a w => by kernel_rfl
  have a9 : ∀ (a : Option Addr) (w : World), (Instr.typeAssert (.iface 132 (.pointer a)) 33 129 true).run Tryz.prog w = .ok (.tuple #[.pointer none, .bool false]) w := fun a w => by kernel_rfl
  have a10 : ∀ (a : Option Addr) (w : World), (Instr.typeAssert (.iface 132 (.pointer a)) 33 132 true).run Tryz.prog w = .ok (.tuple #[.pointer a, .bool true]) w := fun a w => by kernel_rfl
  go_enter Tryz.func36, Tryz.ntmps36
  go_wp2_with fail
  go_ret
  exact ⟨rfl, rfl⟩

set_option maxRecDepth 100000 in
set_option maxHeartbeats 2000000 in
theorem kindUnnamedType (p : Option Addr) : KindOf (.iface 132 (.pointer p)) kUnnamedType := by
  intro w
  have a0 : ∀ (a : Option Addr) (w : World), (Instr.typeAssert (.iface 132 (.pointer a)) 33 36 true).run Tryz.prog w = .ok (.tuple #[.pointer none, .bool false]) w := fun a w => by kernel_rfl
  have a1 : ∀ (a : Option Addr) (w : World), (Instr.typeAssert (.iface 132 (.pointer a)) 33 46 true).run Tryz.prog w = .ok (.tuple #[.pointer none, .bool false]) w := fun a w => by kernel_rfl
  have a2 : ∀ (a : Option Addr) (w : World), (Instr.typeAssert (.iface 132 (.pointer a)) 33 48 true).run Tryz.prog w = .ok (.tuple #[.pointer none, .bool false]) w := fun a w => by kernel_rfl
  have a3 : ∀ (a : Option Addr) (w : World), (Instr.typeAssert (.iface 132 (.pointer a)) 33 52 true).run Tryz.prog w = .ok (.tuple #[.pointer none, .bool false]) w := fun a w => by kernel_rfl
  have a4 : ∀ (a : Option Addr) (w : World), (Instr.typeAssert (.iface 132 (.pointer a)) 33 56 true).run Tryz.prog w = .ok (.tuple #[.pointer none, .bool false]) w := fun a w => by kernel_rfl
  have a5 : ∀ (a : Option Addr) (w : World), (Instr.typeAssert (.iface 132 (.pointer a)) 33 59 true).run Tryz.prog w = .ok (.tuple #[.pointer none, .bool false]) w := fun a w => by kernel_rfl
  have a6 : ∀ (a : Option Addr) (w : World), (Instr.typeAssert (.iface 132 (.pointer a)) 33 62 true).run Tryz.prog w = .ok (.tuple #[.pointer none, .bool false]) w := fun a w => by kernel_rfl
  have a7 : ∀ (a : Option Addr) (w : World), (Instr.typeAssert (.iface 132 (.pointer a)) 33 67 true).run Tryz.prog w = .ok (.tuple #[.pointer none, .bool false]) w := fun a w => by kernel_rfl
  have a8 : ∀ (a : Option Addr) (w : World), (Instr.typeAssert (.iface 132 (.pointer a)) 33 70 true).run Tryz.prog w = .ok (.tuple #[.pointer none, .bool false]) w := fun a w => by kernel_rfl
  have a9 : ∀ (a : Option Addr) (w : World), (Instr.typeAssert (.iface 132 (.pointer a)) 33 73 true).run Tryz.prog w = .ok (.tuple #[.pointer none, .bool false]) w := fun a w => by kernel_rfl
  have a10 : ∀ (a : Option Addr) (w : World), (Instr.typeAssert (.iface 132 (.pointer a)) 33 76 true).run Tryz.prog w = .ok (.tuple #[.pointer none, .bool false]) w := fun a w => by kernel_rfl
  have a11 : ∀ (a : Option Addr) (w : World), (Instr.typeAssert (.iface 132 (.pointer a)) 33 78 true).run Tryz.prog w = .ok (.tuple #[.pointer none, .bool false]) w := fun a w => by kernel_rfl
  have a12 : ∀ (a : Option Addr) (w : World), (Instr.typeAssert (.iface 132 (.pointer a)) 33 80 true).run Tryz.prog w = .ok (.tuple #[.pointer none, .bool false]) w := fun a w => by kernel_rfl
  have a13 : ∀ (a : Option Addr) (w : World), (Instr.typeAssert (.iface 132 (.pointer a)) 33 82 true).run Tryz.prog w = .ok (.tuple #[.pointer none, .bool false]) w := fun a w => by kernel_rfl
  have a14 : ∀ (a : Option Addr) (w : World), (Instr.typeAssert (.iface 132 (.pointer a)) 33 84 true).run Tryz.prog w = .ok (.tuple #[.pointer none, .bool false]) w := fun a w => by kernel_rfl
  have a15 : ∀ (a : Option Addr) (w : World), (Instr.typeAssert (.iface 132 (.pointer a)) 33 87 true).run Tryz.prog w = .ok (.tuple #[.pointer none, .bool false]) w := fun a w => by kernel_rfl
  have a16 : ∀ (a : Option Addr) (w : World), (Instr.typeAssert (.iface 132 (.pointer a)) 33 90 true).run Tryz.prog w = .ok (.tuple #[.pointer none, .bool false]) w := fun a w => by kernel_rfl
  have a17 : ∀ (a : Option Addr) (w : World), (Instr.typeAssert (.iface 132 (.pointer a)) 33 93 true).run Tryz.prog w = .ok (.tuple #[.pointer none, .bool false]) w := fun a w => by kernel_rfl
  go_enter Tryz.func19, Tryz.ntmps19
  go_wp2_with fail
  refine (kindMoreUnnamedType p _).mono ?_
  rintro e w' ⟨rfl, rfl⟩
  go_wp2_with fail
  go_ret
  exact ⟨rfl, rfl⟩

set_option maxRecDepth 100000 in
set_option maxHeartbeats 2000000 in
theorem kindMoreTaggedName (p : Option Addr) (w : World) : Calls Tryz.prog 36 #[.iface 135 (.pointer p)] w fun e w' => e = .returned (.string kTaggedName) ∧ w = w' := by
  have a0 : ∀ (a : Option Addr) (w : World), (Instr.typeAssert (.iface 135 (.pointer a)) 33 101 true).run Tryz.prog w = .ok (.tuple #[.pointer none, .bool false]) w := fun a w => by kernel_rfl
  have a1 : ∀ (a : Option Addr) (w : World), (Instr.typeAssert (.iface 135 (.pointer a)) 33 104 true).run Tryz.prog w = .ok (.tuple #[.pointer none, .bool false]) w := fun a w => by kernel_rfl
  have a2 : ∀ (a : Option Addr) (w : World), (Instr.typeAssert (.iface 135 (.pointer a)) 33 107 true).run Tryz.prog w = .ok (.tuple #[.pointer none, .bool false]) w := fun a w => by kernel_rfl
  have a3 : ∀ (a : Option Addr) (w : World), (Instr.typeAssert (.iface 135 (.pointer a)) 33 110 true).run Tryz.prog w = .ok (.tuple #[.pointer none, .bool false]) w := fun a w => by kernel_rfl
  have a4 : ∀ (a : Option Addr) (w : World), (Instr.typeAssert (.iface 135 (.pointer a)) 33 113 true).run Tryz.prog w = .ok (.tuple #[.pointer none, .bool false]) w := fun a w => by kernel_rfl
  have a5 : ∀ (a : Option Addr) (w : World), (Instr.typeAssert (.iface 135 (.pointer a)) 33 116 true).run Tryz.prog w = .ok (.tuple #[.pointer none, .bool false]) w := fun a w => by kernel_rfl
  have a6 : ∀ (a : Option Addr) (w : World), (Instr.typeAssert (.iface 135 (.pointer a)) 33 119 true).run Tryz.prog w = .ok (.tuple #[.pointer none, .bool false]) w := fun a w => by kernel_rfl
  have a7 : ∀ (a : Option Addr) (w : World), (Instr.typeAssert (.iface 135 (.pointer a)) 33 122 true).run Tryz.prog w = .ok (.tuple #[.pointer none, .bool false]) w := fun a w => by kernel_rfl
  have a8 : ∀ (a : Option Addr) (w : World), (Instr.typeAssert (.iface 135 (.pointer a)) 33 126 true).run Tryz.prog w = .ok (.tuple #[.pointer none, .bool false]) w := fun a w => by kernel_rfl
  have a9 : ∀ (a : Option Addr) (w : World), (Instr.typeAssert (.iface 135 (.pointer a)) 33 129 true).run Tryz.prog w = .ok (.tuple #[.pointer none, .bool false]) w := fun a w => by kernel_rfl
  have a10 : ∀ (a : Option Addr) (w : World), (Instr.typeAssert (.iface 135 (.pointer a)) 33 132 true).run Tryz.prog w = .ok (.tuple #[.pointer none, .bool false]) w := fun a w => by kernel_rfl
  have a11 : ∀ (a : Option Addr) (w : World), (Instr.typeAssert (.iface 135 (.pointer a)) 33 135 true).run Tryz.prog w = .ok (.tuple #[.pointer a, .bool true]) w := fun a w => by kernel_rfl
  go_enter Tryz.func36, Tryz.ntmps36
  go_wp2_with fail
  go_ret
  exact ⟨rfl, rfl⟩

set_option maxRecDepth 100000 in
set_option maxHeartbeats 2000000 in
theorem kindTaggedName (p : Option Addr) : KindOf (.iface 135 (.pointer p)) kTaggedName := by
  intro w
  have a0 : ∀ (a : Option Addr) (w : World), (Instr.typeAssert (.iface 135 (.pointer a)) 33 36 true).run Tryz.prog w = .ok (.tuple #[.pointer none, .bool false]) w := fun a w => by kernel_rfl
  have a1 : ∀ (a : Option Addr) (w : World), (Instr.typeAssert (.iface 135 (.pointer a)) 33 46 true).run Tryz.prog w = .ok (.tuple #[.pointer none, .bool false]) w := fun a w => by kernel_rfl
  have a2 : ∀ (a : Option Addr) (w : World), (Instr.typeAssert (.iface 135 (.pointer a)) 33 48 true).run Tryz.prog w = .ok (.tuple #[.pointer none, .bool false]) w := fun a w => by kernel_rfl
  have a3 : ∀ (a : Option Addr) (w : World), (Instr.typeAssert (.iface 135 (.pointer a)) 33 52 true).run Tryz.prog w = .ok (.tuple #[.pointer none, .bool false]) w := fun a w => by kernel_rfl
  have a4 : ∀ (a : Option Addr) (w : World), (Instr.typeAssert (.iface 135 (.pointer a)) 33 56 true).run Tryz.prog w = .ok (.tuple #[.pointer none, .bool false]) w := fun a w => by kernel_rfl
  have a5 : ∀ (a : Option Addr) (w : World), (Instr.typeAssert (.iface 135 (.pointer a)) 33 59 true).run Tryz.prog w = .ok (.tuple #[.pointer none, .bool false]) w := fun a w => by kernel_rfl
  have a6 : ∀ (a : Option Addr) (w : World), (Instr.typeAssert (.iface 135 (.pointer a)) 33 62 true).run Tryz.prog w = .ok (.tuple #[.pointer none, .bool false]) w := fun a w => by kernel_rfl
  have a7 : ∀ (a : Option Addr) (w : World), (Instr.typeAssert (.iface 135 (.pointer a)) 33 67 true).run Tryz.prog w = .ok (.tuple #[.pointer none, .bool false]) w := fun a w => by kernel_rfl
  have a8 : ∀ (a : Option Addr) (w : World), (Instr.typeAssert (.iface 135 (.pointer a)) 33 70 true).run Tryz.prog w = .ok (.tuple #[.pointer none, .bool false]) w := fun a w => by kernel_rfl
  have a9 : ∀ (a : Option Addr) (w : World), (Instr.typeAssert (.iface 135 (.pointer a)) 33 73 true).run Tryz.prog w = .ok (.tuple #[.pointer none, .bool false]) w := fun a w => by kernel_rfl
  have a10 : ∀ (a : Option Addr) (w : World), (Instr.typeAssert (.iface 135 (.pointer a)) 33 76 true).run Tryz.prog w = .ok (.tuple #[.pointer none, .bool false]) w := fun a w => by kernel_rfl
  have a11 : ∀ (a : Option Addr) (w : World), (Instr.typeAssert (.iface 135 (.pointer a)) 33 78 true).run Tryz.prog w = .ok (.tuple #[.pointer none, .bool false]) w := fun a w => by kernel_rfl
  have a12 : ∀ (a : Option Addr) (w : World), (Instr.typeAssert (.iface 135 (.pointer a)) 33 80 true).run Tryz.prog w = .ok (.tuple #[.pointer none, .bool false]) w := fun a w => by kernel_rfl
  have a13 : ∀ (a : Option Addr) (w : World), (Instr.typeAssert (.iface 135 (.pointer a)) 33 82 true).run Tryz.prog w = .ok (.tuple #[.pointer none, .bool false]) w := fun a w => by kernel_rfl
  have a14 : ∀ (a : Option Addr) (w : World), (Instr.typeAssert (.iface 135 (.pointer a)) 33 84 true).run Tryz.prog w = .ok (.tuple #[.pointer none, .bool false]) w := fun a w => by kernel_rfl
  have a15 : ∀ (a : Option Addr) (w : World), (Instr.typeAssert (.iface 135 (.pointer a)) 33 87 true).run Tryz.prog w = .ok (.tuple #[.pointer none, .bool false]) w := fun a w => by kernel_rfl
  have a16 : ∀ (a : Option Addr) (w : World), (Instr.typeAssert (.iface 135 (.pointer a)) 33 90 true).run Tryz.prog w = .ok (.tuple #[.pointer none, .bool false]) w := fun a w => by kernel_rfl
  have a17 : ∀ (a : Option Addr) (w : World), (Instr.typeAssert (.iface 135 (.pointer a)) 33 93 true).run Tryz.prog w = .ok (.tuple #[.pointer none, .bool false]) w := fun a w => by kernel_rfl
  go_enter Tryz.func19, Tryz.ntmps19
  go_wp2_with fail
  refine (kindMoreTaggedName p _).mono ?_
  rintro e w' ⟨rfl, rfl⟩
  go_wp2_with fail
  go_ret
  exact ⟨rfl, rfl⟩

set_option maxRecDepth 100000 in
set_option maxHeartbeats 2000000 in
theorem kindMoreCast (p : Option Addr) (w : World) : Calls Tryz.prog 36 #[.iface 147 (.pointer p)] w fun e w' => e = .returned (.string kCast) ∧ w = w' := by
  have a0 : ∀ (a : Option Addr) (w : World), (Instr.typeAssert (.iface 147 (.pointer a)) 33 101 true).run Tryz.prog w = .ok (.tuple #[.pointer none, .bool false]) w := fun a w => by kernel_rfl
  have a1 : ∀ (a : Option Addr) (w : World), (Instr.typeAssert (.iface 147 (.pointer a)) 33 104 true).run Tryz.prog w = .ok (.tuple #[.pointer none, .bool false]) w := fun a w => by kernel_rfl
  have a2 : ∀ (a : Option Addr) (w : World), (Instr.typeAssert (.iface 147 (.pointer a)) 33 107 true).run Tryz.prog w = .ok (.tuple #[.pointer none, .bool false]) w := fun a w => by kernel_rfl
  have a3 : ∀ (a : Option Addr) (w : World), (Instr.typeAssert (.iface 147 (.pointer a)) 33 110 true).run Tryz.prog w = .ok (.tuple #[.pointer none, .bool false]) w := fun a w => by kernel_rfl
  have a4 : ∀ (a : Option Addr) (w : World), (Instr.typeAssert (.iface 147 (.pointer a)) 33 113 true).run Tryz.prog w = .ok (.tuple #[.pointer none, .bool false]) w := fun a w => by kernel_rfl
  have a5 : ∀ (a : Option Addr) (w : World), (Instr.typeAssert (.iface 147 (.pointer a)) 33 116 true).run Tryz.prog w = .ok (.tuple #[.pointer none, .bool false]) w := fun a w => by kernel_rfl
  have a6 : ∀ (a : Option Addr) (w : World), (Instr.typeAssert (.iface 147 (.pointer a)) 33 119 true).run Tryz.prog w = .ok (.tuple #[.pointer none, .bool false]) w := fun a w => by kernel_rfl
  have a7 : ∀ (a : Option Addr) (w : World), (Instr.typeAssert (.iface 147 (.pointer a)) 33 122 true).run Tryz.prog w = .ok (.tuple #[.pointer none, .bool false]) w := fun a w => by kernel_rfl
  have a8 : ∀ (a : Option Addr) (w : World), (Instr.typeAssert (.iface 147 (.pointer a)) 33 126 true).run Tryz.prog w = .ok (.tuple #[.pointer none, .bool false]) w := fun a w => by kernel_rfl
  have a9 : ∀ (a : Option Addr) (w : World), (Instr.typeAssert (.iface 147 (.pointer a)) 33 129 true).run Tryz.prog w = .ok (.tuple #[.pointer none, .bool false]) w := fun a w => by kernel_rfl
  have a10 : ∀ (a : Option Addr) (w : World), (Instr.typeAssert (.iface 147 (.pointer a)) 33 132 true).run Tryz.prog w = .ok (.tuple #[.pointer none, .bool false]) w := fun a w => by kernel_rfl
  have a11 : ∀ (a : Option Addr) (w : World), (Instr.typeAssert (.iface 147 (.pointer a)) 33 135 true).run Tryz.prog w = .ok (.tuple #[.pointer none, .bool false]) w := fun a w => by kernel_rfl
  have a12 : ∀ (a : Option Addr) (w : World), (Instr.typeAssert (.iface 147 (.pointer a)) 33 138 true).run Tryz.prog w = .ok (.tuple #[.pointer none, .bool false]) w := fun a w => by kernel_rfl
  have a13 : ∀ (a : Option Addr) (w : World), (Instr.typeAssert (.iface 147 (.pointer a)) 33 141 true).run Tryz.prog w = .ok (.tuple #[.pointer none, .bool false]) w := fun a w => by kernel_rfl
  have a14 : ∀ (a : Option Addr) (w : World), (Instr.typeAssert (.iface 147 (.pointer a)) 33 144 true).run Tryz.prog w = .ok (.tuple #[.pointer none, .bool false]) w := fun a w => by kernel_rfl
  have a15 : ∀ (a : Option Addr) (w : World), (Instr.typeAssert (.iface 147 (.pointer a)) 33 147 true).run Tryz.prog w = .ok (.tuple #[.pointer a, .bool true]) w := fun a w => by kernel_rfl
  go_enter Tryz.func36, Tryz.ntmps36
  go_wp2_with fail
  go_ret
  exact ⟨rfl, rfl⟩

set_option maxRecDepth 100000 in
set_option maxHeartbeats 2000000 in
theorem kindCast (p : Option Addr) : KindOf (.iface 147 (.pointer p)) kCast := by
  intro w
  have a0 : ∀ (a : Option Addr) (w : World), (Instr.typeAssert (.iface 147 (.pointer a)) 33 36 true).run Tryz.prog w = .ok (.tuple #[.pointer none, .bool false]) w := fun a w => by kernel_rfl
  have a1 : ∀ (a : Option Addr) (w : World), (Instr.typeAssert (.iface 147 (.pointer a)) 33 46 true).run Tryz.prog w = .ok (.tuple #[.pointer none, .bool false]) w := fun a w => by kernel_rfl
  have a2 : ∀ (a : Option Addr) (w : World), (Instr.typeAssert (.iface 147 (.pointer a)) 33 48 true).run Tryz.prog w = .ok (.tuple #[.pointer none, .bool false]) w := fun a w => by kernel_rfl
  have a3 : ∀ (a : Option Addr) (w : World), (Instr.typeAssert (.iface 147 (.pointer a)) 33 52 true).run Tryz.prog w = .ok (.tuple #[.pointer none, .bool false]) w := fun a w => by kernel_rfl
  have a4 : ∀ (a : Option Addr) (w : World), (Instr.typeAssert (.iface 147 (.pointer a)) 33 56 true).run Tryz.prog w = .ok (.tuple #[.pointer none, .bool false]) w := fun a w => by kernel_rfl
  have a5 : ∀ (a : Option Addr) (w : World), (Instr.typeAssert (.iface 147 (.pointer a)) 33 59 true).run Tryz.prog w = .ok (.tuple #[.pointer none, .bool false]) w := fun a w => by kernel_rfl
  have a6 : ∀ (a : Option Addr) (w : World), (Instr.typeAssert (.iface 147 (.pointer a)) 33 62 true).run Tryz.prog w = .ok (.tuple #[.pointer none, .bool false]) w := fun a w => by kernel_rfl
  have a7 : ∀ (a : Option Addr) (w : World), (Instr.typeAssert (.iface 147 (.pointer a)) 33 67 true).run Tryz.prog w = .ok (.tuple #[.pointer none, .bool false]) w := fun a w => by kernel_rfl
  have a8 : ∀ (a : Option Addr) (w : World), (Instr.typeAssert (.iface 147 (.pointer a)) 33 70 true).run Tryz.prog w = .ok (.tuple #[.pointer none, .bool false]) w := fun a w => by kernel_rfl
  have a9 : ∀ (a : Option Addr) (w : World), (Instr.typeAssert (.iface 147 (.pointer a)) 33 73 true).run Tryz.prog w = .ok (.tuple #[.pointer none, .bool false]) w := fun a w => by kernel_rfl
  have a10 : ∀ (a : Option Addr) (w : World), (Instr.typeAssert (.iface 147 (.pointer a)) 33 76 true).run Tryz.prog w = .ok (.tuple #[.pointer none, .bool false]) w := fun a w => by kernel_rfl
  have a11 : ∀ (a : Option Addr) (w : World), (Instr.typeAssert (.iface 147 (.pointer a)) 33 78 true).run Tryz.prog w = .ok (.tuple #[.pointer none, .bool false]) w := fun a w => by kernel_rfl
  have a12 : ∀ (a : Option Addr) (w : World), (Instr.typeAssert (.iface 147 (.pointer a)) 33 80 true).run Tryz.prog w = .ok (.tuple #[.pointer none, .bool false]) w := fun a w => by kernel_rfl
  have a13 : ∀ (a : Option Addr) (w : World), (Instr.typeAssert (.iface 147 (.pointer a)) 33 82 true).run Tryz.prog w = .ok (.tuple #[.pointer none, .bool false]) w := fun a w => by kernel_rfl
  have a14 : ∀ (a : Option Addr) (w : World), (Instr.typeAssert (.iface 147 (.pointer a)) 33 84 true).run Tryz.prog w = .ok (.tuple #[.pointer none, .bool false]) w := fun a w => by kernel_rfl
  have a15 : ∀ (a : Option Addr) (w : World), (Instr.typeAssert (.iface 147 (.pointer a)) 33 87 true).run Tryz.prog w = .ok (.tuple #[.pointer none, .bool false]) w := fun a w => by kernel_rfl
  have a16 : ∀ (a : Option Addr) (w : World), (Instr.typeAssert (.iface 147 (.pointer a)) 33 90 true).run Tryz.prog w = .ok (.tuple #[.pointer none, .bool false]) w := fun a w => by kernel_rfl
  have a17 : ∀ (a : Option Addr) (w : World), (Instr.typeAssert (.iface 147 (.pointer a)) 33 93 true).run Tryz.prog w = .ok (.tuple #[.pointer none, .bool false]) w := fun a w => by kernel_rfl
  go_enter Tryz.func19, Tryz.ntmps19
  go_wp2_with fail
  refine (kindMoreCast p _).mono ?_
  rintro e w' ⟨rfl, rfl⟩
  go_wp2_with fail
  go_ret
  exact ⟨rfl, rfl⟩

/-- The pointers to elements, with their kinds. -/
def ptrs : List (ByteArray × Nat) := [(kName, 36), (kBuiltinType, 46), (kOperator, 48), (kConstructor, 52), (kDestructor, 56), (kQualified, 59), (kTemplate, 62), (kTyped, 67), (kFunctionType, 70), (kPointerType, 73), (kReferenceType, 76), (kRvalueReferenceType, 78), (kComplexType, 80), (kImaginaryType, 82), (kTypeWithQualifiers, 84), (kQualifiers, 87), (kQualifier, 90), (kMethodWithQualifiers, 93), (kArrayType, 101), (kVectorType, 104), (kPtrMem, 107), (kVendorQualifier, 110), (kLiteral, 119), (kArgumentPack, 122), (kClosure, 129), (kUnnamedType, 132), (kTaggedName, 135), (kCast, 147)]
theorem PtrK.mem {k : ByteArray} {p : Nat} (h : PtrK k p) : (k, p) ∈ ptrs := by
  unfold PtrK leafTab unaryTab binaryTab listTab at h
  simp only [List.mem_cons, Prod.mk.injEq, List.not_mem_nil, or_false] at h
  unfold ptrs
  simp only [List.mem_cons, Prod.mk.injEq, List.not_mem_nil, or_false]
  rcases h with ⟨ex, h | h | h⟩ | h | h
  · rcases h with h | h | h <;> (obtain ⟨rfl, rfl, _⟩ := h; simp)
  · rcases h with h | h | h | h | h | h | h | h <;> (obtain ⟨rfl, rfl, _⟩ := h; simp)
  · rcases h with h | h | h | h | h | h | h | h <;> (obtain ⟨rfl, rfl, _⟩ := h; simp)
  · rcases h with h | h <;> (obtain ⟨rfl, rfl⟩ := h; simp)
  · rcases h with h | h | h | h | h | h | h <;> (obtain ⟨rfl, rfl⟩ := h; simp)

theorem kindOfC {k : ByteArray} {p : Nat} (h : PtrK k p) (a : Option Addr) : KindOf (.iface p (.pointer a)) k := by
  have hm := h.mem
  unfold ptrs at hm
  simp only [List.mem_cons, Prod.mk.injEq, List.not_mem_nil, or_false] at hm
  rcases hm with ⟨rfl, rfl⟩ | ⟨rfl, rfl⟩ | ⟨rfl, rfl⟩ | ⟨rfl, rfl⟩ | ⟨rfl, rfl⟩ | ⟨rfl, rfl⟩ | ⟨rfl, rfl⟩ | ⟨rfl, rfl⟩ | ⟨rfl, rfl⟩ | ⟨rfl, rfl⟩ | ⟨rfl, rfl⟩ | ⟨rfl, rfl⟩ | ⟨rfl, rfl⟩ | ⟨rfl, rfl⟩ | ⟨rfl, rfl⟩ | ⟨rfl, rfl⟩ | ⟨rfl, rfl⟩ | ⟨rfl, rfl⟩ | ⟨rfl, rfl⟩ | ⟨rfl, rfl⟩ | ⟨rfl, rfl⟩ | ⟨rfl, rfl⟩ | ⟨rfl, rfl⟩ | ⟨rfl, rfl⟩ | ⟨rfl, rfl⟩ | ⟨rfl, rfl⟩ | ⟨rfl, rfl⟩ | ⟨rfl, rfl⟩
  · exact kindName a
  · exact kindBuiltinType a
  · exact kindOperator a
  · exact kindConstructor a
  · exact kindDestructor a
  · exact kindQualified a
  · exact kindTemplate a
  · exact kindTyped a
  · exact kindFunctionType a
  · exact kindPointerType a
  · exact kindReferenceType a
  · exact kindRvalueReferenceType a
  · exact kindComplexType a
  · exact kindImaginaryType a
  · exact kindTypeWithQualifiers a
  · exact kindQualifiers a
  · exact kindQualifier a
  · exact kindMethodWithQualifiers a
  · exact kindArrayType a
  · exact kindVectorType a
  · exact kindPtrMem a
  · exact kindVendorQualifier a
  · exact kindLiteral a
  · exact kindArgumentPack a
  · exact kindClosure a
  · exact kindUnnamedType a
  · exact kindTaggedName a
  · exact kindCast a
end Go.Proofs.YtlfbmpenekiigaaGreatDoor
