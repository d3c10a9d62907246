/- Which function Copy is of each kind of element; conditions: none. -/
import Derived.Test.YtlfbmpenekiigaaGreatDoorEnv
namespace Go.Proofs.YtlfbmpenekiigaaGreatDoor
open Go.ChangeShapes Go.WideShapes Go.ChangeAt Go.RowKit
set_option linter.unusedVariables false

/-- Copy of elements of the pointer type p is the function f. -/
structure Turns (p f : Nat) : Prop where
  ahead : ∀ (q : Addr) (w : World) (n : Nat), (nilAhead (n + 1) p (.pointer (some q)) "Copy").run Tryz.prog w = .ok (some false) w
  met : ∀ (q : Addr) (w : World) (n : Nat), (method (n + 1) p (.pointer (some q)) "Copy").run Tryz.prog w = .ok (f, .pointer (some q)) w
  call : ∀ (args : Array Value) (w : World), (callFunc f args).run Tryz.prog w = .ok (.enter f args) w

theorem Turns.one {p f f' : Nat} (h : Turns p f) (h' : Turns p f') (w : World) : f = f' := by
  have := (h.met ⟨0, 0, none⟩ w 0).symm.trans (h'.met ⟨0, 0, none⟩ w 0)
  injection this with this
  injection this

theorem turnsName : Turns 36 86 := ⟨fun q w n => by kernel_rfl, fun q w n => by kernel_rfl, fun args w => by kernel_rfl⟩
theorem turnsBuiltinType : Turns 46 89 := ⟨fun q w n => by kernel_rfl, fun q w n => by kernel_rfl, fun args w => by kernel_rfl⟩
theorem turnsOperator : Turns 48 92 := ⟨fun q w n => by kernel_rfl, fun q w n => by kernel_rfl, fun args w => by kernel_rfl⟩
theorem turnsConstructor : Turns 52 95 := ⟨fun q w n => by kernel_rfl, fun q w n => by kernel_rfl, fun args w => by kernel_rfl⟩
theorem turnsDestructor : Turns 56 98 := ⟨fun q w n => by kernel_rfl, fun q w n => by kernel_rfl, fun args w => by kernel_rfl⟩
theorem turnsQualified : Turns 59 101 := ⟨fun q w n => by kernel_rfl, fun q w n => by kernel_rfl, fun args w => by kernel_rfl⟩
theorem turnsTemplate : Turns 62 104 := ⟨fun q w n => by kernel_rfl, fun q w n => by kernel_rfl, fun args w => by kernel_rfl⟩
theorem turnsTyped : Turns 67 107 := ⟨fun q w n => by kernel_rfl, fun q w n => by kernel_rfl, fun args w => by kernel_rfl⟩
theorem turnsFunctionType : Turns 70 110 := ⟨fun q w n => by kernel_rfl, fun q w n => by kernel_rfl, fun args w => by kernel_rfl⟩
theorem turnsPointerType : Turns 73 113 := ⟨fun q w n => by kernel_rfl, fun q w n => by kernel_rfl, fun args w => by kernel_rfl⟩
theorem turnsReferenceType : Turns 76 116 := ⟨fun q w n => by kernel_rfl, fun q w n => by kernel_rfl, fun args w => by kernel_rfl⟩
theorem turnsRvalueReferenceType : Turns 78 119 := ⟨fun q w n => by kernel_rfl, fun q w n => by kernel_rfl, fun args w => by kernel_rfl⟩
theorem turnsComplexType : Turns 80 122 := ⟨fun q w n => by kernel_rfl, fun q w n => by kernel_rfl, fun args w => by kernel_rfl⟩
theorem turnsImaginaryType : Turns 82 125 := ⟨fun q w n => by kernel_rfl, fun q w n => by kernel_rfl, fun args w => by kernel_rfl⟩
theorem turnsTypeWithQualifiers : Turns 84 128 := ⟨fun q w n => by kernel_rfl, fun q w n => by kernel_rfl, fun args w => by kernel_rfl⟩
theorem turnsQualifiers : Turns 87 131 := ⟨fun q w n => by kernel_rfl, fun q w n => by kernel_rfl, fun args w => by kernel_rfl⟩
theorem turnsQualifier : Turns 90 134 := ⟨fun q w n => by kernel_rfl, fun q w n => by kernel_rfl, fun args w => by kernel_rfl⟩
theorem turnsMethodWithQualifiers : Turns 93 137 := ⟨fun q w n => by kernel_rfl, fun q w n => by kernel_rfl, fun args w => by kernel_rfl⟩
theorem turnsArrayType : Turns 101 140 := ⟨fun q w n => by kernel_rfl, fun q w n => by kernel_rfl, fun args w => by kernel_rfl⟩
theorem turnsVectorType : Turns 104 143 := ⟨fun q w n => by kernel_rfl, fun q w n => by kernel_rfl, fun args w => by kernel_rfl⟩
theorem turnsPtrMem : Turns 107 146 := ⟨fun q w n => by kernel_rfl, fun q w n => by kernel_rfl, fun args w => by kernel_rfl⟩
theorem turnsVendorQualifier : Turns 110 149 := ⟨fun q w n => by kernel_rfl, fun q w n => by kernel_rfl, fun args w => by kernel_rfl⟩
theorem turnsLiteral : Turns 119 158 := ⟨fun q w n => by kernel_rfl, fun q w n => by kernel_rfl, fun args w => by kernel_rfl⟩
theorem turnsArgumentPack : Turns 122 161 := ⟨fun q w n => by kernel_rfl, fun q w n => by kernel_rfl, fun args w => by kernel_rfl⟩
theorem turnsClosure : Turns 129 167 := ⟨fun q w n => by kernel_rfl, fun q w n => by kernel_rfl, fun args w => by kernel_rfl⟩
theorem turnsUnnamedType : Turns 132 170 := ⟨fun q w n => by kernel_rfl, fun q w n => by kernel_rfl, fun args w => by kernel_rfl⟩
theorem turnsTaggedName : Turns 135 173 := ⟨fun q w n => by kernel_rfl, fun q w n => by kernel_rfl, fun args w => by kernel_rfl⟩
theorem turnsCast : Turns 147 185 := ⟨fun q w n => by kernel_rfl, fun q w n => by kernel_rfl, fun args w => by kernel_rfl⟩
theorem turnsC {k : ByteArray} {p : Nat} (h : PtrK k p) : ∃ f, Turns p f := by
  have hm := h.mem
  unfold ptrs at hm
  simp only [List.mem_cons, Prod.mk.injEq, List.not_mem_nil, or_false] at hm
  rcases hm with ⟨rfl, rfl⟩ | ⟨rfl, rfl⟩ | ⟨rfl, rfl⟩ | ⟨rfl, rfl⟩ | ⟨rfl, rfl⟩ | ⟨rfl, rfl⟩ | ⟨rfl, rfl⟩ | ⟨rfl, rfl⟩ | ⟨rfl, rfl⟩ | ⟨rfl, rfl⟩ | ⟨rfl, rfl⟩ | ⟨rfl, rfl⟩ | ⟨rfl, rfl⟩ | ⟨rfl, rfl⟩ | ⟨rfl, rfl⟩ | ⟨rfl, rfl⟩ | ⟨rfl, rfl⟩ | ⟨rfl, rfl⟩ | ⟨rfl, rfl⟩ | ⟨rfl, rfl⟩ | ⟨rfl, rfl⟩ | ⟨rfl, rfl⟩ | ⟨rfl, rfl⟩ | ⟨rfl, rfl⟩ | ⟨rfl, rfl⟩ | ⟨rfl, rfl⟩ | ⟨rfl, rfl⟩ | ⟨rfl, rfl⟩
  · exact ⟨_, turnsName⟩
  · exact ⟨_, turnsBuiltinType⟩
  · exact ⟨_, turnsOperator⟩
  · exact ⟨_, turnsConstructor⟩
  · exact ⟨_, turnsDestructor⟩
  · exact ⟨_, turnsQualified⟩
  · exact ⟨_, turnsTemplate⟩
  · exact ⟨_, turnsTyped⟩
  · exact ⟨_, turnsFunctionType⟩
  · exact ⟨_, turnsPointerType⟩
  · exact ⟨_, turnsReferenceType⟩
  · exact ⟨_, turnsRvalueReferenceType⟩
  · exact ⟨_, turnsComplexType⟩
  · exact ⟨_, turnsImaginaryType⟩
  · exact ⟨_, turnsTypeWithQualifiers⟩
  · exact ⟨_, turnsQualifiers⟩
  · exact ⟨_, turnsQualifier⟩
  · exact ⟨_, turnsMethodWithQualifiers⟩
  · exact ⟨_, turnsArrayType⟩
  · exact ⟨_, turnsVectorType⟩
  · exact ⟨_, turnsPtrMem⟩
  · exact ⟨_, turnsVendorQualifier⟩
  · exact ⟨_, turnsLiteral⟩
  · exact ⟨_, turnsArgumentPack⟩
  · exact ⟨_, turnsClosure⟩
  · exact ⟨_, turnsUnnamedType⟩
  · exact ⟨_, turnsTaggedName⟩
  · exact ⟨_, turnsCast⟩
end Go.Proofs.YtlfbmpenekiigaaGreatDoor
