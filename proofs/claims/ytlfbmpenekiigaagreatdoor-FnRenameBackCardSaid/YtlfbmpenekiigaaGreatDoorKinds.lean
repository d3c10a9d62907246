/- Kinds of nodes, and trees of good form; plain law, no condition. -/
import Derived.Test.YtlfbmpenekiigaaGreatDoorTree
import Derived.Lib.Strings
namespace Go.Proofs.YtlfbmpenekiigaaGreatDoor

def kName : ByteArray := ⟨#[78, 97, 109, 101]⟩
def kBuiltinType : ByteArray := ⟨#[66, 117, 105, 108, 116, 105, 110, 84, 121, 112, 101]⟩
def kOperator : ByteArray := ⟨#[79, 112, 101, 114, 97, 116, 111, 114]⟩
def kConstructor : ByteArray := ⟨#[67, 111, 110, 115, 116, 114, 117, 99, 116, 111, 114]⟩
def kDestructor : ByteArray := ⟨#[68, 101, 115, 116, 114, 117, 99, 116, 111, 114]⟩
def kQualified : ByteArray := ⟨#[81, 117, 97, 108, 105, 102, 105, 101, 100]⟩
def kTemplate : ByteArray := ⟨#[84, 101, 109, 112, 108, 97, 116, 101]⟩
def kTyped : ByteArray := ⟨#[84, 121, 112, 101, 100]⟩
def kFunctionType : ByteArray := ⟨#[70, 117, 110, 99, 116, 105, 111, 110, 84, 121, 112, 101]⟩
def kPointerType : ByteArray := ⟨#[80, 111, 105, 110, 116, 101, 114, 84, 121, 112, 101]⟩
def kReferenceType : ByteArray := ⟨#[82, 101, 102, 101, 114, 101, 110, 99, 101, 84, 121, 112, 101]⟩
def kRvalueReferenceType : ByteArray := ⟨#[82, 118, 97, 108, 117, 101, 82, 101, 102, 101, 114, 101, 110, 99, 101, 84, 121, 112, 101]⟩
def kComplexType : ByteArray := ⟨#[67, 111, 109, 112, 108, 101, 120, 84, 121, 112, 101]⟩
def kImaginaryType : ByteArray := ⟨#[73, 109, 97, 103, 105, 110, 97, 114, 121, 84, 121, 112, 101]⟩
def kTypeWithQualifiers : ByteArray := ⟨#[84, 121, 112, 101, 87, 105, 116, 104, 81, 117, 97, 108, 105, 102, 105, 101, 114, 115]⟩
def kQualifiers : ByteArray := ⟨#[81, 117, 97, 108, 105, 102, 105, 101, 114, 115]⟩
def kQualifier : ByteArray := ⟨#[81, 117, 97, 108, 105, 102, 105, 101, 114]⟩
def kMethodWithQualifiers : ByteArray := ⟨#[77, 101, 116, 104, 111, 100, 87, 105, 116, 104, 81, 117, 97, 108, 105, 102, 105, 101, 114, 115]⟩
def kArrayType : ByteArray := ⟨#[65, 114, 114, 97, 121, 84, 121, 112, 101]⟩
def kVectorType : ByteArray := ⟨#[86, 101, 99, 116, 111, 114, 84, 121, 112, 101]⟩
def kPtrMem : ByteArray := ⟨#[80, 116, 114, 77, 101, 109]⟩
def kVendorQualifier : ByteArray := ⟨#[86, 101, 110, 100, 111, 114, 81, 117, 97, 108, 105, 102, 105, 101, 114]⟩
def kLiteral : ByteArray := ⟨#[76, 105, 116, 101, 114, 97, 108]⟩
def kArgumentPack : ByteArray := ⟨#[65, 114, 103, 117, 109, 101, 110, 116, 80, 97, 99, 107]⟩
def kClosure : ByteArray := ⟨#[67, 108, 111, 115, 117, 114, 101]⟩
def kUnnamedType : ByteArray := ⟨#[85, 110, 110, 97, 109, 101, 100, 84, 121, 112, 101]⟩
def kTaggedName : ByteArray := ⟨#[84, 97, 103, 103, 101, 100, 78, 97, 109, 101]⟩
def kCast : ByteArray := ⟨#[67, 97, 115, 116]⟩
def kSpecial : ByteArray := ⟨#[83, 112, 101, 99, 105, 97, 108]⟩
def kSpecial2 : ByteArray := ⟨#[83, 112, 101, 99, 105, 97, 108, 50]⟩
def kPackExpansion : ByteArray := ⟨#[80, 97, 99, 107, 69, 120, 112, 97, 110, 115, 105, 111, 110]⟩
def kDefaultArg : ByteArray := ⟨#[68, 101, 102, 97, 117, 108, 116, 65, 114, 103]⟩
def kClone : ByteArray := ⟨#[67, 108, 111, 110, 101]⟩
def kGlobalCDtor : ByteArray := ⟨#[71, 108, 111, 98, 97, 108, 67, 68, 116, 111, 114]⟩
def kTemplateParam : ByteArray := ⟨#[84, 101, 109, 112, 108, 97, 116, 101, 80, 97, 114, 97, 109]⟩

instance byteMem (a : ByteArray) (l : List ByteArray) : Decidable (a ∈ l) := @List.instDecidableMemOfLawfulBEq _ instBEqOfDecidableEq inferInstance a l
theorem Tree.eta (t : Tree) : (⟨t.kind, t.text, t.num, t.kids⟩ : Tree) = t := by cases t; rfl

def leafKinds : List ByteArray := [kName, kBuiltinType, kOperator]
def unaryKinds : List ByteArray := [kConstructor, kDestructor, kPointerType, kReferenceType, kRvalueReferenceType, kComplexType, kImaginaryType, kCast]
def binaryKinds : List ByteArray := [kQualified, kTyped, kTypeWithQualifiers, kArrayType, kVectorType, kPtrMem, kVendorQualifier, kTaggedName]

/-- An element's form: its kind, and what goes with it. -/
def Shape (t : Tree) : Prop :=
  (t.kind ∈ leafKinds ∧ t.num = 0 ∧ t.kids = []) ∨
  (t.kind = kUnnamedType ∧ t.text = ByteArray.empty ∧ t.kids = []) ∨
  (t.kind = kQualifier ∧ t.num = 0 ∧ t.kids = []) ∨
  (t.kind ∈ unaryKinds ∧ t.text = ByteArray.empty ∧ t.num = 0 ∧ ∃ x, t.kids = [x] ∧ x.kind ≠ ByteArray.empty) ∨
  (t.kind = kLiteral ∧ (t.num = 0 ∨ t.num = 1) ∧ ∃ x, t.kids = [x] ∧ x.kind ≠ ByteArray.empty) ∨
  (t.kind ∈ binaryKinds ∧ t.text = ByteArray.empty ∧ t.num = 0 ∧ ∃ x y, t.kids = [x, y] ∧ x.kind ≠ ByteArray.empty ∧ y.kind ≠ ByteArray.empty) ∨
  (t.kind = kMethodWithQualifiers ∧ t.num = 0 ∧ ∃ x y, t.kids = [x, y] ∧ x.kind ≠ ByteArray.empty) ∨
  ((t.kind = kQualifiers ∨ t.kind = kArgumentPack) ∧ t.text = ByteArray.empty ∧ t.num = 0 ∧ ∀ x ∈ t.kids, x.kind ≠ ByteArray.empty) ∨
  (t.kind = kClosure ∧ t.text = ByteArray.empty ∧ ∀ x ∈ t.kids, x.kind ≠ ByteArray.empty) ∨
  (t.kind = kTemplate ∧ t.text = ByteArray.empty ∧ t.num = 0 ∧ ∃ x l, t.kids = x :: l ∧ x.kind ≠ ByteArray.empty ∧ ∀ y ∈ l, y.kind ≠ ByteArray.empty) ∨
  (t.kind = kFunctionType ∧ t.text = ByteArray.empty ∧ t.num = 0 ∧ ∃ x l, t.kids = x :: l ∧ ∀ y ∈ l, y.kind ≠ ByteArray.empty)

/-- Each element of a tree of at most this depth. -/
def All (P : Tree → Prop) : Nat → Tree → Prop
  | 0, _ => False
  | d + 1, t => P t ∧ ∀ x ∈ t.kids, All P d x

def Good (t : Tree) : Prop := t = Tree.nil ∨ Shape t

/-- A tree of good form, with an element at its root. -/
def Fine (d : Nat) (t : Tree) : Prop := All Good d t ∧ Shape t

theorem All.more {P : Tree → Prop} : ∀ {d : Nat} {t : Tree}, All P d t → All P (d + 1) t
  | 0, _, h => h.elim
  | _ + 1, _, h => ⟨h.1, fun x hx => All.more (h.2 x hx)⟩
theorem Fine.more {d : Nat} {t : Tree} (h : Fine d t) : Fine (d + 1) t := ⟨h.1.more, h.2⟩
theorem Fine.mk {d : Nat} {t : Tree} (h : Shape t) (hk : ∀ x ∈ t.kids, All Good d x) : Fine (d + 1) t := ⟨⟨.inr h, hk⟩, h⟩
theorem Fine.kid {d : Nat} {t x : Tree} (h : Fine (d + 1) t) (hx : x ∈ t.kids) : All Good d x := h.1.2 x hx
theorem All.kinded {d : Nat} {t : Tree} (h : All Good d t) (hk : t.kind ≠ ByteArray.empty) : Fine d t := by
  cases d with
  | zero => exact h.elim
  | succ d => rcases h.1 with rfl | hs
              · exact (hk rfl).elim
              · exact ⟨h, hs⟩

theorem bytes_of {a b : ByteArray} (h : a.toList = b.toList) : a = b := by
  rw [Lib.toList_data, Lib.toList_data] at h
  exact Go.WideShapes.bytes_inj h
theorem empty_of_nil {a : ByteArray} (h : a.toList = []) : a = ByteArray.empty := bytes_of (by rw [h, Lib.toList_data]; rfl)
theorem kind_eq {a : ByteArray} {l : List UInt8} (h : a.toList = l) (k : ByteArray) (hk : k.data.toList = l) : a = k := bytes_of (by rw [h, Lib.toList_data, hk])
theorem kind_beq {a : ByteArray} {l : List UInt8} (h : (a.toList == l) = true) (k : ByteArray) (hk : k.data.toList = l) : a = k := kind_eq (by simpa using h) k hk
theorem kind_ne {a : ByteArray} {l : List UInt8} (k : ByteArray) (h : a ≠ k) (hk : k.data.toList = l) : (a.toList == l) = false := by
  cases e : (a.toList == l) with
  | false => rfl
  | true => exact (h (kind_beq e k hk)).elim
theorem kind_is {a : ByteArray} {l : List UInt8} (k : ByteArray) (h : a = k) (hk : k.data.toList = l) : (a.toList == l) = true := by
  rw [h, Lib.toList_data, hk]; simp

theorem eName {a : ByteArray} (h : a.toList = [78, 97, 109, 101]) : a = kName := kind_eq h _ rfl
theorem bName {a : ByteArray} (h : (a.toList == [78, 97, 109, 101]) = true) : a = kName := kind_beq h _ rfl
theorem eBuiltinType {a : ByteArray} (h : a.toList = [66, 117, 105, 108, 116, 105, 110, 84, 121, 112, 101]) : a = kBuiltinType := kind_eq h _ rfl
theorem bBuiltinType {a : ByteArray} (h : (a.toList == [66, 117, 105, 108, 116, 105, 110, 84, 121, 112, 101]) = true) : a = kBuiltinType := kind_beq h _ rfl
theorem eOperator {a : ByteArray} (h : a.toList = [79, 112, 101, 114, 97, 116, 111, 114]) : a = kOperator := kind_eq h _ rfl
theorem bOperator {a : ByteArray} (h : (a.toList == [79, 112, 101, 114, 97, 116, 111, 114]) = true) : a = kOperator := kind_beq h _ rfl
theorem eConstructor {a : ByteArray} (h : a.toList = [67, 111, 110, 115, 116, 114, 117, 99, 116, 111, 114]) : a = kConstructor := kind_eq h _ rfl
theorem bConstructor {a : ByteArray} (h : (a.toList == [67, 111, 110, 115, 116, 114, 117, 99, 116, 111, 114]) = true) : a = kConstructor := kind_beq h _ rfl
theorem eDestructor {a : ByteArray} (h : a.toList = [68, 101, 115, 116, 114, 117, 99, 116, 111, 114]) : a = kDestructor := kind_eq h _ rfl
theorem bDestructor {a : ByteArray} (h : (a.toList == [68, 101, 115, 116, 114, 117, 99, 116, 111, 114]) = true) : a = kDestructor := kind_beq h _ rfl
theorem eQualified {a : ByteArray} (h : a.toList = [81, 117, 97, 108, 105, 102, 105, 101, 100]) : a = kQualified := kind_eq h _ rfl
theorem bQualified {a : ByteArray} (h : (a.toList == [81, 117, 97, 108, 105, 102, 105, 101, 100]) = true) : a = kQualified := kind_beq h _ rfl
theorem eTemplate {a : ByteArray} (h : a.toList = [84, 101, 109, 112, 108, 97, 116, 101]) : a = kTemplate := kind_eq h _ rfl
theorem bTemplate {a : ByteArray} (h : (a.toList == [84, 101, 109, 112, 108, 97, 116, 101]) = true) : a = kTemplate := kind_beq h _ rfl
theorem eTyped {a : ByteArray} (h : a.toList = [84, 121, 112, 101, 100]) : a = kTyped := kind_eq h _ rfl
theorem bTyped {a : ByteArray} (h : (a.toList == [84, 121, 112, 101, 100]) = true) : a = kTyped := kind_beq h _ rfl
theorem eFunctionType {a : ByteArray} (h : a.toList = [70, 117, 110, 99, 116, 105, 111, 110, 84, 121, 112, 101]) : a = kFunctionType := kind_eq h _ rfl
theorem bFunctionType {a : ByteArray} (h : (a.toList == [70, 117, 110, 99, 116, 105, 111, 110, 84, 121, 112, 101]) = true) : a = kFunctionType := kind_beq h _ rfl
theorem ePointerType {a : ByteArray} (h : a.toList = [80, 111, 105, 110, 116, 101, 114, 84, 121, 112, 101]) : a = kPointerType := kind_eq h _ rfl
theorem bPointerType {a : ByteArray} (h : (a.toList == [80, 111, 105, 110, 116, 101, 114, 84, 121, 112, 101]) = true) : a = kPointerType := kind_beq h _ rfl
theorem eReferenceType {a : ByteArray} (h : a.toList = [82, 101, 102, 101, 114, 101, 110, 99, 101, 84, 121, 112, 101]) : a = kReferenceType := kind_eq h _ rfl
theorem bReferenceType {a : ByteArray} (h : (a.toList == [82, 101, 102, 101, 114, 101, 110, 99, 101, 84, 121, 112, 101]) = true) : a = kReferenceType := kind_beq h _ rfl
theorem eRvalueReferenceType {a : ByteArray} (h : a.toList = [82, 118, 97, 108, 117, 101, 82, 101, 102, 101, 114, 101, 110, 99, 101, 84, 121, 112, 101]) : a = kRvalueReferenceType := kind_eq h _ rfl
theorem bRvalueReferenceType {a : ByteArray} (h : (a.toList == [82, 118, 97, 108, 117, 101, 82, 101, 102, 101, 114, 101, 110, 99, 101, 84, 121, 112, 101]) = true) : a = kRvalueReferenceType := kind_beq h _ rfl
theorem eComplexType {a : ByteArray} (h : a.toList = [67, 111, 109, 112, 108, 101, 120, 84, 121, 112, 101]) : a = kComplexType := kind_eq h _ rfl
theorem bComplexType {a : ByteArray} (h : (a.toList == [67, 111, 109, 112, 108, 101, 120, 84, 121, 112, 101]) = true) : a = kComplexType := kind_beq h _ rfl
theorem eImaginaryType {a : ByteArray} (h : a.toList = [73, 109, 97, 103, 105, 110, 97, 114, 121, 84, 121, 112, 101]) : a = kImaginaryType := kind_eq h _ rfl
theorem bImaginaryType {a : ByteArray} (h : (a.toList == [73, 109, 97, 103, 105, 110, 97, 114, 121, 84, 121, 112, 101]) = true) : a = kImaginaryType := kind_beq h _ rfl
theorem eTypeWithQualifiers {a : ByteArray} (h : a.toList = [84, 121, 112, 101, 87, 105, 116, 104, 81, 117, 97, 108, 105, 102, 105, 101, 114, 115]) : a = kTypeWithQualifiers := kind_eq h _ rfl
theorem bTypeWithQualifiers {a : ByteArray} (h : (a.toList == [84, 121, 112, 101, 87, 105, 116, 104, 81, 117, 97, 108, 105, 102, 105, 101, 114, 115]) = true) : a = kTypeWithQualifiers := kind_beq h _ rfl
theorem eQualifiers {a : ByteArray} (h : a.toList = [81, 117, 97, 108, 105, 102, 105, 101, 114, 115]) : a = kQualifiers := kind_eq h _ rfl
theorem bQualifiers {a : ByteArray} (h : (a.toList == [81, 117, 97, 108, 105, 102, 105, 101, 114, 115]) = true) : a = kQualifiers := kind_beq h _ rfl
theorem eQualifier {a : ByteArray} (h : a.toList = [81, 117, 97, 108, 105, 102, 105, 101, 114]) : a = kQualifier := kind_eq h _ rfl
theorem bQualifier {a : ByteArray} (h : (a.toList == [81, 117, 97, 108, 105, 102, 105, 101, 114]) = true) : a = kQualifier := kind_beq h _ rfl
theorem eMethodWithQualifiers {a : ByteArray} (h : a.toList = [77, 101, 116, 104, 111, 100, 87, 105, 116, 104, 81, 117, 97, 108, 105, 102, 105, 101, 114, 115]) : a = kMethodWithQualifiers := kind_eq h _ rfl
theorem bMethodWithQualifiers {a : ByteArray} (h : (a.toList == [77, 101, 116, 104, 111, 100, 87, 105, 116, 104, 81, 117, 97, 108, 105, 102, 105, 101, 114, 115]) = true) : a = kMethodWithQualifiers := kind_beq h _ rfl
theorem eArrayType {a : ByteArray} (h : a.toList = [65, 114, 114, 97, 121, 84, 121, 112, 101]) : a = kArrayType := kind_eq h _ rfl
theorem bArrayType {a : ByteArray} (h : (a.toList == [65, 114, 114, 97, 121, 84, 121, 112, 101]) = true) : a = kArrayType := kind_beq h _ rfl
theorem eVectorType {a : ByteArray} (h : a.toList = [86, 101, 99, 116, 111, 114, 84, 121, 112, 101]) : a = kVectorType := kind_eq h _ rfl
theorem bVectorType {a : ByteArray} (h : (a.toList == [86, 101, 99, 116, 111, 114, 84, 121, 112, 101]) = true) : a = kVectorType := kind_beq h _ rfl
theorem ePtrMem {a : ByteArray} (h : a.toList = [80, 116, 114, 77, 101, 109]) : a = kPtrMem := kind_eq h _ rfl
theorem bPtrMem {a : ByteArray} (h : (a.toList == [80, 116, 114, 77, 101, 109]) = true) : a = kPtrMem := kind_beq h _ rfl
theorem eVendorQualifier {a : ByteArray} (h : a.toList = [86, 101, 110, 100, 111, 114, 81, 117, 97, 108, 105, 102, 105, 101, 114]) : a = kVendorQualifier := kind_eq h _ rfl
theorem bVendorQualifier {a : ByteArray} (h : (a.toList == [86, 101, 110, 100, 111, 114, 81, 117, 97, 108, 105, 102, 105, 101, 114]) = true) : a = kVendorQualifier := kind_beq h _ rfl
theorem eLiteral {a : ByteArray} (h : a.toList = [76, 105, 116, 101, 114, 97, 108]) : a = kLiteral := kind_eq h _ rfl
theorem bLiteral {a : ByteArray} (h : (a.toList == [76, 105, 116, 101, 114, 97, 108]) = true) : a = kLiteral := kind_beq h _ rfl
theorem eArgumentPack {a : ByteArray} (h : a.toList = [65, 114, 103, 117, 109, 101, 110, 116, 80, 97, 99, 107]) : a = kArgumentPack := kind_eq h _ rfl
theorem bArgumentPack {a : ByteArray} (h : (a.toList == [65, 114, 103, 117, 109, 101, 110, 116, 80, 97, 99, 107]) = true) : a = kArgumentPack := kind_beq h _ rfl
theorem eClosure {a : ByteArray} (h : a.toList = [67, 108, 111, 115, 117, 114, 101]) : a = kClosure := kind_eq h _ rfl
theorem bClosure {a : ByteArray} (h : (a.toList == [67, 108, 111, 115, 117, 114, 101]) = true) : a = kClosure := kind_beq h _ rfl
theorem eUnnamedType {a : ByteArray} (h : a.toList = [85, 110, 110, 97, 109, 101, 100, 84, 121, 112, 101]) : a = kUnnamedType := kind_eq h _ rfl
theorem bUnnamedType {a : ByteArray} (h : (a.toList == [85, 110, 110, 97, 109, 101, 100, 84, 121, 112, 101]) = true) : a = kUnnamedType := kind_beq h _ rfl
theorem eTaggedName {a : ByteArray} (h : a.toList = [84, 97, 103, 103, 101, 100, 78, 97, 109, 101]) : a = kTaggedName := kind_eq h _ rfl
theorem bTaggedName {a : ByteArray} (h : (a.toList == [84, 97, 103, 103, 101, 100, 78, 97, 109, 101]) = true) : a = kTaggedName := kind_beq h _ rfl
theorem eCast {a : ByteArray} (h : a.toList = [67, 97, 115, 116]) : a = kCast := kind_eq h _ rfl
theorem bCast {a : ByteArray} (h : (a.toList == [67, 97, 115, 116]) = true) : a = kCast := kind_beq h _ rfl
end Go.Proofs.YtlfbmpenekiigaaGreatDoor
