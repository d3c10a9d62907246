/- impl.treeOf and impl.treeOfMore: the elements that they make, for every tree; conditions: the node reads as a tree of good form, of few kids. -/
import Derived.Test.YtlfbmpenekiigaaGreatDoorToB
import Derived.Test.YtlfbmpenekiigaaGreatDoorToC
namespace Go.Proofs.YtlfbmpenekiigaaGreatDoor
open Go.ChangeShapes Go.WideShapes Go.ChangeAt Go.RowKit
set_option linter.unusedVariables false

set_option maxRecDepth 100000 in
set_option maxHeartbeats 2000000 in
/-- treeOf at a kind of treeOfMore's. -/
theorem toMore (d : Nat) (t : Tree) (kv : Value) (w : World) (M : ∀ w', Below w.heap.size w w' → Calls Tryz.prog 35 #[.agg #[.string t.kind, .string t.text, .int .i64 t.num, kv]] w' (Made w' d t)) (kf : ∃ a c, kv = .slice a t.kids.length c)
    (e0 : t.kind ≠ kName) (e1 : t.kind ≠ kBuiltinType) (e2 : t.kind ≠ kOperator) (e3 : t.kind ≠ kConstructor) (e4 : t.kind ≠ kDestructor) (e5 : t.kind ≠ kQualified) (e6 : t.kind ≠ kTemplate) (e7 : t.kind ≠ kTyped) (e8 : t.kind ≠ kFunctionType) (e9 : t.kind ≠ kPointerType) (e10 : t.kind ≠ kReferenceType) (e11 : t.kind ≠ kRvalueReferenceType) (e12 : t.kind ≠ kComplexType) (e13 : t.kind ≠ kImaginaryType) (e14 : t.kind ≠ kTypeWithQualifiers) (e15 : t.kind ≠ kQualifiers) (e16 : t.kind ≠ kQualifier) (e17 : t.kind ≠ kMethodWithQualifiers) :
    Calls Tryz.prog 16 #[.agg #[.string t.kind, .string t.text, .int .i64 t.num, kv]] w (Made w d t) := by
  obtain ⟨a, c, rfl⟩ := kf
  have HM := Lib.hid M
  have B := Lib.hid (below1 w (.cells #[.string t.kind, .string t.text, .int .i64 t.num, .slice a t.kids.length c] 24))
  have k0 := kind_ne (a := t.kind) kName e0 (l := [78, 97, 109, 101]) rfl
  have k1 := kind_ne (a := t.kind) kBuiltinType e1 (l := [66, 117, 105, 108, 116, 105, 110, 84, 121, 112, 101]) rfl
  have k2 := kind_ne (a := t.kind) kOperator e2 (l := [79, 112, 101, 114, 97, 116, 111, 114]) rfl
  have k3 := kind_ne (a := t.kind) kConstructor e3 (l := [67, 111, 110, 115, 116, 114, 117, 99, 116, 111, 114]) rfl
  have k4 := kind_ne (a := t.kind) kDestructor e4 (l := [68, 101, 115, 116, 114, 117, 99, 116, 111, 114]) rfl
  have k5 := kind_ne (a := t.kind) kQualified e5 (l := [81, 117, 97, 108, 105, 102, 105, 101, 100]) rfl
  have k6 := kind_ne (a := t.kind) kTemplate e6 (l := [84, 101, 109, 112, 108, 97, 116, 101]) rfl
  have k7 := kind_ne (a := t.kind) kTyped e7 (l := [84, 121, 112, 101, 100]) rfl
  have k8 := kind_ne (a := t.kind) kFunctionType e8 (l := [70, 117, 110, 99, 116, 105, 111, 110, 84, 121, 112, 101]) rfl
  have k9 := kind_ne (a := t.kind) kPointerType e9 (l := [80, 111, 105, 110, 116, 101, 114, 84, 121, 112, 101]) rfl
  have k10 := kind_ne (a := t.kind) kReferenceType e10 (l := [82, 101, 102, 101, 114, 101, 110, 99, 101, 84, 121, 112, 101]) rfl
  have k11 := kind_ne (a := t.kind) kRvalueReferenceType e11 (l := [82, 118, 97, 108, 117, 101, 82, 101, 102, 101, 114, 101, 110, 99, 101, 84, 121, 112, 101]) rfl
  have k12 := kind_ne (a := t.kind) kComplexType e12 (l := [67, 111, 109, 112, 108, 101, 120, 84, 121, 112, 101]) rfl
  have k13 := kind_ne (a := t.kind) kImaginaryType e13 (l := [73, 109, 97, 103, 105, 110, 97, 114, 121, 84, 121, 112, 101]) rfl
  have k14 := kind_ne (a := t.kind) kTypeWithQualifiers e14 (l := [84, 121, 112, 101, 87, 105, 116, 104, 81, 117, 97, 108, 105, 102, 105, 101, 114, 115]) rfl
  have k15 := kind_ne (a := t.kind) kQualifiers e15 (l := [81, 117, 97, 108, 105, 102, 105, 101, 114, 115]) rfl
  have k16 := kind_ne (a := t.kind) kQualifier e16 (l := [81, 117, 97, 108, 105, 102, 105, 101, 114]) rfl
  have k17 := kind_ne (a := t.kind) kMethodWithQualifiers e17 (l := [77, 101, 116, 104, 111, 100, 87, 105, 116, 104, 81, 117, 97, 108, 105, 102, 105, 101, 114, 115]) rfl
  clear M e0 e1 e2 e3 e4 e5 e6 e7 e8 e9 e10 e11 e12 e13 e14 e15 e16 e17
  go_enter Tryz.func16, Tryz.ntmps16
  go_wp2_with fail
  refine (HM.out _ B.out).mono ?_
  rintro e w1 ⟨v, rfl, hv, hb1⟩
  have V := Lib.hid (hv.wide B.out.size)
  have B1 := Lib.hid (B.out.trans (hb1.mono B.out.size))
  clear hv hb1
  go_wp2_with fail
  go_ret
  exact ⟨v, rfl, V.out, B1.out⟩

set_option maxRecDepth 100000 in
set_option maxHeartbeats 2000000 in
/-- There is no element for the node of none. -/
theorem toNone (d : Nat) (t : Tree) (kv : Value) (w : World) (h : Able w (d + 1) t kv) (ht : t = Tree.nil) :
    Calls Tryz.prog 35 #[.agg #[.string t.kind, .string t.text, .int .i64 t.num, kv]] w (Made w (d + 1) t) := by
  obtain ⟨a, c, rfl⟩ := h.kids.form
  have hk : t.kind = ByteArray.empty := by rw [ht]; rfl
  have k0 := kind_ne (a := t.kind) kArrayType (by rw [hk]; decide) (l := [65, 114, 114, 97, 121, 84, 121, 112, 101]) rfl
  have k1 := kind_ne (a := t.kind) kVectorType (by rw [hk]; decide) (l := [86, 101, 99, 116, 111, 114, 84, 121, 112, 101]) rfl
  have k2 := kind_ne (a := t.kind) kPtrMem (by rw [hk]; decide) (l := [80, 116, 114, 77, 101, 109]) rfl
  have k3 := kind_ne (a := t.kind) kVendorQualifier (by rw [hk]; decide) (l := [86, 101, 110, 100, 111, 114, 81, 117, 97, 108, 105, 102, 105, 101, 114]) rfl
  have k4 := kind_ne (a := t.kind) kSpecial (by rw [hk]; decide) (l := [83, 112, 101, 99, 105, 97, 108]) rfl
  have k5 := kind_ne (a := t.kind) kSpecial2 (by rw [hk]; decide) (l := [83, 112, 101, 99, 105, 97, 108, 50]) rfl
  have k6 := kind_ne (a := t.kind) kLiteral (by rw [hk]; decide) (l := [76, 105, 116, 101, 114, 97, 108]) rfl
  have k7 := kind_ne (a := t.kind) kArgumentPack (by rw [hk]; decide) (l := [65, 114, 103, 117, 109, 101, 110, 116, 80, 97, 99, 107]) rfl
  have k8 := kind_ne (a := t.kind) kPackExpansion (by rw [hk]; decide) (l := [80, 97, 99, 107, 69, 120, 112, 97, 110, 115, 105, 111, 110]) rfl
  have k9 := kind_ne (a := t.kind) kClosure (by rw [hk]; decide) (l := [67, 108, 111, 115, 117, 114, 101]) rfl
  have k10 := kind_ne (a := t.kind) kUnnamedType (by rw [hk]; decide) (l := [85, 110, 110, 97, 109, 101, 100, 84, 121, 112, 101]) rfl
  have k11 := kind_ne (a := t.kind) kTaggedName (by rw [hk]; decide) (l := [84, 97, 103, 103, 101, 100, 78, 97, 109, 101]) rfl
  have k12 := kind_ne (a := t.kind) kDefaultArg (by rw [hk]; decide) (l := [68, 101, 102, 97, 117, 108, 116, 65, 114, 103]) rfl
  have k13 := kind_ne (a := t.kind) kClone (by rw [hk]; decide) (l := [67, 108, 111, 110, 101]) rfl
  have k14 := kind_ne (a := t.kind) kGlobalCDtor (by rw [hk]; decide) (l := [71, 108, 111, 98, 97, 108, 67, 68, 116, 111, 114]) rfl
  have k15 := kind_ne (a := t.kind) kCast (by rw [hk]; decide) (l := [67, 97, 115, 116]) rfl
  have HT := Lib.hid ht
  have B := Lib.hid (below1 w (.cells #[.string t.kind, .string t.text, .int .i64 t.num, .slice a t.kids.length c] 24))
  clear h ht hk
  go_enter Tryz.func35, Tryz.ntmps35
  go_wp2_with fail
  go_ret
  exact ⟨.nilIface, rfl, .inl ⟨HT.out, rfl⟩, B.out⟩

theorem mem_leaf {k : ByteArray} (h : k ∈ leafKinds) : k = kName ∨ k = kBuiltinType ∨ k = kOperator := by simpa [leafKinds] using h
theorem mem_unary {k : ByteArray} (h : k ∈ unaryKinds) : k = kConstructor ∨ k = kDestructor ∨ k = kPointerType ∨ k = kReferenceType ∨ k = kRvalueReferenceType ∨ k = kComplexType ∨ k = kImaginaryType ∨ k = kCast := by simpa [unaryKinds] using h
theorem mem_binary {k : ByteArray} (h : k ∈ binaryKinds) : k = kQualified ∨ k = kTyped ∨ k = kTypeWithQualifiers ∨ k = kArrayType ∨ k = kVectorType ∨ k = kPtrMem ∨ k = kVendorQualifier ∨ k = kTaggedName := by simpa [binaryKinds] using h

set_option maxHeartbeats 2000000 in
theorem treeOfC : ∀ d, Makes 16 d := by
  intro d
  induction d with
  | zero => intro t kv w h; exact h.kids.elim
  | succ d T =>
    intro t kv w HA
    rcases HA.good.1 with hnil | hs
    · exact toMore (d + 1) t kv w (fun w' hw => toNone d t kv w' (HA.below hw) hnil) HA.kids.form (by rw [hnil]; decide) (by rw [hnil]; decide) (by rw [hnil]; decide) (by rw [hnil]; decide) (by rw [hnil]; decide) (by rw [hnil]; decide) (by rw [hnil]; decide) (by rw [hnil]; decide) (by rw [hnil]; decide) (by rw [hnil]; decide) (by rw [hnil]; decide) (by rw [hnil]; decide) (by rw [hnil]; decide) (by rw [hnil]; decide) (by rw [hnil]; decide) (by rw [hnil]; decide) (by rw [hnil]; decide) (by rw [hnil]; decide)
    · unfold Shape at hs
      rcases hs with hs | hs | hs | hs | hs | hs | hs | hs | hs | hs | hs
      · obtain ⟨hm, hn, hl⟩ := hs
        rcases mem_leaf hm with hk | hk | hk
        · exact toName d T t kv w HA hk hn hl
        · exact toBuiltinType d T t kv w HA hk hn hl
        · exact toOperator d T t kv w HA hk hn hl
      · obtain ⟨hk, ht, hl⟩ := hs
        exact toMore (d + 1) t kv w (fun w' hw => toUnnamedType d T t kv w' (HA.below hw) hk ht hl) HA.kids.form (by rw [hk]; decide) (by rw [hk]; decide) (by rw [hk]; decide) (by rw [hk]; decide) (by rw [hk]; decide) (by rw [hk]; decide) (by rw [hk]; decide) (by rw [hk]; decide) (by rw [hk]; decide) (by rw [hk]; decide) (by rw [hk]; decide) (by rw [hk]; decide) (by rw [hk]; decide) (by rw [hk]; decide) (by rw [hk]; decide) (by rw [hk]; decide) (by rw [hk]; decide) (by rw [hk]; decide)
      · obtain ⟨hk, hn, hl⟩ := hs
        exact toQualifier d T t kv w HA hk hn hl
      · obtain ⟨hm, ht, hn, x, hl, hx⟩ := hs
        rcases mem_unary hm with hk | hk | hk | hk | hk | hk | hk | hk
        · exact toConstructor d T t kv w HA x hk ht hn hl hx
        · exact toDestructor d T t kv w HA x hk ht hn hl hx
        · exact toPointerType d T t kv w HA x hk ht hn hl hx
        · exact toReferenceType d T t kv w HA x hk ht hn hl hx
        · exact toRvalueReferenceType d T t kv w HA x hk ht hn hl hx
        · exact toComplexType d T t kv w HA x hk ht hn hl hx
        · exact toImaginaryType d T t kv w HA x hk ht hn hl hx
        · exact toMore (d + 1) t kv w (fun w' hw => toCast d T t kv w' (HA.below hw) x hk ht hn hl hx) HA.kids.form (by rw [hk]; decide) (by rw [hk]; decide) (by rw [hk]; decide) (by rw [hk]; decide) (by rw [hk]; decide) (by rw [hk]; decide) (by rw [hk]; decide) (by rw [hk]; decide) (by rw [hk]; decide) (by rw [hk]; decide) (by rw [hk]; decide) (by rw [hk]; decide) (by rw [hk]; decide) (by rw [hk]; decide) (by rw [hk]; decide) (by rw [hk]; decide) (by rw [hk]; decide) (by rw [hk]; decide)
      · obtain ⟨hk, hn, x, hl, hx⟩ := hs
        exact toMore (d + 1) t kv w (fun w' hw => toLiteral d T t kv w' (HA.below hw) x hk hn hl hx) HA.kids.form (by rw [hk]; decide) (by rw [hk]; decide) (by rw [hk]; decide) (by rw [hk]; decide) (by rw [hk]; decide) (by rw [hk]; decide) (by rw [hk]; decide) (by rw [hk]; decide) (by rw [hk]; decide) (by rw [hk]; decide) (by rw [hk]; decide) (by rw [hk]; decide) (by rw [hk]; decide) (by rw [hk]; decide) (by rw [hk]; decide) (by rw [hk]; decide) (by rw [hk]; decide) (by rw [hk]; decide)
      · obtain ⟨hm, ht, hn, x, y, hl, hx, hy⟩ := hs
        rcases mem_binary hm with hk | hk | hk | hk | hk | hk | hk | hk
        · exact toQualified d T t kv w HA x y hk ht hn hl hx hy
        · exact toTyped d T t kv w HA x y hk ht hn hl hx hy
        · exact toTypeWithQualifiers d T t kv w HA x y hk ht hn hl hx hy
        · exact toMore (d + 1) t kv w (fun w' hw => toArrayType d T t kv w' (HA.below hw) x y hk ht hn hl hx hy) HA.kids.form (by rw [hk]; decide) (by rw [hk]; decide) (by rw [hk]; decide) (by rw [hk]; decide) (by rw [hk]; decide) (by rw [hk]; decide) (by rw [hk]; decide) (by rw [hk]; decide) (by rw [hk]; decide) (by rw [hk]; decide) (by rw [hk]; decide) (by rw [hk]; decide) (by rw [hk]; decide) (by rw [hk]; decide) (by rw [hk]; decide) (by rw [hk]; decide) (by rw [hk]; decide) (by rw [hk]; decide)
        · exact toMore (d + 1) t kv w (fun w' hw => toVectorType d T t kv w' (HA.below hw) x y hk ht hn hl hx hy) HA.kids.form (by rw [hk]; decide) (by rw [hk]; decide) (by rw [hk]; decide) (by rw [hk]; decide) (by rw [hk]; decide) (by rw [hk]; decide) (by rw [hk]; decide) (by rw [hk]; decide) (by rw [hk]; decide) (by rw [hk]; decide) (by rw [hk]; decide) (by rw [hk]; decide) (by rw [hk]; decide) (by rw [hk]; decide) (by rw [hk]; decide) (by rw [hk]; decide) (by rw [hk]; decide) (by rw [hk]; decide)
        · exact toMore (d + 1) t kv w (fun w' hw => toPtrMem d T t kv w' (HA.below hw) x y hk ht hn hl hx hy) HA.kids.form (by rw [hk]; decide) (by rw [hk]; decide) (by rw [hk]; decide) (by rw [hk]; decide) (by rw [hk]; decide) (by rw [hk]; decide) (by rw [hk]; decide) (by rw [hk]; decide) (by rw [hk]; decide) (by rw [hk]; decide) (by rw [hk]; decide) (by rw [hk]; decide) (by rw [hk]; decide) (by rw [hk]; decide) (by rw [hk]; decide) (by rw [hk]; decide) (by rw [hk]; decide) (by rw [hk]; decide)
        · exact toMore (d + 1) t kv w (fun w' hw => toVendorQualifier d T t kv w' (HA.below hw) x y hk ht hn hl hx hy) HA.kids.form (by rw [hk]; decide) (by rw [hk]; decide) (by rw [hk]; decide) (by rw [hk]; decide) (by rw [hk]; decide) (by rw [hk]; decide) (by rw [hk]; decide) (by rw [hk]; decide) (by rw [hk]; decide) (by rw [hk]; decide) (by rw [hk]; decide) (by rw [hk]; decide) (by rw [hk]; decide) (by rw [hk]; decide) (by rw [hk]; decide) (by rw [hk]; decide) (by rw [hk]; decide) (by rw [hk]; decide)
        · exact toMore (d + 1) t kv w (fun w' hw => toTaggedName d T t kv w' (HA.below hw) x y hk ht hn hl hx hy) HA.kids.form (by rw [hk]; decide) (by rw [hk]; decide) (by rw [hk]; decide) (by rw [hk]; decide) (by rw [hk]; decide) (by rw [hk]; decide) (by rw [hk]; decide) (by rw [hk]; decide) (by rw [hk]; decide) (by rw [hk]; decide) (by rw [hk]; decide) (by rw [hk]; decide) (by rw [hk]; decide) (by rw [hk]; decide) (by rw [hk]; decide) (by rw [hk]; decide) (by rw [hk]; decide) (by rw [hk]; decide)
      · obtain ⟨hk, hn, x, y, hl, hx⟩ := hs
        exact toMethodWithQualifiers d T t kv w HA x y hk hn hl hx
      · obtain ⟨hm, ht, hn, hx⟩ := hs
        rcases hm with hk | hk
        · exact toQualifiers d T t kv w HA hk ht hn hx
        · exact toMore (d + 1) t kv w (fun w' hw => toArgumentPack d T t kv w' (HA.below hw) hk ht hn hx) HA.kids.form (by rw [hk]; decide) (by rw [hk]; decide) (by rw [hk]; decide) (by rw [hk]; decide) (by rw [hk]; decide) (by rw [hk]; decide) (by rw [hk]; decide) (by rw [hk]; decide) (by rw [hk]; decide) (by rw [hk]; decide) (by rw [hk]; decide) (by rw [hk]; decide) (by rw [hk]; decide) (by rw [hk]; decide) (by rw [hk]; decide) (by rw [hk]; decide) (by rw [hk]; decide) (by rw [hk]; decide)
      · obtain ⟨hk, ht, hx⟩ := hs
        exact toMore (d + 1) t kv w (fun w' hw => toClosure d T t kv w' (HA.below hw) hk ht hx) HA.kids.form (by rw [hk]; decide) (by rw [hk]; decide) (by rw [hk]; decide) (by rw [hk]; decide) (by rw [hk]; decide) (by rw [hk]; decide) (by rw [hk]; decide) (by rw [hk]; decide) (by rw [hk]; decide) (by rw [hk]; decide) (by rw [hk]; decide) (by rw [hk]; decide) (by rw [hk]; decide) (by rw [hk]; decide) (by rw [hk]; decide) (by rw [hk]; decide) (by rw [hk]; decide) (by rw [hk]; decide)
      · obtain ⟨hk, ht, hn, x, l, hl, hx, hy⟩ := hs
        exact toTemplate d T t kv w HA x l hk ht hn hl hx hy
      · obtain ⟨hk, ht, hn, x, l, hl, hy⟩ := hs
        exact toFunctionType d T t kv w HA x l hk ht hn hl hy
end Go.Proofs.YtlfbmpenekiigaaGreatDoor
