/- Syntax trees in memory: how the elements of a tree of nodes lie, and that they stay; conditions: none. -/
import Derived.Test.YtlfbmpenekiigaaGreatDoorKinds
namespace Go.Proofs.YtlfbmpenekiigaaGreatDoor

theorem cell_same {w w' : World} {b : Nat} (h : w'.heap[b]? = w.heap[b]?) (o : Nat) : w'.cell? ⟨b, o, none⟩ = w.cell? ⟨b, o, none⟩ := by
  unfold World.cell?
  simp only [h]

/-- The pointers to elements with one text, with one kid, with two, and what else lies in their cells. -/
def leafTab : List (ByteArray × Nat × List Value) := [(kName, 36, []), (kBuiltinType, 46, []), (kOperator, 48, [.int .i64 0])]
def unaryTab : List (ByteArray × Nat × List Value) := [(kConstructor, 52, [.nilIface]), (kDestructor, 56, []), (kPointerType, 73, []), (kReferenceType, 76, []),
  (kRvalueReferenceType, 78, []), (kComplexType, 80, []), (kImaginaryType, 82, []), (kCast, 147, [])]
def binaryTab : List (ByteArray × Nat × List Value) := [(kQualified, 59, [.bool false]), (kTyped, 67, []), (kTypeWithQualifiers, 84, []), (kArrayType, 101, []),
  (kVectorType, 104, []), (kPtrMem, 107, []), (kVendorQualifier, 110, []), (kTaggedName, 135, [])]
def listTab : List (ByteArray × Nat) := [(kQualifiers, 87), (kArgumentPack, 122)]

def Cells (w : World) (b : Nat) (cs : List Value) : Prop := ∀ i x, cs[i]? = some x → w.cell? ⟨b, i, none⟩ = some x

/-- A slice of elements in blocks of S; N says what each of them is. -/
def RowAt (w : World) (S : Nat → Prop) (N : Tree → Value → Prop) (l : List Tree) (v : Value) : Prop :=
  ∃ a c, v = .slice a l.length c ∧ l.length ≤ c ∧ c ≤ 9223372036854775807 ∧ ∀ i x, l[i]? = some x → ∃ g u, a = some ⟨g, 0, none⟩ ∧ S g ∧ w.cell? ⟨g, i, none⟩ = some u ∧ N x u

/-- The cells of the element of a node, by its kind. -/
def Form (w : World) (S : Nat → Prop) (N : Tree → Value → Prop) (t : Tree) (p : Nat) (cs : List Value) : Prop :=
  (∃ ex, (t.kind, p, ex) ∈ leafTab ∧ t.num = 0 ∧ t.kids = [] ∧ cs = .string t.text :: ex) ∨
  (t.kind = kUnnamedType ∧ p = 132 ∧ t.text = ByteArray.empty ∧ t.kids = [] ∧ cs = [.int .i64 t.num]) ∨
  (t.kind = kQualifier ∧ p = 90 ∧ t.num = 0 ∧ t.kids = [] ∧ ∃ v, cs = [.string t.text, v] ∧ RowAt w S N [] v) ∨
  (∃ ex x u, (t.kind, p, ex) ∈ unaryTab ∧ t.text = ByteArray.empty ∧ t.num = 0 ∧ t.kids = [x] ∧ x.kind ≠ ByteArray.empty ∧ N x u ∧ cs = u :: ex) ∨
  (∃ x u, t.kind = kLiteral ∧ p = 119 ∧ (t.num = 0 ∨ t.num = 1) ∧ t.kids = [x] ∧ x.kind ≠ ByteArray.empty ∧ N x u ∧ cs = [u, .string t.text, .bool (t.num == 1)]) ∨
  (∃ ex x y u v, (t.kind, p, ex) ∈ binaryTab ∧ t.text = ByteArray.empty ∧ t.num = 0 ∧ t.kids = [x, y] ∧ x.kind ≠ ByteArray.empty ∧ y.kind ≠ ByteArray.empty ∧ N x u ∧ N y v ∧ cs = u :: v :: ex) ∨
  (∃ x y u v, t.kind = kMethodWithQualifiers ∧ p = 93 ∧ t.num = 0 ∧ t.kids = [x, y] ∧ x.kind ≠ ByteArray.empty ∧ N x u ∧ N y v ∧ cs = [u, v, .string t.text]) ∨
  (∃ v, (t.kind, p) ∈ listTab ∧ t.text = ByteArray.empty ∧ t.num = 0 ∧ (∀ x ∈ t.kids, x.kind ≠ ByteArray.empty) ∧ RowAt w S N t.kids v ∧ cs = [v]) ∨
  (∃ v0 v, t.kind = kClosure ∧ p = 129 ∧ t.text = ByteArray.empty ∧ (∀ x ∈ t.kids, x.kind ≠ ByteArray.empty) ∧ RowAt w S N [] v0 ∧ RowAt w S N t.kids v ∧ cs = [v0, .nilIface, v, .int .i64 t.num, .nilIface]) ∨
  (∃ x l u v, t.kind = kTemplate ∧ p = 62 ∧ t.text = ByteArray.empty ∧ t.num = 0 ∧ t.kids = x :: l ∧ x.kind ≠ ByteArray.empty ∧ (∀ y ∈ l, y.kind ≠ ByteArray.empty) ∧ N x u ∧ RowAt w S N l v ∧ cs = [u, v]) ∨
  (∃ x l u v, t.kind = kFunctionType ∧ p = 70 ∧ t.text = ByteArray.empty ∧ t.num = 0 ∧ t.kids = x :: l ∧ (∀ y ∈ l, y.kind ≠ ByteArray.empty) ∧ N x u ∧ RowAt w S N l v ∧ cs = [u, v, .bool false])

/-- The element of a node, in blocks of S; none for the node of no element. -/
def AstAt (w : World) (S : Nat → Prop) : Nat → Tree → Value → Prop
  | 0, _, _ => False
  | d + 1, t, v => (t = Tree.nil ∧ v = .nilIface) ∨ ∃ p b cs, v = .iface p (.pointer (some ⟨b, 0, none⟩)) ∧ S b ∧ Cells w b cs ∧ Form w S (AstAt w S d) t p cs

theorem RowAt.map {w w' : World} {S S' : Nat → Prop} {N N' : Tree → Value → Prop} {l : List Tree} {v : Value} (hS : ∀ b, S b → S' b ∧ w'.heap[b]? = w.heap[b]?) (hN : ∀ x u, x ∈ l → N x u → N' x u) (h : RowAt w S N l v) : RowAt w' S' N' l v := by
  obtain ⟨a, c, e, h1, h2, h3⟩ := h
  refine ⟨a, c, e, h1, h2, fun i x hx => ?_⟩
  obtain ⟨g, u, e, hg, hc, hn⟩ := h3 i x hx
  exact ⟨g, u, e, (hS g hg).1, (cell_same (hS g hg).2 i).trans hc, hN x u (List.mem_of_getElem? hx) hn⟩

theorem Form.map {w w' : World} {S S' : Nat → Prop} {N N' : Tree → Value → Prop} {t : Tree} {p : Nat} {cs : List Value} (hS : ∀ b, S b → S' b ∧ w'.heap[b]? = w.heap[b]?) (hN : ∀ x u, N x u → N' x u) (h : Form w S N t p cs) : Form w' S' N' t p cs := by
  have R : ∀ l v, RowAt w S N l v → RowAt w' S' N' l v := fun l v h => h.map hS (fun x u _ => hN x u)
  unfold Form at h ⊢
  rcases h with h | h | h | h | h | h | h | h | h | h | h
  · exact .inl h
  · exact .inr (.inl h)
  · obtain ⟨a, b, c, e, v, f, g⟩ := h
    exact .inr (.inr (.inl ⟨a, b, c, e, v, f, R _ _ g⟩))
  · obtain ⟨ex, x, u, a, b, c, e, f, g, k⟩ := h
    exact .inr (.inr (.inr (.inl ⟨ex, x, u, a, b, c, e, f, hN _ _ g, k⟩)))
  · obtain ⟨x, u, a, b, c, e, f, g, k⟩ := h
    exact .inr (.inr (.inr (.inr (.inl ⟨x, u, a, b, c, e, f, hN _ _ g, k⟩))))
  · obtain ⟨ex, x, y, u, v, a, b, c, e, f, f', g, g', k⟩ := h
    exact .inr (.inr (.inr (.inr (.inr (.inl ⟨ex, x, y, u, v, a, b, c, e, f, f', hN _ _ g, hN _ _ g', k⟩)))))
  · obtain ⟨x, y, u, v, a, b, c, e, f, g, g', k⟩ := h
    exact .inr (.inr (.inr (.inr (.inr (.inr (.inl ⟨x, y, u, v, a, b, c, e, f, hN _ _ g, hN _ _ g', k⟩))))))
  · obtain ⟨v, a, b, c, e, f, k⟩ := h
    exact .inr (.inr (.inr (.inr (.inr (.inr (.inr (.inl ⟨v, a, b, c, e, R _ _ f, k⟩)))))))
  · obtain ⟨v0, v, a, b, c, e, f, g, k⟩ := h
    exact .inr (.inr (.inr (.inr (.inr (.inr (.inr (.inr (.inl ⟨v0, v, a, b, c, e, R _ _ f, R _ _ g, k⟩))))))))
  · obtain ⟨x, l, u, v, a, b, c, e, f, g, g', q, r, k⟩ := h
    exact .inr (.inr (.inr (.inr (.inr (.inr (.inr (.inr (.inr (.inl ⟨x, l, u, v, a, b, c, e, f, g, g', hN _ _ q, R _ _ r, k⟩)))))))))
  · obtain ⟨x, l, u, v, a, b, c, e, f, g, q, r, k⟩ := h
    exact .inr (.inr (.inr (.inr (.inr (.inr (.inr (.inr (.inr (.inr ⟨x, l, u, v, a, b, c, e, f, g, hN _ _ q, R _ _ r, k⟩)))))))))

/-- Elements stay where their blocks stay. -/
theorem AstAt.move {w w' : World} {S S' : Nat → Prop} (hS : ∀ b, S b → S' b ∧ w'.heap[b]? = w.heap[b]?) : ∀ {d : Nat} {t : Tree} {v : Value}, AstAt w S d t v → AstAt w' S' d t v
  | 0, _, _, h => h.elim
  | d + 1, t, v, h => by
    rcases h with h | ⟨p, b, cs, e, hb, hc, hf⟩
    · exact .inl h
    · exact .inr ⟨p, b, cs, e, (hS b hb).1, fun i x hx => (cell_same (hS b hb).2 i).trans (hc i x hx), hf.map hS (fun x u h => AstAt.move hS h)⟩

theorem AstAt.more {w : World} {S : Nat → Prop} : ∀ {d : Nat} {t : Tree} {v : Value}, AstAt w S d t v → AstAt w S (d + 1) t v
  | 0, _, _, h => h.elim
  | d + 1, t, v, h => by
    rcases h with h | ⟨p, b, cs, e, hb, hc, hf⟩
    · exact .inl h
    · exact .inr ⟨p, b, cs, e, hb, hc, hf.map (fun b hb => ⟨hb, rfl⟩) (fun x u h => AstAt.more h)⟩

/-- The blocks that lie in w' and not yet in w. -/
def New (w w' : World) (b : Nat) : Prop := w.heap.size ≤ b ∧ b < w'.heap.size

/-- A pointer to an element with a kind. -/
def PtrK (k : ByteArray) (p : Nat) : Prop := (∃ ex, (k, p, ex) ∈ leafTab ∨ (k, p, ex) ∈ unaryTab ∨ (k, p, ex) ∈ binaryTab) ∨ (k, p) ∈ listTab ∨
  (k, p) ∈ [(kUnnamedType, 132), (kQualifier, 90), (kLiteral, 119), (kMethodWithQualifiers, 93), (kClosure, 129), (kTemplate, 62), (kFunctionType, 70)]

theorem Form.ptr {w : World} {S : Nat → Prop} {N : Tree → Value → Prop} {t : Tree} {p : Nat} {cs : List Value} (h : Form w S N t p cs) : PtrK t.kind p := by
  unfold Form at h
  unfold PtrK
  rcases h with h | h | h | h | h | h | h | h | h | h | h
  · obtain ⟨ex, a, _⟩ := h
    exact .inl ⟨ex, .inl a⟩
  · obtain ⟨a, b, _⟩ := h
    exact .inr (.inr (by rw [a, b]; simp))
  · obtain ⟨a, b, _⟩ := h
    exact .inr (.inr (by rw [a, b]; simp))
  · obtain ⟨ex, x, u, a, _⟩ := h
    exact .inl ⟨ex, .inr (.inl a)⟩
  · obtain ⟨x, u, a, b, _⟩ := h
    exact .inr (.inr (by rw [a, b]; simp))
  · obtain ⟨ex, x, y, u, v, a, _⟩ := h
    exact .inl ⟨ex, .inr (.inr a)⟩
  · obtain ⟨x, y, u, v, a, b, _⟩ := h
    exact .inr (.inr (by rw [a, b]; simp))
  · obtain ⟨v, a, _⟩ := h
    exact .inr (.inl a)
  · obtain ⟨v0, v, a, b, _⟩ := h
    exact .inr (.inr (by rw [a, b]; simp))
  · obtain ⟨x, l, u, v, a, b, _⟩ := h
    exact .inr (.inr (by rw [a, b]; simp))
  · obtain ⟨x, l, u, v, a, b, _⟩ := h
    exact .inr (.inr (by rw [a, b]; simp))
end Go.Proofs.YtlfbmpenekiigaaGreatDoor
