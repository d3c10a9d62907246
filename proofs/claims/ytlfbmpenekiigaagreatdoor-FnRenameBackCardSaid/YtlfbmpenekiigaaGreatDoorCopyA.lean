/- Copy with the closures of Rename: what is said of it, and how elements are carried along; conditions: none. -/
import Derived.Test.YtlfbmpenekiigaaGreatDoorTurn
import Derived.Test.YtlfbmpenekiigaaGreatDoorToA
namespace Go.Proofs.YtlfbmpenekiigaaGreatDoor
open Go.ChangeShapes Go.WideShapes Go.ChangeAt Go.RowKit
set_option linter.unusedVariables false

def fnV (pf pt : Nat) : Value := .func (.func 17) #[] #[.pointer (some ⟨pf, 0, none⟩), .pointer (some ⟨pt, 0, none⟩)]
def skV (ps : Nat) : Value := .func (.func 18) #[] #[.pointer (some ⟨ps, 0, none⟩)]

/-- The blocks of an element that came in, and new ones. -/
def Old (S : Nat → Prop) (w w' : World) (b : Nat) : Prop := S b ∨ New w w' b

/-- What Copy says: no copy where there is no name to replace, else an element of the tree with the names replaced. -/
def CopySaid (S : Nat → Prop) (w : World) (d : Nat) (t : Tree) (f g : ByteArray) (e : Ending) (w' : World) : Prop :=
  Below w.heap.size w w' ∧ ((¬ has f d t ∧ e = .returned .nilIface) ∨ (has f d t ∧ ∃ p b, e = .returned (.iface p (.pointer (some ⟨b, 0, none⟩))) ∧ AstAt w' (Old S w w') d (ren f g d t) (.iface p (.pointer (some ⟨b, 0, none⟩)))))

/-- A node that Copy serves: no qualifier of a vendor, few kids. -/
def Okay (x : Tree) : Prop := x.kind ≠ kVendorQualifier ∧ x.kids.length ≤ 200

/-- An element to be copied. -/
structure Job (w : World) (S : Nat → Prop) (d : Nat) (t : Tree) (v : Value) : Prop where
  ast : AstAt w S d t v
  kind : t.kind ≠ ByteArray.empty
  nov : All Okay d t
  low : ∀ b, S b → b < w.heap.size

theorem AstAt.kept {w w' : World} {S : Nat → Prop} {d : Nat} {t : Tree} {v : Value} (h : AstAt w S d t v) (low : ∀ b, S b → b < w.heap.size) (hb : Below w.heap.size w w') : AstAt w' (Old S w w') d t v :=
  h.move fun b hS => ⟨.inl hS, hb.block b (low b hS)⟩

theorem Job.below {w w' : World} {S : Nat → Prop} {d : Nat} {t : Tree} {v : Value} (h : Job w S d t v) (hb : Below w.heap.size w w') : Job w' S d t v :=
  ⟨h.ast.move fun b hS => ⟨hS, hb.block b (h.low b hS)⟩, h.kind, h.nov, fun b hS => Nat.lt_of_lt_of_le (h.low b hS) hb.size⟩

theorem AstAt.carry {w w1 w2 w3 : World} {S : Nat → Prop} {d : Nat} {t : Tree} {v : Value} (h : AstAt w2 (Old S w1 w2) d t v) (low : ∀ b, S b → b < w1.heap.size) (h01 : w.heap.size ≤ w1.heap.size) (h12 : w1.heap.size ≤ w2.heap.size) (hb : Below w2.heap.size w2 w3) :
    AstAt w3 (Old S w w3) d t v :=
  h.move fun b hS => by
    rcases hS with hS | hS
    · exact ⟨.inl hS, hb.block b (Nat.lt_of_lt_of_le (low b hS) h12)⟩
    · exact ⟨.inr (hS.wide h01 hb.size), hb.block b hS.2⟩

/-- What Copy makes of elements of a depth. -/
def CopyAll (d : Nat) : Prop := ∀ (w : World) (S : Nat → Prop) (t : Tree) (v : Value) (f g : ByteArray) (pf pt ps : Nat), Job w S d t v → Env w f g pf pt ps → ∀ (p b F : Nat), v = .iface p (.pointer (some ⟨b, 0, none⟩)) → Turns p F →
  Calls Tryz.prog F #[.pointer (some ⟨b, 0, none⟩), .func (.func 17) #[] #[.pointer (some ⟨pf, 0, none⟩), .pointer (some ⟨pt, 0, none⟩)], .func (.func 18) #[] #[.pointer (some ⟨ps, 0, none⟩)]] w (CopySaid S w d t f g)

theorem ren_other {f g : ByteArray} {d : Nat} {t : Tree} (h : t.kind ≠ kName) : ren f g (d + 1) t = ⟨t.kind, t.text, t.num, t.kids.map (ren f g d)⟩ := by
  unfold ren
  rw [if_neg (fun e => h e.1)]
theorem ren_name {f g : ByteArray} {d : Nat} {t : Tree} (h : t.kind = kName) (h' : t.text = f) : ren f g (d + 1) t = ⟨kName, g, 0, []⟩ := by
  unfold ren
  rw [if_pos ⟨h, h'⟩]
theorem has_kid {f : ByteArray} {d : Nat} {t x : Tree} (h : x ∈ t.kids) (hx : has f d x) : has f (d + 1) t := .inr ⟨x, h, hx⟩
theorem has_of_kids {f : ByteArray} {d : Nat} {t : Tree} (hk : t.kind ≠ kName) (h : has f (d + 1) t) : ∃ x ∈ t.kids, has f d x := by
  rcases h with h | h
  · exact (hk h.1).elim
  · exact h
theorem has_list {f : ByteArray} {d : Nat} {t : Tree} {l : List Tree} (hk : t.kind ≠ kName) (e : t.kids = l) (h : has f (d + 1) t) : match l with | [x] => has f d x | [x, y] => has f d x ∨ has f d y | _ => True := by
  obtain ⟨x, hx, hh⟩ := has_of_kids hk h
  rw [e] at hx
  rcases l with _ | ⟨a, _ | ⟨b, _ | ⟨c, l⟩⟩⟩
  · trivial
  · obtain rfl : x = a := by simpa using hx
    exact hh
  · rcases List.mem_cons.1 hx with rfl | hx
    · exact .inl hh
    · obtain rfl : x = b := by simpa using hx
      exact .inr hh
  · trivial
theorem has_nil (f : ByteArray) (d : Nat) : ¬ has f d Tree.nil := by
  cases d with
  | zero => exact fun h => h
  | succ d =>
    rintro (h | ⟨x, hx, _⟩)
    · exact absurd h.1 (by decide)
    · cases hx
theorem alloc_here {w : World} {o : Obj} {n : Nat} (h : n = w.heap.size) : (w.alloc o).heap[n]? = some o := by rw [h]; exact heap_alloc_new w o
theorem ptrs_kind {k : ByteArray} {p : Nat} (h : (k, p) ∈ ptrs) : k ≠ ByteArray.empty := by
  unfold ptrs at h
  simp only [List.mem_cons, Prod.mk.injEq, List.not_mem_nil, or_false] at h
  rcases h with ⟨rfl, rfl⟩ | ⟨rfl, rfl⟩ | ⟨rfl, rfl⟩ | ⟨rfl, rfl⟩ | ⟨rfl, rfl⟩ | ⟨rfl, rfl⟩ | ⟨rfl, rfl⟩ | ⟨rfl, rfl⟩ | ⟨rfl, rfl⟩ | ⟨rfl, rfl⟩ | ⟨rfl, rfl⟩ | ⟨rfl, rfl⟩ | ⟨rfl, rfl⟩ | ⟨rfl, rfl⟩ | ⟨rfl, rfl⟩ | ⟨rfl, rfl⟩ | ⟨rfl, rfl⟩ | ⟨rfl, rfl⟩ | ⟨rfl, rfl⟩ | ⟨rfl, rfl⟩ | ⟨rfl, rfl⟩ | ⟨rfl, rfl⟩ | ⟨rfl, rfl⟩ | ⟨rfl, rfl⟩ | ⟨rfl, rfl⟩ | ⟨rfl, rfl⟩ | ⟨rfl, rfl⟩ | ⟨rfl, rfl⟩ | ⟨rfl, rfl⟩
  all_goals decide

/-- An element, or none. -/
theorem AstAt.some_or {w : World} {S : Nat → Prop} {d : Nat} {t : Tree} {v : Value} (h : AstAt w S d t v) : t.kind ≠ ByteArray.empty ∨ (t = Tree.nil ∧ v = .nilIface ∧ 0 < d) := by
  cases d with
  | zero => exact h.elim
  | succ d =>
    rcases h with ⟨e, e'⟩ | ⟨p, b, cs, e, _, _, hf⟩
    · exact .inr ⟨e, e', Nat.succ_pos d⟩
    · exact .inl (ptrs_kind hf.ptr.mem)
end Go.Proofs.YtlfbmpenekiigaaGreatDoor
