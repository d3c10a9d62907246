/- A row of elements that Copy fills: how it stands in a round; plain law over memory, no condition. -/
import Derived.Test.YtlfbmpenekiigaaGreatDoorCopyA
import Derived.OwnWalk
namespace Go.Proofs.YtlfbmpenekiigaaGreatDoor
open Go.ChangeShapes Go.WideShapes Go.ChangeAt Go.RowKit
set_option linter.unusedVariables false

/-- A row made in the world W, at the block g: its first j places are filled with the elements of l with the names replaced. -/
def Fill (W wr : World) (S : Nat → Prop) (g : Nat) (xs : List Value) (d : Nat) (f h : ByteArray) (l : List Tree) (j : Nat) : Prop :=
  wr.ownsRow W.heap.size 33 1 (.slice (some ⟨g, 0, none⟩) l.length l.length) l.length xs ∧ Below W.heap.size W wr ∧
    ∀ (i : Nat) (x : Tree), i < j → l[i]? = some x → ∃ u, xs[i]? = some u ∧ AstAt wr (fun b => Old S W wr b ∧ b ≠ g) d (ren f h d x) u

theorem Fill.start {W w1 : World} {S : Nat → Prop} {g : Nat} {xs : List Value} {d : Nat} {f h : ByteArray} {l : List Tree} (ho : w1.ownsRow W.heap.size 33 1 (.slice (some ⟨g, 0, none⟩) l.length l.length) l.length xs) (hb : Below W.heap.size W w1) :
    Fill W w1 S g xs d f h l 0 := ⟨ho, hb, fun i x hi => by omega⟩

theorem Fill.lt {W wr : World} {S : Nat → Prop} {g : Nat} {xs : List Value} {d : Nat} {f h : ByteArray} {l : List Tree} {j : Nat} (hf : Fill W wr S g xs d f h l j) : W.heap.size ≤ g ∧ g < wr.heap.size := hf.1.lt g rfl

theorem Fill.step {W wr w1 : World} {S : Nat → Prop} {g : Nat} {xs : List Value} {d : Nat} {f h : ByteArray} {l : List Tree} {j : Nat} {x : Tree} {u : Value} (hf : Fill W wr S g xs d f h l j) (low : ∀ b, S b → b < W.heap.size) (hb : Below wr.heap.size wr w1)
    (hx : l[j]? = some x) (hu : AstAt w1 (Old S wr w1) d (ren f h d x) u) : Fill W (w1.setCell ⟨g, j, none⟩ u) S g (xs.set j u) d f h l (j + 1) := by
  obtain ⟨ho, hB, hel⟩ := hf
  obtain ⟨hg1, hg2⟩ := ho.lt g rfl
  have hs := hb.size
  have hsz : (w1.setCell ⟨g, j, none⟩ u).heap.size = w1.heap.size := by simp [World.setCell]
  have hj := (List.getElem?_eq_some_iff.1 hx).1
  have hxl : xs.length = l.length := by simpa using ho.1
  have ho1 := ho.kept (grown_of_below hb) (.inr (by simp [Value.ownBlock]))
  refine ⟨(ho1.stored j u).1, (hB.trans (hb.mono (by have := hB.size; omega))).setCell hg1 u, fun i y hi hy => ?_⟩
  by_cases e : i = j
  · subst e
    obtain rfl : x = y := by rw [hx] at hy; exact Option.some.inj hy
    refine ⟨u, by rw [List.getElem?_set_self (by omega)], hu.move fun b hS => ?_⟩
    have hne : b ≠ g := by
      rcases hS with hS | hS
      · have := low b hS; omega
      · have := hS.1; omega
    refine ⟨⟨?_, hne⟩, Below.heap_setCell _ _ _ _ hne⟩
    rcases hS with hS | hS
    · exact .inl hS
    · exact .inr (hS.wide (by have := hB.size; omega) (by omega))
  · obtain ⟨v, hv, ha⟩ := hel i y (by omega) hy
    refine ⟨v, by rw [List.getElem?_set_ne (by omega)]; exact hv, ha.move fun b hS => ?_⟩
    have hlt : b < wr.heap.size := by
      rcases hS.1 with h1 | h1
      · have := low b h1; have := hB.size; omega
      · exact h1.2
    refine ⟨⟨?_, hS.2⟩, (Below.heap_setCell _ _ _ _ hS.2).trans (hb.block b hlt)⟩
    rcases hS.1 with h1 | h1
    · exact .inl h1
    · exact .inr (h1.wide (Nat.le_refl _) (by omega))

theorem Fill.done {w W wr wf : World} {S : Nat → Prop} {g : Nat} {xs : List Value} {d : Nat} {f h : ByteArray} {l : List Tree} (hf : Fill W wr S g xs d f h l l.length) (low : ∀ b, S b → b < W.heap.size) (h0 : w.heap.size ≤ W.heap.size) (hb : Below wr.heap.size wr wf) (hm : l.length ≤ 1000) :
    RowAt wf (Old S w wf) (AstAt wf (Old S w wf) d) (l.map (ren f h d)) (.slice (some ⟨g, 0, none⟩) l.length l.length) := by
  obtain ⟨ho, hB, hel⟩ := hf
  obtain ⟨hg1, hg2⟩ := ho.lt g rfl
  have hs := hb.size
  refine ⟨some ⟨g, 0, none⟩, l.length, by simp, by simp, by omega, fun i y hy => ?_⟩
  rw [List.getElem?_map] at hy
  obtain ⟨x, hx, rfl⟩ := Option.map_eq_some_iff.1 hy
  have hi := (List.getElem?_eq_some_iff.1 hx).1
  obtain ⟨u, hu, ha⟩ := hel i x hi hx
  refine ⟨g, u, rfl, .inr ⟨by omega, by omega⟩, ?_, ha.move fun b hS => ?_⟩
  · exact cells_below hb _ _ _ ((ho.cellAt i (by omega)).trans hu)
  · have hlt : b < wr.heap.size := by
      rcases hS.1 with h1 | h1
      · have := low b h1; have := hB.size; omega
      · exact h1.2
    refine ⟨?_, hb.block b hlt⟩
    rcases hS.1 with h1 | h1
    · exact .inl h1
    · exact .inr (h1.wide h0 hs)

/-- What the flag of a loop tells. -/
def Flag (Q : Prop) (f : ByteArray) (d : Nat) (l : List Tree) (j : Nat) (c : Bool) : Prop :=
  (c = true → Q ∨ ∃ x ∈ l, has f d x) ∧ (c = false → ¬ Q ∧ ∀ (i : Nat) (x : Tree), i < j → l[i]? = some x → ¬ has f d x)
theorem Flag.start {Q : Prop} {f : ByteArray} {d : Nat} {l : List Tree} {c : Bool} (h : c = true ↔ Q) : Flag Q f d l 0 c :=
  ⟨fun e => .inl (h.1 e), fun e => ⟨fun q => (by rw [h.2 q] at e; cases e), fun i x hi => by omega⟩⟩
theorem Flag.yes {Q : Prop} {f : ByteArray} {d : Nat} {l : List Tree} {j : Nat} {x : Tree} (hx : l[j]? = some x) (hh : has f d x) : Flag Q f d l (j + 1) true :=
  ⟨fun _ => .inr ⟨x, List.mem_of_getElem? hx, hh⟩, fun e => by cases e⟩
theorem Flag.no {Q : Prop} {f : ByteArray} {d : Nat} {l : List Tree} {j : Nat} {x : Tree} {c : Bool} (h : Flag Q f d l j c) (hx : l[j]? = some x) (hh : ¬ has f d x) : Flag Q f d l (j + 1) c :=
  ⟨h.1, fun e => ⟨(h.2 e).1, fun i y hi hy => by
    by_cases e' : i = j
    · subst e'
      rw [hx] at hy
      obtain rfl := Option.some.inj hy
      exact hh
    · exact (h.2 e).2 i y (by omega) hy⟩⟩
theorem Flag.none {Q : Prop} {f : ByteArray} {d : Nat} {l : List Tree} (h : Flag Q f d l l.length false) : ¬ Q ∧ ∀ x ∈ l, ¬ has f d x :=
  ⟨(h.2 rfl).1, fun x hx => by
    obtain ⟨i, hi, rfl⟩ := List.getElem_of_mem hx
    exact (h.2 rfl).2 i _ hi (List.getElem?_eq_getElem hi)⟩
theorem Flag.some {Q : Prop} {f : ByteArray} {d : Nat} {l : List Tree} {j : Nat} (h : Flag Q f d l j true) : Q ∨ ∃ x ∈ l, has f d x := h.1 rfl

theorem Tryz.infoAst2 : (Tryz.prog.info? 33).map (fun i => (i.zero, i.size, i.bytes)) = some (some .nilIface, 1, 16) := by kernel_rfl
end Go.Proofs.YtlfbmpenekiigaaGreatDoor
