/- Helpers of nodeOf: rows of elements in one block, impl.with, what the calls in its regions answer; conditions: the elements lie in memory. -/
import Derived.Test.YtlfbmpenekiigaaGreatDoorNodeB
import Derived.Deep.Upon
namespace Go.Proofs.YtlfbmpenekiigaaGreatDoor
open Go.ChangeShapes Go.WideShapes Go.ChangeAt Go.RowKit
set_option linter.unusedVariables false

/-- The blocks that lie in a world. -/
def In0 (w : World) (b : Nat) : Prop := b < w.heap.size

theorem AstAt.all {w w' : World} {S : Nat → Prop} {d : Nat} {t : Tree} {v : Value} (h : AstAt w S d t v) (low : ∀ b, S b → b < w.heap.size) (hb : Below w.heap.size w w') : AstAt w' (In0 w') d t v :=
  h.move fun b hS => ⟨Nat.lt_of_lt_of_le (low b hS) hb.size, hb.block b (low b hS)⟩
theorem RowAt.all {w w' : World} {S : Nat → Prop} {d : Nat} {l : List Tree} {v : Value} (h : RowAt w S (AstAt w S d) l v) (low : ∀ b, S b → b < w.heap.size) (hb : Below w.heap.size w w') : RowAt w' (In0 w') (AstAt w' (In0 w') d) l v :=
  h.map (fun b hS => ⟨Nat.lt_of_lt_of_le (low b hS) hb.size, hb.block b (low b hS)⟩) (fun x u _ h => h.all low hb)

theorem row_nil (w : World) (S : Nat → Prop) (N : Tree → Value → Prop) (a : Option Addr) (c : Nat) (hc : c ≤ 9223372036854775807) : RowAt w S N [] (.slice a 0 c) := ⟨a, c, rfl, Nat.zero_le _, hc, fun i x h => by simp at h⟩
theorem row_one {w : World} {S : Nat → Prop} {N : Tree → Value → Prop} {nb : Nat} {x : Tree} {u : Value} {ty : TypeId} (hb : w.heap[nb]? = some (.cells #[u] ty (0, 0))) (hS : S nb) (hN : N x u) : RowAt w S N [x] (.slice (some ⟨nb, 0, none⟩) 1 1) := by
  refine ⟨_, 1, rfl, Nat.le_refl _, by omega, fun i y hy => ?_⟩
  have hi : i = 0 := by have := (List.getElem?_eq_some_iff.1 hy).1; simp at this; omega
  subst hi
  obtain rfl : x = y := by simpa using hy
  exact ⟨nb, u, rfl, hS, by rw [cell_of_row w nb 0 _ _ (0, 0) hb]; rfl, hN⟩
theorem row_two {w : World} {S : Nat → Prop} {N : Tree → Value → Prop} {nb : Nat} {x y : Tree} {u v : Value} {ty : TypeId} (hb : w.heap[nb]? = some (.cells #[u, v] ty (0, 0))) (hS : S nb) (hN : N x u) (hM : N y v) : RowAt w S N [x, y] (.slice (some ⟨nb, 0, none⟩) 2 2) := by
  refine ⟨_, 2, rfl, Nat.le_refl _, by omega, fun i z hz => ?_⟩
  have hi : i < 2 := by have := (List.getElem?_eq_some_iff.1 hz).1; simpa using this
  rcases Nat.lt_or_ge i 1 with h | h
  · obtain rfl : i = 0 := by omega
    obtain rfl : x = z := by simpa using hz
    exact ⟨nb, u, rfl, hS, by rw [cell_of_row w nb 0 _ _ (0, 0) hb]; rfl, hN⟩
  · obtain rfl : i = 1 := by omega
    obtain rfl : y = z := by simpa using hz
    exact ⟨nb, v, rfl, hS, by rw [cell_of_row w nb 1 _ _ (0, 0) hb]; rfl, hM⟩

/-- A node's kids stay where its own block alone is written. -/
theorem put_move {w w1 wr : World} {p d : Nat} {l : List Tree} {kv v0 v1 v2 v3 : Value} (h : ListS wr (New w1 wr) (KidsS wr (New w1 wr) d) l kv) (hp : p < w1.heap.size) (h0 : w.heap.size ≤ w1.heap.size) :
    ListS ((((wr.setCell ⟨p, 0, none⟩ v0).setCell ⟨p, 1, none⟩ v1).setCell ⟨p, 2, none⟩ v2).setCell ⟨p, 3, none⟩ v3) (New w ((((wr.setCell ⟨p, 0, none⟩ v0).setCell ⟨p, 1, none⟩ v1).setCell ⟨p, 2, none⟩ v2).setCell ⟨p, 3, none⟩ v3))
      (KidsS ((((wr.setCell ⟨p, 0, none⟩ v0).setCell ⟨p, 1, none⟩ v1).setCell ⟨p, 2, none⟩ v2).setCell ⟨p, 3, none⟩ v3) (New w ((((wr.setCell ⟨p, 0, none⟩ v0).setCell ⟨p, 1, none⟩ v1).setCell ⟨p, 2, none⟩ v2).setCell ⟨p, 3, none⟩ v3)) d) l kv := by
  have mv : ∀ b, New w1 wr b → New w ((((wr.setCell ⟨p, 0, none⟩ v0).setCell ⟨p, 1, none⟩ v1).setCell ⟨p, 2, none⟩ v2).setCell ⟨p, 3, none⟩ v3) b ∧
      ((((wr.setCell ⟨p, 0, none⟩ v0).setCell ⟨p, 1, none⟩ v1).setCell ⟨p, 2, none⟩ v2).setCell ⟨p, 3, none⟩ v3).heap[b]? = wr.heap[b]? := fun b hb => by
    have h1 := hb.1
    have h2 := hb.2
    refine ⟨⟨by omega, by simpa [World.setCell] using h2⟩, ?_⟩
    rw [Below.heap_setCell _ _ _ _ (by show b ≠ p; omega), Below.heap_setCell _ _ _ _ (by show b ≠ p; omega), Below.heap_setCell _ _ _ _ (by show b ≠ p; omega), Below.heap_setCell _ _ _ _ (by show b ≠ p; omega)]
  exact h.move mv (fun x kv h => h.move mv)

theorem ListS.later {w0 w w' : World} {d : Nat} {l : List Tree} {kv : Value} (h : ListS w (New w0 w) (KidsS w (New w0 w) d) l kv) (hb : Below w.heap.size w w') : ListS w' (New w0 w') (KidsS w' (New w0 w') d) l kv :=
  h.move (fun b hn => ⟨hn.wide (Nat.le_refl _) hb.size, hb.block b hn.2⟩) (fun x kv h => h.move fun b hn => ⟨hn.wide (Nat.le_refl _) hb.size, hb.block b hn.2⟩)
theorem ListS.wide {w0 w1 w : World} {d : Nat} {l : List Tree} {kv : Value} (h : ListS w (New w1 w) (KidsS w (New w1 w) d) l kv) (h0 : w0.heap.size ≤ w1.heap.size) : ListS w (New w0 w) (KidsS w (New w0 w) d) l kv :=
  h.move (fun b hn => ⟨hn.wide h0 (Nat.le_refl _), rfl⟩) (fun x kv h => h.move fun b hn => ⟨hn.wide h0 (Nat.le_refl _), rfl⟩)
theorem ListS.form {w : World} {S : Nat → Prop} {N : Tree → Value → Prop} {l : List Tree} {v : Value} (h : ListS w S N l v) : ∃ a c, v = .slice a l.length c := by
  obtain ⟨a, c, e, _⟩ := h
  exact ⟨a, c, e⟩

/-- What number, with and node answer in a region. -/
def TabF (d : Nat) (k tx : ByteArray) (num : Int) (l : List Tree) (w0 : World) (f : FuncId) (args : Array Value) (v : Value) (w : World) : Prop :=
  (f = 38 → v = .int .i64 num) ∧ (f = 39 → RowAt w (In0 w) (AstAt w (In0 w) d) l v) ∧
    (f = 37 → ∃ kv, v = .agg #[.string k, .string tx, .int .i64 num, kv] ∧ ListS w (New w0 w) (KidsS w (New w0 w) d) l kv)
theorem TabF.stable (d : Nat) (k tx : ByteArray) (num : Int) (l : List Tree) (w0 : World) (f : FuncId) (args : Array Value) : Stable (TabF d k tx num l w0 f args) := by
  intro v w w' he ⟨h1, h2, h3⟩
  refine ⟨h1, fun e => (h2 e).all (fun b h => h) he, fun e => ?_⟩
  obtain ⟨kv, e', hk⟩ := h3 e
  exact ⟨kv, e', hk.later he⟩

theorem KidsS.mk {w : World} {S : Nat → Prop} {d : Nat} {t : Tree} {kv : Value} (hs : Sized t) (h : ListS w S (KidsS w S d) t.kids kv) : KidsS w S (d + 1) t kv := ⟨hs.1, hs.2.1, hs.2.2.1, h⟩
end Go.Proofs.YtlfbmpenekiigaaGreatDoor
