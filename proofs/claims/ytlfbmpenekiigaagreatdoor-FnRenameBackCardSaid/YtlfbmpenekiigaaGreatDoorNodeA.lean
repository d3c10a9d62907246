/- Nodes that are made: how they lie in new blocks, and what impl.number, impl.with and impl.node make; conditions: the elements lie in memory, it is known what nodeOf makes of them. -/
import Derived.Test.YtlfbmpenekiigaaGreatDoorTab2
import Derived.Test.YtlfbmpenekiigaaGreatDoorCopyA
import Derived.Test.YtlfbmpenekiigaaGreatDoorKinds
import Derived.Deep.AppendLies
import Derived.OneCell
namespace Go.Proofs.YtlfbmpenekiigaaGreatDoor
open Go.ChangeShapes Go.WideShapes Go.ChangeAt Go.RowKit
set_option linter.unusedVariables false

/-- Nodes in a row, in a block of S. -/
def ListS (w : World) (S : Nat → Prop) (N : Tree → Value → Prop) (l : List Tree) (v : Value) : Prop :=
  ∃ a c, v = .slice a l.length c ∧ l.length ≤ c ∧ c ≤ 9223372036854775807 ∧
    ∀ (i : Nat) (x : Tree), l[i]? = some x → ∃ b o kv, a = some ⟨b, o, none⟩ ∧ S b ∧ w.cell? ⟨b, o + i * 4, none⟩ = some (.string x.kind) ∧ w.cell? ⟨b, o + i * 4 + 1, none⟩ = some (.string x.text) ∧
      w.cell? ⟨b, o + i * 4 + 2, none⟩ = some (.int .i64 x.num) ∧ w.cell? ⟨b, o + i * 4 + 3, none⟩ = some kv ∧ N x kv

/-- A tree as a node, in blocks of S. -/
def KidsS (w : World) (S : Nat → Prop) : Nat → Tree → Value → Prop
  | 0, _, _ => False
  | d + 1, t, kv => t.kind.size ≤ maxLen ∧ t.text.size ≤ maxLen ∧ (Lit.int .i64 t.num).wf = true ∧ ListS w S (KidsS w S d) t.kids kv

theorem ListS.move {w w' : World} {S S' : Nat → Prop} {N N' : Tree → Value → Prop} {l : List Tree} {v : Value} (h : ListS w S N l v) (hS : ∀ b, S b → S' b ∧ w'.heap[b]? = w.heap[b]?) (hN : ∀ x kv, N x kv → N' x kv) : ListS w' S' N' l v := by
  obtain ⟨a, c, e, h1, h2, h3⟩ := h
  refine ⟨a, c, e, h1, h2, fun i x hx => ?_⟩
  obtain ⟨b, o, kv, ea, hb, g0, g1, g2, g3, g4⟩ := h3 i x hx
  have hh := (hS b hb).2
  exact ⟨b, o, kv, ea, (hS b hb).1, (cell_same hh _).trans g0, (cell_same hh _).trans g1, (cell_same hh _).trans g2, (cell_same hh _).trans g3, hN x kv g4⟩

theorem KidsS.move {w w' : World} {S S' : Nat → Prop} (hS : ∀ b, S b → S' b ∧ w'.heap[b]? = w.heap[b]?) : ∀ {d : Nat} {t : Tree} {kv : Value}, KidsS w S d t kv → KidsS w' S' d t kv
  | 0, _, _, h => h.elim
  | _ + 1, _, _, ⟨h1, h2, h3, h4⟩ => ⟨h1, h2, h3, h4.move hS (fun x kv h => KidsS.move hS h)⟩

theorem KidsS.at {w : World} {S : Nat → Prop} : ∀ {d : Nat} {t : Tree} {kv : Value}, KidsS w S d t kv → KidsAt w d t kv
  | 0, _, _, h => h.elim
  | _ + 1, _, _, ⟨h1, h2, h3, ⟨a, c, e, k1, k2, k3⟩⟩ => ⟨h1, h2, h3, a, c, e, k1, k2, fun i x hx => by
      obtain ⟨b, o, kv, ea, _, g0, g1, g2, g3, g4⟩ := k3 i x hx
      exact ⟨b, o, kv, ea, g0, g1, g2, g3, KidsS.at g4⟩⟩

theorem KidsS.form {w : World} {S : Nat → Prop} {d : Nat} {t : Tree} {kv : Value} (h : KidsS w S d t kv) : ∃ a c, kv = .slice a t.kids.length c := h.at.form

/-- A node's texts and number are within their bounds, its kids few. -/
def Sized (x : Tree) : Prop := x.kind.size ≤ maxLen ∧ x.text.size ≤ maxLen ∧ (Lit.int .i64 x.num).wf = true ∧ x.kids.length ≤ 200

/-- A node was made of an element. -/
def Noded (w : World) (d : Nat) (t : Tree) (e : Ending) (w' : World) : Prop := ∃ kv, e = .returned (.agg #[.string t.kind, .string t.text, .int .i64 t.num, kv]) ∧ KidsS w' (New w w') d t kv ∧ Below w.heap.size w w'

/-- What nodeOf makes of elements of a depth. -/
def NodeOf (d : Nat) : Prop := ∀ (w : World) (S : Nat → Prop) (t : Tree) (v : Value), AstAt w S d t v → (∀ b, S b → b < w.heap.size) → All Sized d t → Calls Tryz.prog 20 #[v] w (Noded w d t)

theorem numberC (c : Bool) (w : World) : Calls Tryz.prog 38 #[.bool c] w (fun e w' => e = .returned (.int .i64 (if c then 1 else 0)) ∧ w = w') := by
  cases c
  · go_enter Tryz.func38, Tryz.ntmps38
    go_wp2_with fail
    go_ret
    exact ⟨rfl, rfl⟩
  · go_enter Tryz.func38, Tryz.ntmps38
    go_wp2_with fail
    go_ret
    exact ⟨rfl, rfl⟩

theorem Tryz.infoNode : (Tryz.prog.info? 24).map (fun i => (i.zero, i.size, i.bytes)) = some (some (.agg #[.string ⟨#[]⟩, .string ⟨#[]⟩, .int .i64 0, .slice none 0 0]), 4, 64) := by kernel_rfl

/-- The cells of a node. -/
def cells4 (t : Tree) (kv : Value) : List Value := [.string t.kind, .string t.text, .int .i64 t.num, kv]

/-- A row of nodes of the call's own. -/
def RowN (w0 w : World) (d : Nat) (v : Value) (xs : List Value) (l : List Tree) : Prop :=
  w.ownsRow w0.heap.size 24 4 v l.length xs ∧ ∀ (i : Nat) (x : Tree), l[i]? = some x → ∃ kv, (∀ j u, (cells4 x kv)[j]? = some u → xs[i * 4 + j]? = some u) ∧ KidsS w (fun b => New w0 w b ∧ v.ownBlock ≠ some b) d x kv

theorem RowN.nil (w0 w : World) (d : Nat) : RowN w0 w d (.slice none 0 0) [] [] := ⟨World.ownsRow_nil _ _ _ _, fun i x h => by simp at h⟩

theorem RowN.form {w0 w : World} {d : Nat} {v : Value} {xs : List Value} {l : List Tree} (h : RowN w0 w d v xs l) : ∃ a c, v = .slice a l.length c := by
  rcases h.1.2 with ⟨e, e0⟩ | ⟨g, cap, cur, e, _⟩
  · exact ⟨none, 0, by rw [e, e0]⟩
  · exact ⟨_, _, e⟩

theorem RowN.row {w0 w : World} {d : Nat} {v : Value} {xs : List Value} {l : List Tree} (h : RowN w0 w d v xs l) (hm : l.length ≤ 1000) : ListS w (New w0 w) (KidsS w (New w0 w) d) l v := by
  obtain ⟨hown, hel⟩ := h
  rcases hown.2 with ⟨rfl, h0⟩ | ⟨g, cap, cur, rfl, hg, hc, h1, h2, h3, h4⟩
  · exact ⟨none, 0, by rw [h0], by omega, by omega, fun i x hx => by have := (List.getElem?_eq_some_iff.1 hx).1; omega⟩
  · refine ⟨some ⟨g, 0, none⟩, cap, rfl, h1, by unfold maxLen at h2; omega, fun i x hx => ?_⟩
    obtain ⟨kv, hk, ha⟩ := hel i x hx
    have hi := (List.getElem?_eq_some_iff.1 hx).1
    have key : ∀ j u, (cells4 x kv)[j]? = some u → w.cell? ⟨g, i * 4 + j, none⟩ = some u := fun j u hu => by
      have hj : j < 4 := (List.getElem?_eq_some_iff.1 hu).1
      exact (hown.cellAt (i * 4 + j) (by omega)).trans (hk j u hu)
    refine ⟨g, 0, kv, rfl, ⟨hg, (hown.lt g rfl).2⟩, ?_, ?_, ?_, ?_, ha.move fun b hb => ⟨hb.1, rfl⟩⟩
    · rw [Nat.zero_add]; exact key 0 _ rfl
    · rw [Nat.zero_add]; exact key 1 _ rfl
    · rw [Nat.zero_add]; exact key 2 _ rfl
    · rw [Nat.zero_add]; exact key 3 _ rfl

/-- A node more at the end of a row: made in new blocks behind the world w, put behind the row in the world w2. -/
theorem RowN.step {w0 w w1 w2 w3 : World} {d gg cap : Nat} {v kv : Value} {xs : List Value} {l : List Tree} {x : Tree} (h : RowN w0 w d v xs l) (h0 : w0.heap.size ≤ w.heap.size) (hb : Below w.heap.size w w1) (hu : KidsS w1 (New w w1) d x kv) (hb2 : Below w1.heap.size w1 w2)
    (hown1 : w3.ownsRow w0.heap.size 24 4 (.slice (some ⟨gg, 0, none⟩) (l.length + 1) cap) (l.length + 1) (xs ++ cells4 x kv)) (hgrow : w2.grownBy w3 v.ownBlock) (hat : v.ownBlock = some gg ∨ gg = w2.heap.size) :
    RowN w0 w3 d (.slice (some ⟨gg, 0, none⟩) (l.length + 1) cap) (xs ++ cells4 x kv) (l ++ [x]) := by
  obtain ⟨hown, hel⟩ := h
  have hs1 := hb.size
  have hs2 := hb2.size
  have hs3 := hgrow.size
  have hxl : xs.length = l.length * 4 := hown.1
  have old : ∀ k, k < w1.heap.size → v.ownBlock ≠ some k → w3.heap[k]? = w1.heap[k]? := fun k hk hne => by
    rw [hgrow.block k (by omega) (fun e => hne e.symm), hb2.block k hk]
  have hne : ∀ k, k < w1.heap.size → v.ownBlock ≠ some k → (Value.slice (some ⟨gg, 0, none⟩) (l.length + 1) cap).ownBlock ≠ some k := fun k hk hn e => by
    obtain rfl : gg = k := by simpa [Value.ownBlock] using e
    rcases hat with hat | hat
    · exact hn hat
    · omega
  refine ⟨by simpa using hown1, fun i y hi => ?_⟩
  by_cases hc : i < l.length
  · rw [List.getElem?_append_left hc] at hi
    obtain ⟨kv', hk', ha⟩ := hel i y hi
    refine ⟨kv', fun j u hu => ?_, ha.move fun b hb' => ?_⟩
    · have hj : j < 4 := (List.getElem?_eq_some_iff.1 hu).1
      rw [List.getElem?_append_left (by omega)]
      exact hk' j u hu
    · have hlt : b < w1.heap.size := Nat.lt_of_lt_of_le hb'.1.2 hs1
      exact ⟨⟨hb'.1.wide (Nat.le_refl _) (by omega), hne b hlt hb'.2⟩, (old b hlt hb'.2).trans (hb.block b hb'.1.2)⟩
  · have hi' : i = l.length ∧ y = x := by
      rw [List.getElem?_append_right (by omega)] at hi
      obtain ⟨h1, h2⟩ := List.getElem?_eq_some_iff.1 hi
      have h0 : i - l.length = 0 := by simp at h1; omega
      simp [h0] at h2
      exact ⟨by omega, h2.symm⟩
    obtain ⟨rfl, rfl⟩ := hi'
    refine ⟨kv, fun j u hu => ?_, hu.move fun b hb' => ?_⟩
    · rw [List.getElem?_append_right (by omega), show l.length * 4 + j - xs.length = j by omega]
      exact hu
    · have hv : v.ownBlock ≠ some b := fun e => by have := (hown.lt b e).2; have := hb'.1; omega
      exact ⟨⟨hb'.wide h0 (by omega), hne b hb'.2 hv⟩, old b hb'.2 hv⟩

/-- What nodeOf answers in a region that draws its order. -/
def TabN (d : Nat) (x : Tree) (w0 : World) (f : FuncId) (args : Array Value) (v : Value) (w : World) : Prop :=
  f = 20 → ∃ kv, v = .agg #[.string x.kind, .string x.text, .int .i64 x.num, kv] ∧ KidsS w (New w0 w) d x kv
theorem TabN.stable (d : Nat) (x : Tree) (w0 : World) (f : FuncId) (args : Array Value) : Stable (TabN d x w0 f args) := by
  intro v w w' he h hf
  obtain ⟨kv, e, hk⟩ := h hf
  exact ⟨kv, e, hk.move fun b hb => ⟨hb.wide (Nat.le_refl _) he.size, he.block b hb.2⟩⟩
end Go.Proofs.YtlfbmpenekiigaaGreatDoor
