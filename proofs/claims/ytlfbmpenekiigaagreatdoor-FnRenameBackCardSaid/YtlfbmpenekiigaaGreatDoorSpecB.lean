/- The small tests on one node, and the tables of the codes; conditions: the node reads as a tree, the tables hold texts. -/
import Derived.Test.YtlfbmpenekiigaaGreatDoorSpecR
namespace Go.Proofs.YtlfbmpenekiigaaGreatDoor
open Go.ChangeShapes Go.WideShapes Go.ChangeAt Go.RowKit

/-- The two tables in memory. -/
structure Tabs (w : World) : Prop where
  b : ∀ j : Nat, j < 56 → ∃ s, w.cell? ⟨0, j, none⟩ = some (.string s)
  o : ∀ j : Nat, j < 84 → ∃ s, w.cell? ⟨1, j, none⟩ = some (.string s)

/-- A tree in memory, with the tables. -/
structure In (w : World) (d : Nat) (t : Tree) (kv : Value) : Prop where
  tabs : Tabs w
  kids : KidsAt w d t kv

theorem Tabs.below {w w' : World} (h : Tabs w) (hb : Below w.heap.size w w') : Tabs w' :=
  ⟨fun j hj => (h.b j hj).imp fun _ e => cells_below hb _ _ _ e, fun j hj => (h.o j hj).imp fun _ e => cells_below hb _ _ _ e⟩
theorem In.below {w w' : World} {d : Nat} {t : Tree} {kv : Value} (h : In w d t kv) (hb : Below w.heap.size w w') : In w' d t kv := ⟨h.tabs.below hb, h.kids.below hb⟩

def SomeS (w : World) (e : Ending) (w' : World) : Prop := ∃ s : ByteArray, e = .returned (.string s) ∧ w = w'

theorem codeC (s : ByteArray) (w : World) (ht : Tabs w) : Calls Tryz.prog 56 #[.string s] w (SomeS w) := by
  have HT := Lib.hid ht
  clear ht
  go_enter Tryz.func56, Tryz.ntmps56
  go_wp2_with fail
  go_loop [3] (fun i => UpTo 56 i) (fun i => 56 - (intOf i).toNat)
  case atStart => exact ⟨0, by omega, rfl⟩
  case round =>
    obtain ⟨k, hk, rfl⟩ := hrel
    by_cases hlt : k + 1 < 56
    · obtain ⟨s0, c0⟩ := HT.out.b k (by omega)
      obtain ⟨s1, c1⟩ := HT.out.b (k + 1) (by omega)
      cases he : (s1.toList == s.toList)
      · go_wp2_with fail
        go_round
        case rel => exact ⟨k + 2, by omega, by go_num⟩
        case measure => simp [intOf]; omega
      · go_wp2_with fail
        go_ret
        exact ⟨_, rfl, rfl⟩
    · go_wp2_with fail
      go_ret
      exact ⟨_, rfl, rfl⟩

theorem opCodeC (s : ByteArray) (w : World) (ht : Tabs w) : Calls Tryz.prog 66 #[.string s] w (SomeS w) := by
  have HT := Lib.hid ht
  clear ht
  go_enter Tryz.func66, Tryz.ntmps66
  go_wp2_with fail
  go_loop [3] (fun i => UpTo 84 i) (fun i => 84 - (intOf i).toNat)
  case atStart => exact ⟨0, by omega, rfl⟩
  case round =>
    obtain ⟨k, hk, rfl⟩ := hrel
    by_cases hlt : k + 1 < 84
    · obtain ⟨s0, c0⟩ := HT.out.o k (by omega)
      obtain ⟨s1, c1⟩ := HT.out.o (k + 1) (by omega)
      cases he : (s1.toList == s.toList)
      · go_wp2_with fail
        go_round
        case rel => exact ⟨k + 2, by omega, by go_num⟩
        case measure => simp [intOf]; omega
      · go_wp2_with fail
        go_ret
        exact ⟨_, rfl, rfl⟩
    · go_wp2_with fail
      go_ret
      exact ⟨_, rfl, rfl⟩

theorem isStdC (t : Tree) (kv : Value) (d : Nat) (w : World) (h : KidsAt w d t kv) :
    Calls Tryz.prog 32 #[.agg #[.string t.kind, .string t.text, .int .i64 t.num, kv]] w (Ans w True) := by
  obtain ⟨a, c, rfl⟩ := h.form
  go_enter Tryz.func32, Tryz.ntmps32
  go_wp2_with fail
  all_goals go_ret
  all_goals exact ⟨_, rfl, fun _ => trivial, below1 _ _⟩

theorem isVoidC (t : Tree) (kv : Value) (d : Nat) (w : World) (h : KidsAt w d t kv) :
    Calls Tryz.prog 57 #[.agg #[.string t.kind, .string t.text, .int .i64 t.num, kv]] w (Ans w True) := by
  obtain ⟨a, c, rfl⟩ := h.form
  go_enter Tryz.func57, Tryz.ntmps57
  go_wp2_with fail
  all_goals go_ret
  all_goals exact ⟨_, rfl, fun _ => trivial, below1 _ _⟩

theorem isReferenceC (t : Tree) (kv : Value) (d : Nat) (w : World) (h : KidsAt w d t kv) :
    Calls Tryz.prog 55 #[.agg #[.string t.kind, .string t.text, .int .i64 t.num, kv]] w (Ans w True) := by
  obtain ⟨a, c, rfl⟩ := h.form
  go_enter Tryz.func55, Tryz.ntmps55
  go_wp2_with fail
  all_goals go_ret
  all_goals exact ⟨_, rfl, fun _ => trivial, below1 _ _⟩

theorem KidsAt.parts {w : World} {d : Nat} {t : Tree} {kv : Value} (h : KidsAt w d t kv) : t.kind.size ≤ maxLen ∧ t.text.size ≤ maxLen ∧ ∃ a c, kv = .slice a t.kids.length c ∧ t.kids.length ≤ c ∧ c ≤ 9223372036854775807 := by
  cases d with
  | zero => exact h.elim
  | succ d =>
    obtain ⟨h1, h2, _, a, c, e, h3, h4, _⟩ := h
    exact ⟨h1, h2, a, c, e, h3, h4⟩

theorem isNumberC (t : Tree) (kv : Value) (d : Nat) (w : World) (h : KidsAt w d t kv) :
    Calls Tryz.prog 61 #[.agg #[.string t.kind, .string t.text, .int .i64 t.num, kv]] w (Ans w (LeafT t kName)) := by
  obtain ⟨hk, ht, a, c, rfl, hl, hc⟩ := h.parts
  clear h
  go_enter Tryz.func61, Tryz.ntmps61
  go_wp2_with (go_at_call 68; refine (digitsC _ _ ht).mono ?_; rintro e w' ⟨b, rfl, rfl⟩; cases b)
  all_goals go_ret
  all_goals first | exact ⟨_, rfl, fun e => Bool.noConfusion e, below1 _ _⟩ | exact ⟨_, rfl, fun _ => ⟨eName (by assumption), by assumption, by assumption⟩, below1 _ _⟩

theorem isOperatorC (t : Tree) (kv : Value) (d : Nat) (w : World) (h : In w d t kv) :
    Calls Tryz.prog 52 #[.agg #[.string t.kind, .string t.text, .int .i64 t.num, kv]] w (Ans w (LeafT t kOperator)) := by
  have HI := Lib.hid h
  obtain ⟨hk, ht, a, c, rfl, hl, hc⟩ := h.kids.parts
  have B := Lib.hid (below1 w (.cells #[.string t.kind, .string t.text, .int .i64 t.num, .slice a t.kids.length c] 24))
  clear h
  cases h1 : (t.kind.toList == [79, 112, 101, 114, 97, 116, 111, 114])
  · go_enter Tryz.func52, Tryz.ntmps52
    go_wp2_with fail
    go_ret
    exact ⟨_, rfl, fun e => Bool.noConfusion e, below1 _ _⟩
  · by_cases h2 : t.num = 0
    · have H2 := Lib.hid h2
      by_cases h3 : t.kids.length = 0
      · have H3 : Hid (t.kids = []) := List.eq_nil_of_length_eq_zero h3
        have h4 : ((t.kids.length : Int) == 0) = true := by simp [h3]
        have h5 : (t.num == 0) = true := by simp [h2]
        have H1 := Lib.hid (bOperator h1)
        clear h2 h3
        go_enter Tryz.func52, Tryz.ntmps52
        go_wp2_with (go_at_call 66; refine (opCodeC _ _ (HI.out.tabs.below B.out)).mono ?_; rintro e w' ⟨s, rfl, rfl⟩)
        all_goals go_ret
        all_goals exact ⟨_, rfl, fun _ => ⟨H1.out, H2.out, H3.out⟩, B.out⟩
      · have h4 : ((t.kids.length : Int) == 0) = false := by simp; intro e; exact h3 (by rw [e]; rfl)
        have h5 : (t.num == 0) = true := by simp [h2]
        clear h2 h3
        go_enter Tryz.func52, Tryz.ntmps52
        go_wp2_with fail
        go_ret
        exact ⟨_, rfl, fun e => Bool.noConfusion e, B.out⟩
    · have h5 : (t.num == 0) = false := by simpa using h2
      clear h2
      go_enter Tryz.func52, Tryz.ntmps52
      go_wp2_with fail
      go_ret
      exact ⟨_, rfl, fun e => Bool.noConfusion e, B.out⟩
end Go.Proofs.YtlfbmpenekiigaaGreatDoor
