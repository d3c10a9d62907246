/- laws.FnSmallName returns true, for every input; conditions: none. -/
import Derived.Test.YtabnnnnheipldaaStr
import Derived.Test.YtabnnnnheipldaaBase
import Derived.Test.YtabnnnnheipldaaNames
namespace Go.Proofs.Ytabnnnnheipldaa
open Go.ChangeShapes Go.WideShapes Go.ChangeAt Go.RowKit

theorem bytes_eq (s : ByteArray) : (⟨(s.data.toList).toArray⟩ : ByteArray) = s := by cases s; simp

theorem wr0 (s : ByteArray) : (⟨((st0.wr s).txt).toArray⟩ : ByteArray) = s := by
  have : (st0.wr s).txt = s.data.toList := by simp [St.wr, st0]
  rw [this]

def Says (s : ByteArray) (w : World) (e : Ending) (w' : World) : Prop := e = .returned (.string s) ∧ Below w.heap.size w w'

set_option maxHeartbeats 1000000 in
theorem printNameC (s : ByteArray) (w : World) (hs : s.size ≤ 2147483647) : Calls Try.prog 16 #[.string s] w (Says s w) := by
  have key := toStringC (w.alloc (.cells #[.string s] 81)) _ _ w.heap.size _ _ (isName w.heap.size) (nameDoes _ _ w.heap.size s st0 ((World.cell?_alloc_at (w := w) _ _ _ _ rfl).trans (by simp)) (by simp) (by simp [st0]; omega))
  have K := Lib.hid key
  clear key
  go_enter Try.func16, Try.ntmps16
  go_wp2_with (first | (go_at_call 29; refine (nameC _ _).mono ?_; rintro e w' ⟨rfl, rfl⟩) | (go_at_call 28; refine K.out.mono ?_; rintro e w2 ⟨rfl, hb⟩; rw [wr0]; have B := Lib.hid hb; clear hb))
  go_ret
  exact ⟨rfl, ((Below.refl _ _).alloc (Nat.le_refl _) _).trans (B.out.mono (by simp))⟩

set_option maxHeartbeats 1000000 in
theorem printBuiltinC (s : ByteArray) (w : World) (hs : s.size ≤ 2147483647) : Calls Try.prog 17 #[.string s] w (Says s w) := by
  have key := toStringC (w.alloc (.cells #[.string s] 83)) _ _ w.heap.size _ _ (isBuiltin w.heap.size) (builtinDoes _ _ w.heap.size s st0 ((World.cell?_alloc_at (w := w) _ _ _ _ rfl).trans (by simp)) (by simp) rfl (by simp [st0]; omega))
  have K := Lib.hid key
  clear key
  go_enter Try.func17, Try.ntmps17
  go_wp2_with (first | (go_at_call 30; refine (builtinC _ _).mono ?_; rintro e w' ⟨rfl, rfl⟩) | (go_at_call 28; refine K.out.mono ?_; rintro e w2 ⟨rfl, hb⟩; rw [wr0]; have B := Lib.hid hb; clear hb))
  go_ret
  exact ⟨rfl, ((Below.refl _ _).alloc (Nat.le_refl _) _).trans (B.out.mono (by simp))⟩

set_option maxHeartbeats 1000000 in
theorem law_name (s : ByteArray) (hs : s.size ≤ maxLen) {w : World} : Calls Try.prog 6 #[.string s] w (True1 w) := by
  unfold maxLen at hs
  by_cases h1 : 2147483647 < s.size
  · go_enter Try.func6, Try.ntmps6
    go_wp2_with fail
    go_ret
    exact ⟨rfl, Below.refl _ _⟩
  · have hle : s.size ≤ 2147483647 := by omega
    go_enter Try.func6, Try.ntmps6
    go_wp2_with (first | (go_at_call 16; refine (printNameC s _ hle).mono ?_; rintro e w1 ⟨rfl, hb⟩; have B1 := Lib.hid hb; clear hb) | (go_at_call 17; refine (printBuiltinC s _ hle).mono ?_; rintro e w2 ⟨rfl, hb⟩; have B2 := Lib.hid hb; clear hb))
    go_ret
    exact ⟨rfl, B1.out.trans (B2.out.mono B1.out.size)⟩
end Go.Proofs.Ytabnnnnheipldaa
