/- impl.arrays: the types of arrays that it makes, as they lie in memory; conditions: the list reads as strings and holds a million at most. -/
import Derived.Test.YtabnnnnheipldaaOne
import Derived.Test.YtabnnnnheipldaaNames
namespace Go.Proofs.Ytabnnnnheipldaa
open Go.ChangeShapes Go.WideShapes Go.ChangeAt Go.RowKit

/-- The type behind so many arrays. -/
def arrE (B : Nat) : Nat → Value
  | 0 => .iface 82 (.pointer (some ⟨B, 0, none⟩))
  | k + 1 => .iface 90 (.pointer (some ⟨B + 2 * (k + 1), 0, none⟩))

/-- So many arrays lie in memory, from the builtin type's block on. -/
def ArrsAt (w : World) (B : Nat) (base : ByteArray) (l : List ByteArray) (k : Nat) : Prop :=
  w.heap[B]? = some (.cells #[.string base] 83 (0, 0)) ∧
    ∀ j, j < k → w.heap[B + 2 * j + 1]? = some (.cells #[.string (l.getD (l.length - 1 - j) ByteArray.empty)] 81 (0, 0)) ∧
      w.heap[B + 2 * j + 2]? = some (.cells #[.iface 79 (.pointer (some ⟨B + 2 * j + 1, 0, none⟩)), arrE B j] 92 (0, 0))

theorem ArrsAt.below {w w' : World} {B k : Nat} {base : ByteArray} {l : List ByteArray} (h : ArrsAt w B base l k) (hb : Below w.heap.size w w') : ArrsAt w' B base l k := by
  have lt : ∀ {i : Nat} {o : Obj}, w.heap[i]? = some o → i < w.heap.size := fun e => (Array.getElem?_eq_some_iff.1 e).1
  refine ⟨?_, fun j hj => ⟨?_, ?_⟩⟩
  · rw [hb.block B (lt h.1)]; exact h.1
  · rw [hb.block _ (lt (h.2 j hj).1)]; exact (h.2 j hj).1
  · rw [hb.block _ (lt (h.2 j hj).2)]; exact (h.2 j hj).2

set_option maxRecDepth 100000 in
set_option maxHeartbeats 2000000 in
theorem arraysC (base : ByteArray) (v : Value) (l : List ByteArray) (w : World) (h : Strs w v l) (hm : l.length ≤ 1000000) :
    Calls Try.prog 32 #[.string base, v] w fun e w' => e = .returned (arrE w.heap.size l.length) ∧ ArrsAt w' w.heap.size base l l.length ∧ Below w.heap.size w w' ∧ w'.heap.size = w.heap.size + 2 * l.length + 1 := by
  obtain ⟨ad, c, rfl, hl, hc⟩ := h
  go_enter Try.func32, Try.ntmps32
  go_wp2_with (first | (go_at_call 30; refine (builtinC _ _).mono ?_; rintro e w' ⟨rfl, rfl⟩))
  go_loopg [5, 6] l.length (fun j a i wr => ∃ k : Nat, j + k = l.length ∧ a = arrE w.heap.size k ∧ i = .int .i64 ((j : Int) - 1) ∧ ArrsAt wr w.heap.size base l k ∧ Below w.heap.size w wr ∧ wr.heap.size = w.heap.size + 2 * k + 1)
  case atStart => exact ⟨0, by omega, rfl, by go_num, ⟨heap_alloc_new w _, fun j hj => by omega⟩, (Below.refl _ _).alloc (Nat.le_refl _) _, by simp⟩
  case round =>
    obtain ⟨k, hk, rfl, rfl, hA, hbel, hsz⟩ := hrel
    by_cases h0 : 0 < gk
    · obtain ⟨j, rfl⟩ : ∃ j, gk = j + 1 := ⟨gk - 1, by omega⟩
      have e : ((j + 1 : Nat) : Int) - 1 = (j : Int) := by omega
      rw [e]
      obtain ⟨b, o, rfl, hcell⟩ := Strs.at' hc hbel j (by omega)
      obtain ⟨s, es⟩ : ∃ s, s = l.getD j ByteArray.empty := ⟨_, rfl⟩
      rw [← es] at hcell
      have ES := Lib.hid es
      have HA := Lib.hid hA
      have HB := Lib.hid hbel
      have HZ := Lib.hid hsz
      have HK := Lib.hid hk
      obtain ⟨tx, bx, ex⟩ : ∃ tx bx, arrE w.heap.size k = .iface tx (.pointer (some ⟨bx, 0, none⟩)) := by cases k <;> exact ⟨_, _, rfl⟩
      rw [ex]
      have EX := Lib.hid ex
      clear hc es hA hbel hsz ex e
      go_wp2_with (first | (go_at_call 29; refine (nameC _ _).mono ?_; rintro e w' ⟨rfl, rfl⟩))
      go_roundg j
      case measure => omega
      case rel =>
        have B1 := ((Below.refl wr.heap.size wr).alloc (Nat.le_refl _) (.cells #[.string s] 81)).alloc (by simp) (.cells #[.iface 79 (.pointer (some ⟨wr.heap.size, 0, none⟩)), .iface tx (.pointer (some ⟨bx, 0, none⟩))] 92)
        have hsz := HZ.out
        have hkl := HK.out
        refine ⟨k + 1, by omega, ?_, by go_num, ?_, (HB.out.alloc (by omega) _).alloc (by simp; omega) _, by simp; omega⟩
        · show Value.iface _ (.pointer (some ⟨_, 0, none⟩)) = .iface _ (.pointer (some ⟨_, 0, none⟩))
          have : wr.heap.size + 1 = w.heap.size + 2 * (k + 1) := by omega
          simp [this]
        · refine ⟨(HA.out.below B1).1, fun i hi => ?_⟩
          by_cases hik : i < k
          · exact (HA.out.below B1).2 i hik
          · obtain rfl : i = k := by omega
            have e1 : w.heap.size + 2 * i + 1 = wr.heap.size := by omega
            have e2 : w.heap.size + 2 * i + 2 = (wr.alloc (.cells #[.string s] 81)).heap.size := by simp; omega
            rw [e2, e1]
            refine ⟨?_, ?_⟩
            · rw [Below.heap_alloc _ _ _ (by simp), heap_alloc_new]
              have e3 : l.length - 1 - i = j := by omega
              rw [e3, ← ES.out]
            · rw [heap_alloc_new, EX.out]
    · have e : gk = 0 := by omega
      subst e
      have e : k = l.length := by omega
      subst e
      have HA := Lib.hid hA
      have HB := Lib.hid hbel
      have HZ := Lib.hid hsz
      clear hc hA hbel hsz hk
      go_wp2_with fail
      go_ret
      exact ⟨rfl, HA.out, HB.out, HZ.out⟩
end Go.Proofs.Ytabnnnnheipldaa
