/- The helpers of the laws over slices of strings: the size test answers some bool, the number taken is in its range, two lists with the same texts are alike; no condition but that the slices read as these lists. -/
import Derived.Test.YtgcmhbonadibeaaRows
import Derived.WalkKit
import Derived.ProofKit
import Derived.OpenShut
import Derived.Lib.Hide
namespace Go.Proofs.Ytgcmhbonadibeaa
open Go.ChangeShapes Go.WideShapes Go.ChangeAt Go.RowKit

/-- The strings of a slice, as they lie in memory. -/
def Strs (w : World) (v : Value) (l : List ByteArray) : Prop :=
  ∃ a c, v = .slice a l.length c ∧ l.length ≤ 9223372036854775807 ∧
    ∀ i, i < l.length → ∃ b o, a = some ⟨b, o, none⟩ ∧ w.cell? ⟨b, o + i, none⟩ = some (.string (l.getD i ByteArray.empty))

/-- How often a text stands in a list. -/
def cnt (s : ByteArray) (l : List ByteArray) : Nat := l.countP fun t => t.toList == s.toList

theorem cnt_le (s : ByteArray) (l : List ByteArray) : cnt s l ≤ l.length := List.countP_le_length
theorem cnt_take_le (s : ByteArray) (l : List ByteArray) (j : Nat) : cnt s (l.take j) ≤ j := Nat.le_trans (cnt_le _ _) (List.length_take_le _ _)
theorem cnt_take_yes {s : ByteArray} {l : List ByteArray} {j : Nat} (h : j < l.length) (hs : (l[j].toList == s.toList) = true) : cnt s (l.take (j + 1)) = cnt s (l.take j) + 1 := by
  unfold cnt
  rw [List.take_succ_eq_append_getElem h, List.countP_append]
  simp [hs]
theorem cnt_take_no {s : ByteArray} {l : List ByteArray} {j : Nat} (h : j < l.length) (hs : (l[j].toList == s.toList) = false) : cnt s (l.take (j + 1)) = cnt s (l.take j) := by
  unfold cnt
  rw [List.take_succ_eq_append_getElem h, List.countP_append]
  simp [hs]
theorem cnt_take_all {s : ByteArray} {l : List ByteArray} {j : Nat} (h : l.length ≤ j) : cnt s (l.take j) = cnt s l := by
  rw [List.take_of_length_le h]

def SomeBool (w : World) (e : Ending) (w' : World) : Prop := ∃ b, e = .returned (.bool b) ∧ w = w'

set_option maxHeartbeats 400000 in
theorem fits_any (v : Value) (l : List ByteArray) (w : World) (h : Strs w v l) (hz : ∀ s ∈ l, s.size ≤ 9223372036854775807) : Calls Try.prog 5 #[v] w (SomeBool w) := by
  obtain ⟨a, c, rfl, hl, hc⟩ := h
  go_enter Try.func5, Try.ntmps5
  go_wp2
  · go_ret
    exact ⟨_, rfl, rfl⟩
  · go_loop [10] (fun i => ∃ k : Nat, k ≤ l.length ∧ i = .int .i64 k) (fun i => l.length - (intOf i).toNat)
    case atStart => exact ⟨0, Nat.zero_le _, rfl⟩
    case round =>
      obtain ⟨k, hk, rfl⟩ := hrel
      by_cases hlt : k < l.length
      · obtain ⟨b, o, rfl, hcell⟩ := hc k hlt
        have hs : (l.getD k ByteArray.empty).size ≤ 9223372036854775807 := hz _ (by rw [List.getD_eq_getElem?_getD, List.getElem?_eq_getElem hlt]; simp)
        clear hc hz
        go_wp2
        · go_ret
          exact ⟨_, rfl, rfl⟩
        · go_round
          case rel => exact ⟨k + 1, by omega, by go_num⟩
          case measure => simp [intOf]; omega
      · go_wp2
        go_ret
        exact ⟨_, rfl, rfl⟩

theorem and_range (n : Int) : 0 ≤ bits .and .i64 n 1073741823 ∧ bits .and .i64 n 1073741823 ≤ 1073741823 := by
  have h : (BitVec.ofInt 64 n &&& BitVec.ofInt 64 1073741823).toNat ≤ 1073741823 := by
    rw [BitVec.toNat_and]
    exact Nat.le_trans Nat.and_le_right (by decide)
  show 0 ≤ IntKind.i64.wrap ((BitVec.ofInt 64 n &&& BitVec.ofInt 64 1073741823).toNat : Int) ∧ IntKind.i64.wrap ((BitVec.ofInt 64 n &&& BitVec.ofInt 64 1073741823).toNat : Int) ≤ 1073741823
  generalize (BitVec.ofInt 64 n &&& BitVec.ofInt 64 1073741823).toNat = x at h
  rw [IntWalk.i64_in _ (by omega)]
  omega

theorem tmod_range (x : Int) (m : Nat) (hx : 0 ≤ x) (hm : 0 < m) : ∃ r : Nat, r < m ∧ x.tmod m = r := by
  rw [Int.tmod_eq_emod_of_nonneg hx]
  exact ⟨(x % m).toNat, by have := Int.emod_lt_of_pos x (show (0 : Int) < m by omega); have := Int.emod_nonneg x (show (m : Int) ≠ 0 by omega); omega,
    by have := Int.emod_nonneg x (show (m : Int) ≠ 0 by omega); omega⟩

def Below0 (m : Nat) (w : World) (e : Ending) (w' : World) : Prop := ∃ r : Nat, r < m ∧ e = .returned (.int .i64 r) ∧ w = w'

theorem cxx_any (n : Int) (m : Nat) (hm : 0 < m) (hm2 : m ≤ 1000000000) (w : World) : Calls Try.prog 6 #[.int .i64 n, .int .i64 m] w (Below0 m w) := by
  go_enter Try.func6, Try.ntmps6
  go_wp2
  obtain ⟨r, hr, he⟩ := tmod_range _ m (and_range n).1 hm
  go_ret
  exact ⟨r, hr, by rw [he]; rfl, rfl⟩

/-- Two lists of one length are alike if each text of the first stands in both as often. -/
def Alike2 (A B : List ByteArray) : Prop := A.length = B.length ∧ ∀ s ∈ A, cnt s A = cnt s B

theorem mem_get {A : List ByteArray} {k : Nat} (h : k < A.length) : A[k] ∈ A := List.getElem_mem h

set_option maxHeartbeats 1000000 in
theorem alike_any (va vb : Value) (A B : List ByteArray) (w : World) (ha : Strs w va A) (hb : Strs w vb B) (hl : Alike2 A B) :
    Calls Try.prog 7 #[va, vb] w fun e w' => e = .returned (.bool true) ∧ w = w' := by
  obtain ⟨a, c, rfl, hal, hac⟩ := ha
  obtain ⟨b, d, rfl, hbl, hbc⟩ := hb
  have hbool : ((A.length : Int) != (B.length : Int)) = false := by simp [hl.1]
  have hl' := Lib.hid hl
  clear hl
  go_enter Try.func7, Try.ntmps7
  go_wp2
  go_loop [19] (fun i => ∃ k : Nat, k ≤ A.length ∧ i = .int .i64 k) (fun i => A.length - (intOf i).toNat)
  case atStart => exact ⟨0, Nat.zero_le _, rfl⟩
  case round =>
    obtain ⟨k, hk, rfl⟩ := hrel
    by_cases hlt : k < A.length
    · obtain ⟨ab, ao, rfl, hcell⟩ := hac k hlt
      go_wp2
      go_loop [7, 25] (fun n i => ∃ j m : Nat, j ≤ A.length ∧ m ≤ j ∧ i = .int .i64 j ∧ n = .int .i64 m ∧ Hid (m = cnt A[k] (A.take j))) (fun _ i => A.length - (intOf i).toNat)
      case atStart => exact ⟨0, 0, Nat.zero_le _, Nat.zero_le _, rfl, rfl, by simp [Hid, cnt]⟩
      case round =>
        obtain ⟨j, m, hj, hm, rfl, rfl, hcnt⟩ := hrel
        by_cases hlt2 : j < A.length
        · obtain ⟨b1, o1, e, hcell2⟩ := hac j hlt2
          obtain ⟨rfl, rfl⟩ : _ = b1 ∧ _ = o1 := by simpa using e
          clear e hac hbc
          go_wp2
          · go_round
            case rel =>
              have ht : (A[j].toList == A[k].toList) = true := by assumption
              exact ⟨j + 1, m + 1, by omega, by omega, by go_num, by go_num, by show m + 1 = _; rw [cnt_take_yes hlt2 ht, ← hcnt.out]⟩
            case measure => simp [intOf]; omega
          · go_round
            case rel =>
              have ht : (A[j].toList == A[k].toList) = false := by assumption
              exact ⟨j + 1, m, by omega, by omega, by go_num, by go_num, by show m = _; rw [cnt_take_no hlt2 ht, ← hcnt.out]⟩
            case measure => simp [intOf]; omega
        · have hm2 : m ≤ A.length := by omega
          have hcnt2 : Hid (m = cnt A[k] A) := by have := hcnt.out; rwa [cnt_take_all (by omega)] at this
          have hm3 : Hid (cnt A[k] A = cnt A[k] B) := hl'.out.2 _ (mem_get hlt)
          clear hcnt
          go_wp2
          go_loop [7, 37] (fun n i => ∃ (j : Nat) (q : Nat), j ≤ B.length ∧ q ≤ j ∧ i = .int .i64 j ∧ n = .int .i64 ((m : Int) - q) ∧ Hid (q = cnt A[k] (B.take j))) (fun _ i => B.length - (intOf i).toNat)
          case atStart => exact ⟨0, 0, Nat.zero_le _, Nat.zero_le _, rfl, by go_num, by simp [Hid, cnt]⟩
          case round =>
            obtain ⟨i, q, hi, hq, rfl, rfl, hcnt⟩ := hrel
            by_cases hlt3 : i < B.length
            · obtain ⟨b1, o1, rfl, hcell2⟩ := hbc i hlt3
              clear hac hbc
              go_wp2
              · go_round
                case rel =>
                  have ht : (B[i].toList == A[k].toList) = true := by assumption
                  exact ⟨i + 1, q + 1, by omega, by omega, by go_num, by go_num, by show q + 1 = _; rw [cnt_take_yes hlt3 ht, ← hcnt.out]⟩
                case measure => simp [intOf]; omega
              · go_round
                case rel =>
                  have ht : (B[i].toList == A[k].toList) = false := by assumption
                  exact ⟨i + 1, q, by omega, by omega, by go_num, rfl, by show q = _; rw [cnt_take_no hlt3 ht, ← hcnt.out]⟩
                case measure => simp [intOf]; omega
            · have hz : m = q := by
                have h1 := hcnt.out
                rw [cnt_take_all (by omega)] at h1
                rw [hcnt2.out, hm3.out, h1]
              subst hz
              have hz : (((m : Int) - (m : Int)) != 0) = false := by simp
              clear hac hbc hcnt hcnt2 hm3
              go_wp2
              go_round
              case rel => exact ⟨k + 1, by omega, by go_num⟩
              case measure => simp [intOf]; omega
    · go_wp2
      go_ret
      exact ⟨rfl, rfl⟩
end Go.Proofs.Ytgcmhbonadibeaa
