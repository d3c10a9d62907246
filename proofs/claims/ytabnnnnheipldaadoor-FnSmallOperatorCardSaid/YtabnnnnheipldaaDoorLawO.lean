/- laws.FnSmallOperator returns true, for every number; conditions: the table of the operators holds what the program lays. -/
import Derived.Test.YtabnnnnheipldaaDoorOp
namespace Go.Proofs.YtabnnnnheipldaaDoor
open Go.ChangeShapes Go.WideShapes Go.ChangeAt Go.RowKit

theorem and_range (n : Int) : 0 ≤ bits .and .i64 n 1073741823 ∧ bits .and .i64 n 1073741823 ≤ 1073741823 := by
  have h : (BitVec.ofInt 64 n &&& BitVec.ofInt 64 1073741823).toNat ≤ 1073741823 := by
    rw [BitVec.toNat_and]
    exact Nat.le_trans Nat.and_le_right (by decide)
  show 0 ≤ IntKind.i64.wrap ((BitVec.ofInt 64 n &&& BitVec.ofInt 64 1073741823).toNat : Int) ∧ IntKind.i64.wrap ((BitVec.ofInt 64 n &&& BitVec.ofInt 64 1073741823).toNat : Int) ≤ 1073741823
  generalize (BitVec.ofInt 64 n &&& BitVec.ofInt 64 1073741823).toNat = x at h
  rw [IntWalk.i64_in _ (by omega)]
  omega

theorem tmod_range (x : Int) (m : Nat) (hx : 0 ≤ x) (hm : 0 < m) : ∃ r : Nat, r < m ∧ x.tmod m = r := by
  rw [Int.tmod_eq_emod_of_nonneg hx]
  exact ⟨(x % m).toNat, by have := Int.emod_lt_of_pos x (show (0 : Int) < m by omega); have := Int.emod_nonneg x (show (m : Int) ≠ 0 by omega); omega,
    by have := Int.emod_nonneg x (show (m : Int) ≠ 0 by omega); omega⟩

def Below0 (m : Nat) (w : World) (e : Ending) (w' : World) : Prop := ∃ r : Nat, r < m ∧ e = .returned (.int .i64 r) ∧ w = w'

theorem cxx_any (n : Int) (m : Nat) (hm : 0 < m) (hm2 : m ≤ 1000000000) (w : World) : Calls Tryd.prog 5 #[.int .i64 n, .int .i64 m] w (Below0 m w) := by
  go_enter Tryd.func5, Tryd.ntmps5
  go_wp2
  obtain ⟨r, hr, he⟩ := tmod_range _ m (and_range n).1 hm
  go_ret
  exact ⟨r, hr, by rw [he]; rfl, rfl⟩

theorem cxx42 (n : Int) (w : World) : Calls Tryd.prog 5 #[.int .i64 n, .int .i64 42] w (Below0 42 w) := cxx_any n 42 (by omega) (by omega) w

theorem op0 (s : ByteArray) (w : World) (hc : w.cell? ⟨0, 1, none⟩ = some (.string s)) :
    Calls Tryd.prog 4 #[.int .i64 0] w fun e w' => e = .returned (.tuple #[.string s, .int .i64 42]) ∧ w = w' := opAt 0 (by omega) s w hc

theorem printLow (s : ByteArray) (w : World) (hf : FineOp s) (h0 : 0 < s.size) (hlow : lowB (s[0]'h0) = true) : Calls Tryd.prog 6 #[.string s] w (OpSaid ((⟨#[111, 112, 101, 114, 97, 116, 111, 114, 32]⟩ : ByteArray) ++ s) w) :=
  printOpC s w true hf h0 hlow
theorem printNot (s : ByteArray) (w : World) (hf : FineOp s) (h0 : 0 < s.size) (hlow : lowB (s[0]'h0) = false) : Calls Tryd.prog 6 #[.string s] w (OpSaid ((⟨#[111, 112, 101, 114, 97, 116, 111, 114]⟩ : ByteArray) ++ s) w) :=
  printOpC s w false hf h0 hlow

set_option maxHeartbeats 1000000 in
theorem law_operator (n : Int) (w : World) (ht : Tab w) : Calls Tryd.prog 3 #[.int .i64 n] w (True1 w) := by
  obtain ⟨s0, c0, f0⟩ := ht 0 (by omega)
  have T := Lib.hid ht
  clear ht f0
  go_enter Tryd.func3, Tryd.ntmps3
  go_wp2_with fail
  refine (op0 s0 w c0).mono ?_
  rintro e w' ⟨rfl, rfl⟩
  go_wp2_with fail
  refine (cxx42 n w).mono ?_
  rintro e w' ⟨r, hr, rfl, rfl⟩
  obtain ⟨s, cs, fs⟩ := T.out r hr
  have h0 := fs.1
  have hz := fs.2.1
  have F := Lib.hid fs
  clear fs
  go_wp2_with fail
  refine (opAt r hr s w cs).mono ?_
  rintro e w' ⟨rfl, rfl⟩
  by_cases h1 : 97 ≤ (s[0].toNat : Int)
  · by_cases h2 : (s[0].toNat : Int) ≤ 122
    · have hl : Hid (lowB s[0] = true) := by exact decide_eq_true ⟨h1, h2⟩
      go_wp2_with fail
      refine (printLow s w F.out h0 hl.out).mono ?_
      rintro e w' ⟨rfl, hb⟩
      have B := Lib.hid hb
      clear hb
      go_wp2_with fail
      go_ret
      exact ⟨rfl, B.out⟩
    · have hl : Hid (lowB s[0] = false) := by exact decide_eq_false (fun h => by omega)
      go_wp2_with fail
      refine (printNot s w F.out h0 hl.out).mono ?_
      rintro e w' ⟨rfl, hb⟩
      have B := Lib.hid hb
      clear hb
      go_wp2_with fail
      go_ret
      exact ⟨rfl, B.out⟩
  · have hl : Hid (lowB s[0] = false) := by exact decide_eq_false (fun h => by omega)
    go_wp2_with fail
    refine (printNot s w F.out h0 hl.out).mono ?_
    rintro e w' ⟨rfl, hb⟩
    have B := Lib.hid hb
    clear hb
    go_wp2_with fail
    go_ret
    exact ⟨rfl, B.out⟩
end Go.Proofs.YtabnnnnheipldaaDoor
