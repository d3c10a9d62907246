/- The tests on texts (letters, digits, identifiers) return; conditions: none. -/
import Derived.Test.YtlfbmpenekiigaaGreatDoorKinds
import Derived.Lib.Strings
namespace Go.Proofs.YtlfbmpenekiigaaGreatDoor
open Go.ChangeShapes Go.WideShapes Go.ChangeAt Go.RowKit

theorem byte_lt (c : UInt8) : (c.toNat : Int) ≤ 255 := by have := c.toNat_lt; omega

def UpTo (m : Nat) (v : Value) : Prop := ∃ k : Nat, k ≤ m ∧ v = .int .i64 k

def SomeB (w : World) (e : Ending) (w' : World) : Prop := ∃ b, e = .returned (.bool b) ∧ w = w'

theorem letterC (c : UInt8) (w : World) : Calls Tryz.prog 70 #[.int .u8 c.toNat] w (SomeB w) := by
  go_enter Tryz.func70, Tryz.ntmps70
  go_wp2
  all_goals go_ret
  all_goals exact ⟨_, rfl, rfl⟩

set_option maxHeartbeats 1000000 in
theorem digitsC (s : ByteArray) (w : World) (hs : s.size ≤ maxLen) : Calls Tryz.prog 68 #[.string s] w (SomeB w) := by
  unfold maxLen at hs
  by_cases h0 : 1 ≤ s.size
  · by_cases h1 : s.size ≤ 9
    · go_enter Tryz.func68, Tryz.ntmps68
      go_wp2
      all_goals first
        | (go_ret; exact ⟨_, rfl, rfl⟩)
        | (go_loop [3] (fun i => ∃ k : Nat, k ≤ s.size ∧ i = .int .i64 k) (fun i => s.size - (intOf i).toNat)
           case atStart => exact ⟨0, Nat.zero_le _, rfl⟩
           case round =>
             obtain ⟨k, hk, rfl⟩ := hrel
             by_cases hlt : k < s.size
             · go_wp2
               all_goals first
                 | (go_ret; exact ⟨_, rfl, rfl⟩)
                 | (go_round
                    case rel => exact ⟨k + 1, by omega, by go_num⟩
                    case measure => simp [intOf]; omega)
             · go_wp2
               go_ret
               exact ⟨_, rfl, rfl⟩)
    · go_enter Tryz.func68, Tryz.ntmps68
      go_wp2
      all_goals go_ret
      all_goals exact ⟨_, rfl, rfl⟩
  · go_enter Tryz.func68, Tryz.ntmps68
    go_wp2
    all_goals go_ret
    all_goals exact ⟨_, rfl, rfl⟩

set_option maxHeartbeats 1000000 in
theorem hashC (s : ByteArray) (w : World) (hs : s.size ≤ maxLen) : Calls Tryz.prog 69 #[.string s] w (SomeB w) := by
  unfold maxLen at hs
  by_cases h0 : (s.size : Int) = 17
  · have h2 : 17 ≤ s.size := by omega
    have h3 : ((s.size : Int) != 17) = false := by simp [h0]
    clear h0
    by_cases h4 : ((s[0].toNat : Int) != 104) = false
    · go_enter Tryz.func69, Tryz.ntmps69
      go_wp2
      go_loop [3] (fun i => UpTo 17 i) (fun i => 17 - (intOf i).toNat)
      case atStart => exact ⟨1, by omega, rfl⟩
      case round =>
        obtain ⟨k, hk, rfl⟩ := hrel
        by_cases hlt : k < 17
        · go_wp2
          all_goals first
            | (go_ret; exact ⟨_, rfl, rfl⟩)
            | (go_round
               case rel => exact ⟨k + 1, by omega, by go_num⟩
               case measure => simp [intOf]; omega)
        · go_wp2
          go_ret
          exact ⟨_, rfl, rfl⟩
    · have h5 : ((s[0].toNat : Int) != 104) = true := by simpa using h4
      clear h4
      go_enter Tryz.func69, Tryz.ntmps69
      go_wp2
      go_ret
      exact ⟨_, rfl, rfl⟩
  · have h3 : ((s.size : Int) != 17) = true := by simpa using h0
    clear h0
    go_enter Tryz.func69, Tryz.ntmps69
    go_wp2
    all_goals go_ret
    all_goals exact ⟨_, rfl, rfl⟩

set_option maxHeartbeats 4000000 in
theorem identC (s : ByteArray) (w : World) (hs : s.size ≤ maxLen) : Calls Tryz.prog 64 #[.string s] w (SomeB w) := by
  have hm := hs
  unfold maxLen at hm
  by_cases h0 : 1 ≤ s.size
  · by_cases h1 : s.size ≤ 40
    · have e1 : decide ((s.size : Int) < 1) = false := by simp; omega
      have e2 : decide (40 < (s.size : Int)) = false := by simp; omega
      have hx : (8 ≤ s.size ∧ (((s.extract 0 8).toList == [95, 71, 76, 79, 66, 65, 76, 95]) = true ∨ ((s.extract 0 8).toList == [95, 71, 76, 79, 66, 65, 76, 95]) = false)) ∨ s.size < 8 := by
        by_cases h5 : 8 ≤ s.size
        · exact .inl ⟨h5, by cases ((s.extract 0 8).toList == [95, 71, 76, 79, 66, 65, 76, 95]) <;> simp⟩
        · exact .inr (by omega)
      rcases Classical.em ((48 : Int) ≤ (s[0].toNat : Int)) with h3 | h3 <;> rcases Classical.em ((s[0].toNat : Int) ≤ 57) with h4 | h4 <;> rcases hx with ⟨h5, h6 | h6⟩ | h5
      all_goals
        go_enter Tryz.func64, Tryz.ntmps64
        go_wp2_with (go_at_call 69; refine (hashC _ _ hs).mono ?_; rintro e w' ⟨b, rfl, rfl⟩; cases b)
        all_goals first
          | (go_ret; exact ⟨_, rfl, rfl⟩)
          | (go_loop [3] (fun i => UpTo s.size i) (fun i => s.size - (intOf i).toNat)
             case atStart => exact ⟨0, by omega, rfl⟩
             case round =>
               obtain ⟨k, hk, rfl⟩ := hrel
               by_cases hlt : k < s.size
               · go_wp2_with (go_at_call 70; refine (letterC _ _).mono ?_; rintro e w' ⟨b, rfl, rfl⟩; cases b)
                 all_goals first
                   | (go_ret; exact ⟨_, rfl, rfl⟩)
                   | (go_round
                      case rel => exact ⟨k + 1, by omega, by go_num⟩
                      case measure => simp [intOf]; omega)
               · go_wp2
                 go_ret
                 exact ⟨_, rfl, rfl⟩)
    · go_enter Tryz.func64, Tryz.ntmps64
      go_wp2
      all_goals go_ret
      all_goals exact ⟨_, rfl, rfl⟩
  · go_enter Tryz.func64, Tryz.ntmps64
    go_wp2
    all_goals go_ret
    all_goals exact ⟨_, rfl, rfl⟩
end Go.Proofs.YtlfbmpenekiigaaGreatDoor
