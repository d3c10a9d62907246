/- laws.FnSmallArrayPointer returns true, for every input; conditions: none. -/
import Derived.Test.YtabnnnnheipldaaArrP
namespace Go.Proofs.Ytabnnnnheipldaa
open Go.ChangeShapes Go.WideShapes Go.ChangeAt Go.RowKit

theorem sumLen_le' (l : List ByteArray) (B : Nat) (h : ∀ i, i < l.length → (l.getD i ByteArray.empty).size ≤ B) : sumLen l ≤ l.length * (B + 1) := by
  induction l with
  | nil => simp [sumLen]
  | cons s l ih =>
    have h0 : s.size ≤ B := by simpa using h 0 (by simp)
    have h1 := ih fun i hi => by simpa using h (i + 1) (by simpa using hi)
    simp only [sumLen, List.length_cons, Nat.add_mul, Nat.one_mul]
    omega

set_option maxHeartbeats 1000000 in
theorem smCleanC (s : ByteArray) (w : World) (hs : s.size ≤ 9223372036854775807) : Calls Try.prog 21 #[.string s] w (SomeBool w) := by
  by_cases h0 : s.size = 0
  · have e : s = ByteArray.empty := by
      apply ByteArray.ext
      apply Array.ext'
      exact List.eq_nil_of_length_eq_zero (by rw [Array.length_toList]; exact h0)
    subst e
    go_enter Try.func21, Try.ntmps21
    go_wp2
    all_goals go_ret
    all_goals exact ⟨_, rfl, rfl⟩
  · have h0' : 0 < s.size := by omega
    clear h0
    by_cases he : s.toList.isEmpty = true
    · go_enter Try.func21, Try.ntmps21
      go_wp2
      all_goals go_ret
      all_goals exact ⟨_, rfl, rfl⟩
    · have he' : s.toList.isEmpty = false := by simpa using he
      clear he
      go_enter Try.func21, Try.ntmps21
      go_wp2
      all_goals go_ret
      all_goals exact ⟨_, rfl, rfl⟩

def LensSaid (l : List ByteArray) (w : World) (e : Ending) (w' : World) : Prop := e = .returned (.string (lens l)) ∧ w = w'

set_option maxHeartbeats 1000000 in
theorem smLengthsC (v : Value) (l : List ByteArray) (w : World) (h : Strs w v l) (hsum : (dl l).length ≤ 140737488000000) : Calls Try.prog 23 #[v] w (LensSaid l w) := by
  obtain ⟨a, c, rfl, hl, hc⟩ := h
  go_enter Try.func23, Try.ntmps23
  go_wp2
  go_loop [3, 8] (fun t i => ∃ k : Nat, k ≤ l.length ∧ i = .int .i64 k ∧ t = .string (lens (l.take k))) (fun _ i => l.length - (intOf i).toNat)
  case atStart => exact ⟨0, Nat.zero_le _, rfl, rfl⟩
  case round =>
    obtain ⟨k, hk, rfl, rfl⟩ := hrel
    by_cases hlt : k < l.length
    · obtain ⟨b, o, rfl, hcell⟩ := hc k hlt
      have hs := getD_size l k hlt
      obtain ⟨s, es⟩ : ∃ s, s = l.getD k ByteArray.empty := ⟨_, rfl⟩
      rw [← es] at hcell hs
      have hts : (lens (l.take k)).size + s.size + 2 ≤ 140737488000000 := by
        rw [lens_size]
        have h := dl_append (l.take (k + 1)) (l.drop (k + 1))
        rw [List.take_append_drop, take_snoc' hlt, dl_append] at h
        have h2 := congrArg List.length h
        have e2 : s.data.toList.length = s.size := by rw [Array.length_toList]; rfl
        rw [← es] at h2
        simp only [List.length_append, dl, List.length_cons, e2, List.length_nil] at h2
        omega
      obtain ⟨t, et⟩ : ∃ t, t = lens (l.take k) := ⟨_, rfl⟩
      rw [← et] at hts ⊢
      have ES := Lib.hid es
      have ET := Lib.hid et
      clear hc es et
      go_wp2
      go_round
      case rel => exact ⟨k + 1, by omega, by go_num, by rw [take_snoc' hlt, lens_snoc, ← ES.out, ← ET.out]⟩
      case measure => simp [intOf]; omega
    · have hk' : l.take k = l := List.take_of_length_le (by omega)
      rw [hk']
      clear hc hk'
      go_wp2
      go_ret
      exact ⟨rfl, rfl⟩

set_option maxRecDepth 100000 in
set_option maxHeartbeats 2000000 in
theorem law_arrayPointer (f : ByteArray) (hf : f.size ≤ maxLen) (a : Option Addr) (c : Nat) (l : List ByteArray) {w : World} (h : Strs w (.slice a l.length c) l) (_hnil : a = none → c = 0) (hc : l.length ≤ c) (hc2 : c ≤ 9223372036854775807) (hz : ∀ s ∈ l, s.size ≤ 9223372036854775807) :
    Calls Try.prog 8 #[.string f, .slice a l.length c] w (True1 w) := by
  unfold maxLen at hf
  have hl : l.length ≤ 9223372036854775807 := by omega
  have hz' := Lib.hid hz
  clear hz
  by_cases h1 : 2147483647 < f.size
  · go_enter Try.func8, Try.ntmps8
    go_wp2_with fail
    go_ret
    exact ⟨rfl, Below.refl _ _⟩
  · have hle : f.size ≤ 2147483647 := by omega
    clear h1
    go_enter Try.func8, Try.ntmps8
    go_wp2_with fail
    refine (fits_yes _ l _ h hz'.out).mono ?_
    rintro e w' ⟨b, rfl, hsmall, rfl⟩
    cases b with
    | false =>
      go_wp2_with fail
      go_ret
      exact ⟨rfl, Below.refl _ _⟩
    | true =>
      have HS := Lib.hid (hsmall rfl)
      clear hsmall
      go_wp2_with fail
      refine (smCleanC f _ (by omega)).mono ?_
      rintro e w' ⟨b, rfl, rfl⟩
      cases b with
      | false =>
        go_wp2_with fail
        go_ret
        exact ⟨rfl, Below.refl _ _⟩
      | true =>
        by_cases hn : 0 < l.length
        · have e1 : ((l.length : Int) == 0) = false := by rw [beq_eq_false_iff_ne]; omega
          have HN := Lib.hid hn
          by_cases hm : 1000 < l.length
          · have e2 : decide (1000 < (l.length : Int)) = true := by rw [decide_eq_true_iff]; omega
            clear hn hm
            go_wp2_with fail
            all_goals go_ret
            all_goals exact ⟨rfl, Below.refl _ _⟩
          · have e2 : decide (1000 < (l.length : Int)) = false := by rw [decide_eq_false_iff_not]; omega
            have hm' : l.length ≤ 1000 := by omega
            have hsum : (dl l).length ≤ 2147483650000 := by
              rw [dl_len]
              have := sumLen_le' l 2147483647 HS.out
              have := Nat.mul_le_mul_right 2147483648 hm'
              omega
            clear hn hm
            go_wp2_with fail
            refine (printArrayPointerC f _ l _ h (by omega) HN.out hm').mono ?_
            rintro e w2 ⟨rfl, hb2⟩
            have h2 := h.below' hb2
            have B2 := Lib.hid hb2
            clear hb2 h
            go_wp2_with fail
            refine (smLengthsC _ l _ h2 (by omega)).mono ?_
            rintro e w3 ⟨rfl, rfl⟩
            clear h2
            have hls : (lens l).size ≤ 2147483650000 := by rw [lens_size]; exact hsum
            go_wp2_with fail
            go_ret
            exact ⟨rfl, B2.out⟩
        · have h0 : l.length = 0 := by omega
          rw [h0]
          go_wp2_with fail
          go_ret
          exact ⟨rfl, Below.refl _ _⟩
end Go.Proofs.Ytabnnnnheipldaa
