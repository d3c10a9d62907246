/- laws.FnSmallTemplates returns true, for every input; conditions: none. -/
import Derived.Test.YtabnnnnheipldaaSpecT
namespace Go.Proofs.Ytabnnnnheipldaa
open Go.ChangeShapes Go.WideShapes Go.ChangeAt Go.RowKit

theorem getD_of_mem {l : List ByteArray} {P : ByteArray → Prop} (h : ∀ i, i < l.length → P (l.getD i ByteArray.empty)) : ∀ x ∈ l, P x := by
  intro x hx
  obtain ⟨i, hi, e⟩ := List.mem_iff_getElem.1 hx
  have := h i hi
  rw [List.getD_eq_getElem?_getD, List.getElem?_eq_getElem hi] at this
  simp only [Option.getD_some] at this
  rw [e] at this
  exact this

set_option maxRecDepth 100000 in
set_option maxHeartbeats 4000000 in
theorem law_templates (a1 : Option Addr) (c1 : Nat) (l : List ByteArray) {w : World} (h : Strs w (.slice a1 l.length c1) l) (_hnil1 : a1 = none → c1 = 0) (hc1 : l.length ≤ c1) (hcc1 : c1 ≤ 9223372036854775807) (hz1 : ∀ s ∈ l, s.size ≤ 9223372036854775807)
    (s : ByteArray) (hs : s.size ≤ maxLen) (a2 : Option Addr) (c2 : Nat) (m : List ByteArray) (hm : Strs w (.slice a2 m.length c2) m) (_hnil2 : a2 = none → c2 = 0) (hc2 : m.length ≤ c2) (hcc2 : c2 ≤ 9223372036854775807) (hz2 : ∀ s ∈ m, s.size ≤ 9223372036854775807) :
    Calls Try.prog 9 #[.slice a1 l.length c1, .string s, .slice a2 m.length c2] w (True1 w) := by
  unfold maxLen at hs
  have hl : l.length ≤ 9223372036854775807 := by omega
  have hml : m.length ≤ 9223372036854775807 := by omega
  have Z1 := Lib.hid hz1
  have Z2 := Lib.hid hz2
  have HL := Lib.hid h
  have HM := Lib.hid hm
  clear hz1 hz2 h hm
  go_enter Try.func9, Try.ntmps9
  go_wp2_with fail
  refine (fits_yes2 _ l _ HL.out Z1.out).mono ?_
  rintro e w' ⟨b1, rfl, f1, rfl⟩
  cases b1 with
  | false =>
    go_wp2_with fail
    go_ret
    exact ⟨rfl, Below.refl _ _⟩
  | true =>
  have F1 := Lib.hid (f1 rfl)
  clear f1
  by_cases h1 : 2147483647 < s.size
  · go_wp2_with fail
    go_ret
    exact ⟨rfl, Below.refl _ _⟩
  have hle : s.size ≤ 2147483647 := by omega
  go_wp2_with fail
  refine (fits_yes2 _ m _ HM.out Z2.out).mono ?_
  rintro e w' ⟨b2, rfl, f2, rfl⟩
  cases b2 with
  | false =>
    go_wp2_with fail
    go_ret
    exact ⟨rfl, Below.refl _ _⟩
  | true =>
  have F2 := Lib.hid (f2 rfl)
  clear f2
  have hzs : Hid (∀ i, i < (s :: m).length → ((s :: m).getD i ByteArray.empty).size ≤ 2147483647) := by
    intro i hi
    cases i with
    | zero => exact hle
    | succ i => exact F2.out.2 i (by simpa using hi)
  have hm64 := F2.out.1
  go_wp2_with (first | (at_builtin; refine wpList_catStr rfl (.tmp 26) (.tmp 27) rfl w.heap.size ?_ _ m ?_ s w.heap.size ?_ (Nat.le_refl _) rfl rfl ?_ ?_; (simp); (exact HM.out.below' ((Below.refl _ _).alloc (Nat.le_refl _) _)); (exact heap_alloc_new w _); omega; intro v2 w2 hS hB; have S2 := Lib.hid hS; have B2 := Lib.hid ((((Below.refl w.heap.size w).alloc (Nat.le_refl _) _)).trans hB); clear hS hB))
  refine (smListC v2 (s :: m) w2 S2.out hzs.out).mono ?_
  rintro e w' ⟨t, b, rfl, hb, rfl⟩
  cases b with
  | false =>
    go_wp2_with fail
    go_ret
    exact ⟨rfl, B2.out⟩
  | true =>
  obtain ⟨rfl, hpos, hlen⟩ := hb rfl
  have HP := Lib.hid hpos
  have HLN := Lib.hid hlen
  clear hb hpos hlen
  by_cases hn : 0 < l.length
  · have e1 : ((l.length : Int) == 0) = false := by rw [beq_eq_false_iff_ne]; omega
    have HN := Lib.hid hn
    by_cases hm : 1000 < l.length
    · have e2 : decide (1000 < (l.length : Int)) = true := by rw [decide_eq_true_iff]; omega
      clear hn hm
      go_wp2_with fail
      all_goals go_ret
      all_goals exact ⟨rfl, B2.out⟩
    · have e2 : decide (1000 < (l.length : Int)) = false := by rw [decide_eq_false_iff_not]; omega
      have hm' : l.length ≤ 1000 := by omega
      have hsum : Hid (2 * sumLen (s :: m) + 10 * sumLen l + 20 ≤ 140737487000000) := by
        show _ ≤ _
        have h1 := sumLen_leT (s :: m) 2147483647 hzs.out
        have h2 := sumLen_leT l 2147483647 F1.out.2
        have h3 := Nat.mul_le_mul_right 2147483648 hm'
        have h4 := Nat.mul_le_mul_right 2147483648 HLN.out
        omega
      have hS1 := HL.out.below' B2.out
      obtain ⟨aa, cc, ee, hll, hc⟩ := hS1
      simp only [Value.slice.injEq] at ee
      obtain ⟨rfl, -, rfl⟩ := ee
      have HC := Lib.hid hc
      clear hn hm hc
      go_wp2_with fail
      go_loop [7, 46] (fun t i => ∃ k : Nat, k ≤ l.length ∧ i = .int .i64 k ∧ t = .string (ofL' (cl (s :: m) (l.drop (l.length - k)))) ∧ ∀ x ∈ l.drop (l.length - k), 0 < x.size) (fun _ i => l.length - (intOf i).toNat)
      case atStart =>
        refine ⟨0, Nat.zero_le _, rfl, ?_, ?_⟩
        · rw [List.drop_eq_nil_of_le (by omega)]; rfl
        · rw [List.drop_eq_nil_of_le (by omega)]; intro x hx; cases hx
      case round =>
        obtain ⟨k, hk, rfl, rfl, hpk⟩ := hrel
        have HPK := Lib.hid hpk
        clear hpk
        by_cases hlt : k < l.length
        · obtain ⟨j, hj⟩ : ∃ j, j = l.length - 1 - k := ⟨_, rfl⟩
          have hsub : ((l.length : Int) - 1) - (k : Int) = (j : Int) := by omega
          obtain ⟨b, o, rfl, hcell⟩ := HC.out j (by omega)
          have hx := F1.out.2 j (by omega)
          have edrop : l.drop (l.length - (k + 1)) = l.getD j ByteArray.empty :: l.drop (l.length - k) := by
            have e3 : l.length - (k + 1) = j := by omega
            have e4 : l.length - k = j + 1 := by omega
            rw [e3, e4, List.drop_eq_getElem_cons (by omega)]
            simp [List.getD_eq_getElem?_getD, (by omega : j < l.length)]
          obtain ⟨x, ex⟩ : ∃ x, x = l.getD j ByteArray.empty := ⟨_, rfl⟩
          rw [← ex] at hcell hx edrop
          have hts : (ofL' (cl (s :: m) (l.drop (l.length - k)))).size ≤ 140737488355328 := by
            rw [ofL'_size]
            have h1 := cl_len (s :: m) (l.drop (l.length - k))
            have h2 := sumLen_append (l.take (l.length - k)) (l.drop (l.length - k))
            rw [List.take_append_drop] at h2
            have h3 := hsum.out
            omega
          obtain ⟨t, et⟩ : ∃ t, t = ofL' (cl (s :: m) (l.drop (l.length - k))) := ⟨_, rfl⟩
          rw [← et] at hts ⊢
          have ED := Lib.hid edrop
          have ET := Lib.hid et
          have HJ := Lib.hid hj
          clear ex edrop et hj
          by_cases he : x.toList.isEmpty = true
          · go_wp2
            go_ret
            exact ⟨rfl, B2.out⟩
          · have he' : x.toList.isEmpty = false := by simpa using he
            have hps := Lib.hid (pos_of_list he')
            clear he
            go_wp2_with (first | (go_at_call 25; refine (closedC x t _ ?_ ?_).mono ?_; omega; omega; rintro e w' ⟨rfl, rfl⟩))
            go_round
            case rel =>
              refine ⟨k + 1, by omega, by go_num, ?_, ?_⟩
              · rw [ED.out, ET.out, ofL'_data]
                rfl
              · rw [ED.out]
                intro y hy
                rcases List.mem_cons.1 hy with rfl | hy
                · exact hps.out
                · exact HPK.out y hy
            case measure => simp [intOf]; omega
        · have hk' : l.length - k = 0 := by omega
          have HK := Lib.hid hk'
          rw [hk', List.drop_zero] at HPK
          rw [hk', List.drop_zero]
          have hpr := Lib.hid (printTemplatesC _ _ l m s w2 (HL.out.below' B2.out) (HM.out.below' B2.out) HN.out hm' (by have := HLN.out; simp at this; omega) HPK.out (getD_of_mem HP.out) hsum.out)
          clear hk'
          go_wp2_with (first | (go_at_call 26; refine hpr.out.mono ?_; rintro e w3 ⟨rfl, hb3⟩; have B3 := Lib.hid hb3; clear hb3))
          go_ret
          exact ⟨rfl, B2.out.trans (B3.out.mono B2.out.size)⟩
  · have h0 : l.length = 0 := by omega
    rw [h0]
    go_wp2_with fail
    go_ret
    exact ⟨rfl, B2.out⟩
end Go.Proofs.Ytabnnnnheipldaa
