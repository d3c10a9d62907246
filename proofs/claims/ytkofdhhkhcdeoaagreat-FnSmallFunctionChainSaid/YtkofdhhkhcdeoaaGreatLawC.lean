/- laws.FnSmallFunctionChain returns true, for every input; conditions: none. -/
import Derived.Test.YtkofdhhkhcdeoaaGreatChainP
namespace Go.Proofs.YtkofdhhkhcdeoaaGreat
open Go.ChangeShapes Go.WideShapes Go.ChangeAt Go.RowKit

theorem sumLen_rev (l : List ByteArray) : sumLen l.reverse = sumLen l := by
  induction l with
  | nil => rfl
  | cons s l ih => rw [List.reverse_cons, sumLen_append, ih]; simp only [sumLen]; omega

set_option maxRecDepth 100000 in
set_option maxHeartbeats 2000000 in
theorem printChainC (back : ByteArray) (v : Value) (l : List ByteArray) (w : World) (h : Strs w v l) (hn : 0 < l.length) (hm : l.length ≤ 1000) (hs : 2 * (back.size + 5 * sumLen l) + 100 ≤ 140737486000000) :
    Calls Tryz.prog 7 #[.string back, v] w (Says (ofL' (back.data.toList ++ [32] ++ TT l.reverse [])) w) := by
  obtain ⟨ad, c, rfl, hl, hc⟩ := h
  have HC := Lib.hid hc
  clear hc
  go_enter Tryz.func7, Tryz.ntmps7
  go_wp2_with (first | (go_at_call 8; refine (builtinC _ _).mono ?_; rintro e w' ⟨rfl, rfl⟩))
  go_loopw [5, 12] (fun a i wr => ∃ k : Nat, k ≤ l.length ∧ i = .int .i64 k ∧ ChainAt wr back wr.heap.size (l.take k).reverse a ∧ Below w.heap.size w wr) (fun _ i _ => l.length - (intOf i).toNat)
  case atStart => exact ⟨0, Nat.zero_le _, rfl, ⟨w.heap.size, by simp, rfl, heap_alloc_new w _⟩, (Below.refl _ _).alloc (Nat.le_refl _) _⟩
  case round =>
    obtain ⟨k, hk, rfl, hCh, hbel⟩ := hrel
    obtain ⟨t, rb, rfl⟩ := hCh.form
    by_cases hlt : k < l.length
    · obtain ⟨b, o, rfl, hcell⟩ := Strs.at' HC.out hbel k hlt
      have etk := take_snoc' hlt
      obtain ⟨s, es⟩ : ∃ s, s = l.getD k ByteArray.empty := ⟨_, rfl⟩
      rw [← es] at hcell etk
      have ET := Lib.hid etk
      have CH := Lib.hid hCh
      have HB := Lib.hid hbel
      have hszr := hbel.size
      have hft := Lib.hid (functionTypeC (.iface t (.pointer (some ⟨rb, 0, none⟩))) _ [s] _ (.inr ⟨_, _, rfl⟩) (strs_one (heap_alloc_new wr (.cells #[.string s] 9))) (by simp))
      clear etk hCh hbel es
      go_wp2_with fail
      refine hft.out.mono ?_
      rintro e w1 ⟨bf, rfl, h1, h2, hF, hb1⟩
      have HF := Lib.hid hF
      have H1 := Lib.hid h1
      have H2 := Lib.hid h2
      have hb2 : Below wr.heap.size wr w1 := ((Below.refl _ _).alloc (Nat.le_refl _) _).trans (hb1.mono (by simp))
      have B1 := Lib.hid hb2
      clear hF h1 h2 hb1 hb2
      go_wp2_with fail
      go_roundw
      case rel =>
        have BB : Below w1.heap.size w1 (w1.alloc (.cells #[.iface 33 (.pointer (some ⟨bf, 0, none⟩))] 36)) := (Below.refl _ _).alloc (Nat.le_refl _) _
        have hbf := H1.out
        have hbf2 := H2.out
        simp at hbf
        refine ⟨k + 1, by omega, by go_num, ?_, (HB.out.trans (B1.out.mono hszr)).alloc (by have := B1.out.size; omega) _⟩
        rw [ET.out, List.reverse_append]
        exact ⟨w1.heap.size, bf, .iface t (.pointer (some ⟨rb, 0, none⟩)), rfl, by simp, hbf2, heap_alloc_new w1 _, HF.out.below BB, ChainAt.below BB _ _ _ _ (Nat.le_refl _) (ChainAt.below B1.out _ _ _ _ (by omega) CH.out)⟩
      case measure => simp [intOf]; omega
    · have hk' : l.take k = l := List.take_of_length_le (by omega)
      rw [hk'] at hCh
      have HB := Lib.hid hbel
      have hszr := hbel.size
      cases hr : l.reverse with
      | nil => have := congrArg List.length hr; simp at this; rw [this] at hn; simp at hn
      | cons s rest =>
        rw [hr] at hCh
        obtain ⟨bp, bf, v', e1, h1, h2, h3, h4, h5⟩ := hCh
        simp only [Value.iface.injEq, Value.pointer.injEq, Option.some.injEq, Addr.mk.injEq, and_true] at e1
        obtain ⟨rfl, rfl⟩ := e1
        have hsum := sumLen_rev l
        have hlen := congrArg List.length hr
        rw [hr] at hsum
        simp only [List.length_reverse, List.length_cons] at hlen
        have htl := TT_len (s :: rest) []
        have hd := chainDoes wr wr.heap.size back rfl rest s rb bf v' [] [] st0 h2 h3 h4 h5 rfl (ctx_nil _ _) ⟨(fun x hx => (by cases hx)), (by show 0 + _ ≤ _; omega), (by show 0 + _ ≤ _; omega), ⟨by decide, by show (1 : Int) + ((0 : Nat) : Int) + _ ≤ _; omega⟩,
          by show 0 + _ + _ ≤ _; simp only [List.length_append, List.length_cons, List.length_nil, size_list] at htl ⊢; omega, rfl⟩
        have K := Lib.hid (toStringC wr _ _ rb _ _ (isPointer rb) hd)
        have HR := Lib.hid hr
        clear hd h1 h2 h3 h4 h5 hbel hk' hr hlen hsum htl
        go_wp2_with fail
        refine K.out.mono ?_
        rintro e w2 ⟨rfl, hb2⟩
        have B2 := Lib.hid hb2
        clear hb2 K
        go_wp2_with fail
        go_ret
        refine ⟨?_, HB.out.trans (B2.out.mono hszr)⟩
        refine congrArg (fun z => Ending.returned (Value.string z)) (of_data ?_)
        rw [HR.out]
        simp [chF, st0]

theorem TT_snoc (l : List ByteArray) (s : ByteArray) : ∀ T, TT (l ++ [s]) T = fT s (TT l T) := by
  induction l with
  | nil => intro T; rfl
  | cons x l ih => intro T; exact ih (fT x T)

set_option maxRecDepth 100000 in
set_option maxHeartbeats 4000000 in
theorem law_chain (f : ByteArray) (hf : f.size ≤ maxLen) (a : Option Addr) (c : Nat) (l : List ByteArray) {w : World} (h : Strs w (.slice a l.length c) l) (_hnil : a = none → c = 0) (hc : l.length ≤ c) (hc2 : c ≤ 9223372036854775807) (hz : ∀ s ∈ l, s.size ≤ 9223372036854775807) :
    Calls Tryz.prog 3 #[.string f, .slice a l.length c] w (True1 w) := by
  unfold maxLen at hf
  have hl : l.length ≤ 9223372036854775807 := by omega
  have Z := Lib.hid hz
  have HL := Lib.hid h
  clear hz h
  by_cases h1 : 2147483647 < f.size
  · go_enter Tryz.func3, Tryz.ntmps3
    go_wp2_with fail
    go_ret
    exact ⟨rfl, Below.refl _ _⟩
  have hle : f.size ≤ 2147483647 := by omega
  clear h1
  go_enter Tryz.func3, Tryz.ntmps3
  go_wp2_with fail
  refine (fits_yes2 _ l _ HL.out Z.out).mono ?_
  rintro e w' ⟨b, rfl, hb, rfl⟩
  cases b with
  | false =>
    go_wp2_with fail
    go_ret
    exact ⟨rfl, Below.refl _ _⟩
  | true =>
  have FNS := Lib.hid (hb rfl)
  clear hb
  go_wp2_with fail
  refine (smListC _ l _ HL.out FNS.out.2).mono ?_
  rintro e w' ⟨t0, b, rfl, hb, rfl⟩
  cases b with
  | false =>
    go_wp2_with fail
    go_ret
    exact ⟨rfl, Below.refl _ _⟩
  | true =>
  have HB := Lib.hid (hb rfl)
  clear hb
  go_wp2_with fail
  refine (smCleanC f _ (by omega)).mono ?_
  rintro e w' ⟨b, rfl, rfl⟩
  cases b with
  | false =>
    go_wp2_with fail
    go_ret
    exact ⟨rfl, Below.refl _ _⟩
  | true =>
  by_cases hn : 0 < l.length
  · have e1 : ((l.length : Int) == 0) = false := by rw [beq_eq_false_iff_ne]; omega
    have HN := Lib.hid hn
    have hm' : Hid (l.length ≤ 1000) := HB.out.2.2
    have hsum : Hid (sumLen l ≤ 2147483648000) := by
      show _ ≤ _
      have h1 := sumLen_leT l 2147483647 FNS.out.2
      have h2 := Nat.mul_le_mul_right 2147483648 hm'.out
      omega
    obtain ⟨aa, cc, ee, hll, hcs⟩ := id HL.out
    simp only [Value.slice.injEq] at ee
    obtain ⟨rfl, -, rfl⟩ := ee
    have HC := Lib.hid hcs
    clear hn hcs
    go_wp2_with fail
    go_loop [7, 36] (fun t i => ∃ k : Nat, k ≤ l.length ∧ i = .int .i64 k ∧ t = .string (ofL' (TT (l.drop (l.length - k)).reverse []))) (fun _ i => l.length - (intOf i).toNat)
    case atStart =>
      refine ⟨0, Nat.zero_le _, rfl, ?_⟩
      rw [List.drop_eq_nil_of_le (by omega)]
      rfl
    case round =>
      obtain ⟨k, hk, rfl, rfl⟩ := hrel
      by_cases hlt : k < l.length
      · obtain ⟨j, hj⟩ : ∃ j, j = l.length - 1 - k := ⟨_, rfl⟩
        have hsub : ((l.length : Int) - 1) - (k : Int) = (j : Int) := by omega
        obtain ⟨b, o, rfl, hcell⟩ := HC.out j (by omega)
        have hx := FNS.out.2 j (by omega)
        have edrop : l.drop (l.length - (k + 1)) = l.getD j ByteArray.empty :: l.drop (l.length - k) := by
          have e3 : l.length - (k + 1) = j := by omega
          have e4 : l.length - k = j + 1 := by omega
          rw [e3, e4, List.drop_eq_getElem_cons (by omega)]
          simp [List.getD_eq_getElem?_getD, (by omega : j < l.length)]
        obtain ⟨x, ex⟩ : ∃ x, x = l.getD j ByteArray.empty := ⟨_, rfl⟩
        rw [← ex] at hcell hx edrop
        have hts : (ofL' (TT (l.drop (l.length - k)).reverse [])).size ≤ 140737488000000 := by
          rw [ofL'_size]
          have h1 := TT_len (l.drop (l.length - k)).reverse []
          rw [sumLen_rev] at h1
          have h2 := sumLen_append (l.take (l.length - k)) (l.drop (l.length - k))
          rw [List.take_append_drop] at h2
          have h3 := hsum.out
          simp only [List.length_nil] at h1
          omega
        obtain ⟨t, et⟩ : ∃ t, t = ofL' (TT (l.drop (l.length - k)).reverse []) := ⟨_, rfl⟩
        rw [← et] at hts ⊢
        have ED := Lib.hid edrop
        have ET := Lib.hid et
        clear ex edrop et hj
        go_wp2_with fail
        go_round
        case rel =>
          refine ⟨k + 1, by omega, by go_num, ?_⟩
          refine congrArg Value.string (of_data ?_)
          rw [ED.out, List.reverse_cons, TT_snoc, ET.out]
          simp [ByteArray.data_append, ofL', fT]
        case measure => simp [intOf]; omega
      · have hk' : l.length - k = 0 := by omega
        rw [hk', List.drop_zero]
        have hts : (ofL' (TT l.reverse [])).size ≤ 140737488000000 := by
          rw [ofL'_size]
          have h1 := TT_len l.reverse []
          rw [sumLen_rev] at h1
          have h3 := hsum.out
          simp only [List.length_nil] at h1
          omega
        have hpr := Lib.hid (printChainC f _ l w HL.out HN.out hm'.out (by have := hsum.out; omega))
        have etx : f ++ (⟨#[32]⟩ : ByteArray) ++ ofL' (TT l.reverse []) = ofL' (f.data.toList ++ [32] ++ TT l.reverse []) := of_data (by simp [ByteArray.data_append, ofL'])
        clear hk'
        go_wp2_with (first | (go_at_call 7; refine hpr.out.mono ?_; rintro e w3 ⟨rfl, hb3⟩; have B3 := Lib.hid hb3; clear hb3))
        go_ret
        exact ⟨rfl, B3.out⟩
  · have h0 : l.length = 0 := by omega
    rw [h0]
    go_wp2_with fail
    go_ret
    exact ⟨rfl, Below.refl _ _⟩
end Go.Proofs.YtkofdhhkhcdeoaaGreat
