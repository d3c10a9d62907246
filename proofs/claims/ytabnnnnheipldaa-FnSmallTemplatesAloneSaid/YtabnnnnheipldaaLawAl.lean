/- laws.FnSmallTemplatesAlone returns true, for every input; conditions: none. -/
import Derived.Test.YtabnnnnheipldaaAlone
namespace Go.Proofs.Ytabnnnnheipldaa
open Go.ChangeShapes Go.WideShapes Go.ChangeAt Go.RowKit

theorem strs_one {w : World} {g : Nat} {s : ByteArray} (h : w.heap[g]? = some (.cells #[.string s] 9 (0, 0))) : Strs w (.slice (some ⟨g, 0, none⟩) 1 1) [s] :=
  ⟨some ⟨g, 0, none⟩, 1, rfl, by simp, fun i hi => ⟨g, 0, rfl, by
    have e : i = 0 := by simp at hi; omega
    subst e
    exact cell_of_one h⟩⟩

theorem hzs_cons {s : ByteArray} {m : List ByteArray} (hs : s.size ≤ 2147483647) (h : ∀ i, i < m.length → (m.getD i ByteArray.empty).size ≤ 2147483647) : Hid (∀ i, i < (s :: m).length → ((s :: m).getD i ByteArray.empty).size ≤ 2147483647) := by
  intro i hi
  cases i with
  | zero => exact hs
  | succ i => exact h i (by simpa using hi)

set_option maxRecDepth 100000 in
set_option maxHeartbeats 4000000 in
theorem law_alone (x : ByteArray) (hx : x.size ≤ maxLen) (s : ByteArray) (hs : s.size ≤ maxLen) (a2 : Option Addr) (c2 : Nat) (m : List ByteArray) {w : World} (hm : Strs w (.slice a2 m.length c2) m) (_hnil2 : a2 = none → c2 = 0) (hc2 : m.length ≤ c2) (hcc2 : c2 ≤ 9223372036854775807) (hz2 : ∀ s ∈ m, s.size ≤ 9223372036854775807)
    (t : ByteArray) (ht : t.size ≤ maxLen) (a3 : Option Addr) (c3 : Nat) (n : List ByteArray) (hn : Strs w (.slice a3 n.length c3) n) (_hnil3 : a3 = none → c3 = 0) (hc3 : n.length ≤ c3) (hcc3 : c3 ≤ 9223372036854775807) (hz3 : ∀ s ∈ n, s.size ≤ 9223372036854775807) :
    Calls Try.prog 10 #[.string x, .string s, .slice a2 m.length c2, .string t, .slice a3 n.length c3] w (True1 w) := by
  unfold maxLen at hx hs ht
  have hml : m.length ≤ 9223372036854775807 := by omega
  have hnl : n.length ≤ 9223372036854775807 := by omega
  have Z2 := Lib.hid hz2
  have Z3 := Lib.hid hz3
  have HM := Lib.hid hm
  have HN := Lib.hid hn
  clear hz2 hz3 hm hn
  by_cases h1 : 2147483647 < x.size
  · go_enter Try.func10, Try.ntmps10
    go_wp2_with fail
    go_ret
    exact ⟨rfl, Below.refl _ _⟩
  have hx2 : x.size ≤ 2147483647 := by omega
  clear h1
  by_cases h1 : 2147483647 < s.size
  · go_enter Try.func10, Try.ntmps10
    go_wp2_with fail
    go_ret
    exact ⟨rfl, Below.refl _ _⟩
  have hs2 : s.size ≤ 2147483647 := by omega
  clear h1
  go_enter Try.func10, Try.ntmps10
  go_wp2_with fail
  refine (fits_yes2 _ m _ HM.out Z2.out).mono ?_
  rintro e w' ⟨b2, rfl, f2, rfl⟩
  cases b2 with
  | false =>
    go_wp2_with fail
    go_ret
    exact ⟨rfl, Below.refl _ _⟩
  | true =>
  have F2 := Lib.hid (f2 rfl)
  clear f2
  by_cases h1 : 2147483647 < t.size
  · go_wp2_with fail
    go_ret
    exact ⟨rfl, Below.refl _ _⟩
  have ht2 : t.size ≤ 2147483647 := by omega
  go_wp2_with fail
  refine (fits_yes2 _ n _ HN.out Z3.out).mono ?_
  rintro e w' ⟨b3, rfl, f3, rfl⟩
  cases b3 with
  | false =>
    go_wp2_with fail
    go_ret
    exact ⟨rfl, Below.refl _ _⟩
  | true =>
  have F3 := Lib.hid (f3 rfl)
  clear f3 h1
  have hm64 := F2.out.1
  have hn64 := F3.out.1
  have Y2 := hzs_cons hs2 F2.out.2
  have Y3 := hzs_cons ht2 F3.out.2
  go_wp2_with (first | (at_builtin; refine wpList_catStr rfl (.tmp 41) (.tmp 42) rfl w.heap.size ?_ _ m ?_ s w.heap.size ?_ (Nat.le_refl _) rfl rfl ?_ ?_; (simp); (exact HM.out.below' ((Below.refl _ _).alloc (Nat.le_refl _) _)); (exact heap_alloc_new w _); omega; intro v2 w2 hS hB; have S2 := Lib.hid hS; have B2 := Lib.hid ((((Below.refl w.heap.size w).alloc (Nat.le_refl _) _)).trans hB); clear hS hB))
  refine (smListC v2 (s :: m) w2 S2.out Y2.out).mono ?_
  rintro e w' ⟨t1, b1, rfl, hb1, rfl⟩
  have hsz2 := B2.out.size
  have H1 := Lib.hid hb1
  clear hb1
  go_wp2_with (first | (at_builtin; refine wpList_catStr rfl (.tmp 49) (.tmp 50) rfl w.heap.size ?_ _ n ?_ t w2.heap.size ?_ hsz2 rfl rfl ?_ ?_; (simp; omega); (exact HN.out.below' (B2.out.alloc hsz2 _)); (exact heap_alloc_new w2 _); omega; intro v3 w3 hS hB; have S3 := Lib.hid hS; have B3 := Lib.hid ((B2.out.alloc hsz2 _).trans hB); clear hS hB))
  refine (smListC v3 (t :: n) w3 S3.out Y3.out).mono ?_
  rintro e w' ⟨t2, b2, rfl, hb2, rfl⟩
  have H2 := Lib.hid hb2
  clear hb2
  cases b1 with
  | false =>
    go_wp2_with fail
    go_ret
    exact ⟨rfl, B3.out⟩
  | true =>
  cases b2 with
  | false =>
    go_wp2_with fail
    go_ret
    exact ⟨rfl, B3.out⟩
  | true =>
  have L1 : m.length ≤ 1000 := by have := (H1.out rfl).2.2; simp at this; omega
  have L2 : n.length ≤ 1000 := by have := (H2.out rfl).2.2; simp at this; omega
  have hsz3 := B3.out.size
  by_cases he : x.toList.isEmpty = true
  · go_wp2_with fail
    go_ret
    exact ⟨rfl, B3.out⟩
  have he' : x.toList.isEmpty = false := by simpa using he
  clear he
  go_wp2_with fail
  refine (printAloneC _ _ x m s _ (strs_one (heap_alloc_new w3 _)) (HM.out.below' (B3.out.alloc hsz3 _)) L1 hx2).mono ?_
  rintro e w4 ⟨rfl, hb4⟩
  have B4 := Lib.hid ((B3.out.alloc hsz3 _).trans (hb4.mono (by simp; omega)))
  have hsz4 := B4.out.size
  clear hb4
  go_wp2_with fail
  refine (printAloneC _ _ x n t _ (strs_one (heap_alloc_new w4 _)) (HN.out.below' (B4.out.alloc hsz4 _)) L2 hx2).mono ?_
  rintro e w5 ⟨rfl, hb5⟩
  have B5 := Lib.hid ((B4.out.alloc hsz4 _).trans (hb5.mono (by simp; omega)))
  clear hb5
  go_wp2_with fail
  go_ret
  exact ⟨rfl, B5.out⟩
end Go.Proofs.Ytabnnnnheipldaa
