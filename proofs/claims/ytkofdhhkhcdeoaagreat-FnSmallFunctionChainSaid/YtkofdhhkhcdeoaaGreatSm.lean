/- The laws' own helpers: lists of texts with commas, words, clean ends, the size tests; and the state behind a text; conditions: as each says. -/
import Derived.Test.YtkofdhhkhcdeoaaGreatList
import Derived.Stop.Asserts
namespace Go.Proofs.YtkofdhhkhcdeoaaGreat
open Go.ChangeShapes Go.WideShapes Go.ChangeAt Go.RowKit

/-- The state behind a text. -/
def wrL (st : St) (t : List UInt8) : St := { st with txt := st.txt ++ t, last := t.getLast?.getD st.last }
theorem wr_wrL (st : St) (s : ByteArray) : st.wr s = wrL st s.data.toList := rfl
theorem wb_wrL (st : St) (b : UInt8) : st.wb b = wrL st [b] := rfl
theorem wrL_app (st : St) (a b : List UInt8) : wrL (wrL st a) b = wrL st (a ++ b) := by
  cases b with
  | nil => simp [wrL]
  | cons x b => simp [wrL, List.getLast?_append]
theorem wrL_len (st : St) (t : List UInt8) : (wrL st t).txt.length = st.txt.length + t.length := by simp [wrL]
theorem wrL_inn (st : St) (t : List UInt8) (l : List Value) : wrL { st with inn := l } t = { wrL st t with inn := l } := rfl
theorem wrL_sc (st : St) (t : List UInt8) (n : Int) : wrL { st with sc := n } t = { wrL st t with sc := n } := rfl
theorem wrL_prt (st : St) (t : List UInt8) (l : List Value) : wrL { st with prt := l } t = { wrL st t with prt := l } := rfl
theorem wrL_last (st : St) (t : List UInt8) (h : t ≠ []) (b : UInt8) : (wrL st t).last = b ↔ t.getLast? = some b := by
  have : ∃ x, t.getLast? = some x := ⟨t.getLast h, List.getLast?_eq_some_getLast h⟩
  obtain ⟨x, hx⟩ := this
  simp [wrL, hx]
/-- Texts with commas between. -/
def jt : List ByteArray → List UInt8
  | [] => []
  | s :: l => [44, 32] ++ s.data.toList ++ jt l
def jn : List ByteArray → List UInt8
  | [] => []
  | s :: l => s.data.toList ++ jt l
theorem size_list (s : ByteArray) : s.data.toList.length = s.size := by rw [Array.length_toList]; rfl
theorem size_pos {s : ByteArray} (h : 0 < s.size) : s.data.toList ≠ [] := fun e => by
  have := congrArg List.length e
  rw [size_list] at this
  rw [this] at h
  exact absurd h (by decide)
theorem jt_len (l : List ByteArray) : (jt l).length ≤ 2 * sumLen l := by
  induction l with
  | nil => simp [jt]
  | cons s l ih => simp only [jt, List.length_append, List.length_cons, List.length_nil, size_list, sumLen]; omega
theorem jn_len (l : List ByteArray) : (jn l).length ≤ 2 * sumLen l := by
  cases l with
  | nil => simp [jn]
  | cons s l => have := jt_len l; simp only [jn, List.length_append, size_list, sumLen]; omega
theorem fresh_type' (p : Nat) (W : World) (l : List Value) (t b : Nat) (h : ∀ x, x ∈ l → ∃ t' b', x = .iface t' (.pointer (some ⟨b', 0, none⟩)) ∧ t' ≠ t) : Fresh p W l (.iface t (.pointer (some ⟨b, 0, none⟩))) := by
  intro x hx
  obtain ⟨t', b', rfl, hne⟩ := h x hx
  exact ⟨t', b', rfl, fun w _ => run_eql_iface_types t' t _ _ Tryz.underlying30 hne w⟩
theorem pos_of_list {s : ByteArray} (h : s.toList.isEmpty = false) : 0 < s.size := by
  apply Nat.pos_of_ne_zero
  intro e
  have e : s = ByteArray.empty := by
    apply ByteArray.ext
    apply Array.ext'
    exact List.eq_nil_of_length_eq_zero (by rw [Array.length_toList]; exact e)
  rw [e] at h
  have h2 : ByteArray.empty.toList.isEmpty = true := by unfold ByteArray.toList; rw [ByteArray.toList.loop]; rfl
  rw [h2] at h
  cases h
theorem not_empty {s : ByteArray} (h : 0 < s.size) : s.toList.isEmpty = false := by
  have h2 : s.toList = s.data.toList := ByteArray.toList_eq s
  rw [h2]
  cases h3 : s.data.toList with
  | nil => exact absurd h3 (size_pos h)
  | cons x l => rfl
/-- Bytes as a text. -/
def ofL' (l : List UInt8) : ByteArray := ⟨l.toArray⟩
theorem ofL'_data (l : List UInt8) : (ofL' l).data.toList = l := by simp [ofL']
theorem ofL'_size (l : List UInt8) : (ofL' l).size = l.length := by rw [← size_list, ofL'_data]
theorem of_data {s : ByteArray} {l : List UInt8} (h : s.data.toList = l) : s = ofL' l := by
  apply ByteArray.ext
  apply Array.ext'
  rw [h, ofL'_data]
theorem jn_snoc (l : List ByteArray) (s : ByteArray) : jn (l ++ [s]) = if l = [] then s.data.toList else jn l ++ [44, 32] ++ s.data.toList := by
  have key : ∀ l : List ByteArray, jt (l ++ [s]) = jt l ++ [44, 32] ++ s.data.toList := by
    intro l
    induction l with
    | nil => simp [jt]
    | cons x l ih => simp [jt, ih]
  cases l with
  | nil => simp [jn, jt]
  | cons x l => simp [jn, key]
theorem sumLen_leT (l : List ByteArray) (B : Nat) (h : ∀ i, i < l.length → (l.getD i ByteArray.empty).size ≤ B) : sumLen l ≤ l.length * (B + 1) := by
  induction l with
  | nil => simp [sumLen]
  | cons s l ih =>
    have h0 : s.size ≤ B := by simpa using h 0 (by simp)
    have h1 := ih fun i hi => by simpa using h (i + 1) (by simpa using hi)
    simp only [sumLen, List.length_cons, Nat.add_mul, Nat.one_mul]
    omega
def ListSaid (l : List ByteArray) (w : World) (e : Ending) (w' : World) : Prop :=
  ∃ t b, e = .returned (.tuple #[.string t, .bool b]) ∧ (b = true → t = ofL' (jn l) ∧ (∀ i, i < l.length → 0 < (l.getD i ByteArray.empty).size) ∧ l.length ≤ 1000) ∧ w = w'
set_option maxHeartbeats 1000000 in
theorem smListC (v : Value) (l : List ByteArray) (w : World) (h : Strs w v l) (hz : ∀ i, i < l.length → (l.getD i ByteArray.empty).size ≤ 2147483647) : Calls Tryz.prog 5 #[v] w (ListSaid l w) := by
  obtain ⟨a, c, rfl, hl, hc⟩ := h
  have hsum := sumLen_leT l 2147483647 hz
  have HZ := Lib.hid hz
  have HS := Lib.hid hsum
  clear hz hsum
  go_enter Tryz.func5, Tryz.ntmps5
  go_wp2
  go_loop [4, 9] (fun t i => ∃ k : Nat, k ≤ l.length ∧ i = .int .i64 k ∧ t = .string (ofL' (jn (l.take k))) ∧ (0 < k → l.length ≤ 1000) ∧ ∀ j, j < k → 0 < (l.getD j ByteArray.empty).size) (fun _ i => l.length - (intOf i).toNat)
  case atStart => exact ⟨0, Nat.zero_le _, rfl, rfl, fun e => by omega, fun j hj => by omega⟩
  case round =>
    obtain ⟨k, hk, rfl, rfl, hle, hpos⟩ := hrel
    have HL := Lib.hid hle
    have HP := Lib.hid hpos
    clear hle hpos
    by_cases hlt : k < l.length
    · obtain ⟨b, o, rfl, hcell⟩ := hc k hlt
      have hs := HZ.out k hlt
      have etk := take_snoc' hlt
      obtain ⟨s, es⟩ : ∃ s, s = l.getD k ByteArray.empty := ⟨_, rfl⟩
      rw [← es] at hcell hs etk
      have hts : l.length ≤ 1000 → (ofL' (jn (l.take k))).size ≤ 8589934592000 := fun h1 => by
        rw [ofL'_size]
        have h2 := sumLen_take l k
        have h3 := HS.out
        have h4 := Nat.mul_le_mul_right 2147483648 h1
        have h5 := jn_len (l.take k)
        omega
      have hnew : jn (l.take (k + 1)) = if k = 0 then s.data.toList else jn (l.take k) ++ [44, 32] ++ s.data.toList := by
        rw [etk, jn_snoc]
        by_cases h0 : k = 0
        · subst h0; simp
        · have : l.take k ≠ [] := fun e => h0 (by have := congrArg List.length e; simp at this; rcases this with h | h; exact h; rw [h] at hlt; simp at hlt)
          rw [if_neg this, if_neg h0]
      obtain ⟨t, et⟩ : ∃ t, t = ofL' (jn (l.take k)) := ⟨_, rfl⟩
      rw [← et] at hts ⊢
      have ES := Lib.hid es
      have ET := Lib.hid et
      have NW := Lib.hid hnew
      have hnext : 0 < s.size → Hid (∀ j, j < k + 1 → 0 < (l.getD j ByteArray.empty).size) := fun h0 j hj => by
        by_cases e : j = k
        · rw [e, ← ES.out]; exact h0
        · exact HP.out j (by omega)
      have NX := Lib.hid hnext
      clear hc es et hnew etk hnext
      by_cases he : s.toList.isEmpty = true
      · go_wp2
        go_ret2
        exact ⟨_, false, rfl, fun e => (by cases e), rfl⟩
      · have he' : s.toList.isEmpty = false := by simpa using he
        have hps := Lib.hid (pos_of_list he')
        clear he
        by_cases hn : 1000 < l.length
        · clear hts
          go_wp2
          go_ret2
          exact ⟨_, false, rfl, fun e => (by cases e), rfl⟩
        · have hts' := hts (by omega)
          clear hts
          by_cases h0 : k = 0
          · subst h0
            rw [Nat.add_zero] at hcell
            go_wp2
            go_round
            case rel =>
              refine ⟨1, by omega, by go_num, ?_, fun _ => by omega, NX.out hps.out⟩
              congr 1
              apply of_data
              rw [ByteArray.data_append, Array.toList_append, ET.out, ofL'_data, NW.out]
              simp [jn]
            case measure => simp [intOf]; omega
          · have K0 := Lib.hid h0
            have hk0 : 0 < k := by omega
            clear h0
            go_wp2
            go_round
            case rel =>
              refine ⟨k + 1, by omega, by go_num, ?_, fun _ => by omega, NX.out hps.out⟩
              congr 1
              apply of_data
              rw [ByteArray.data_append, Array.toList_append, ByteArray.data_append, Array.toList_append, ET.out, ofL'_data, NW.out, if_neg K0.out]
            case measure => simp [intOf]; omega
    · have hk' : l.take k = l := List.take_of_length_le (by omega)
      have hkl : Hid (k = l.length) := by show k = _; omega
      rw [hk']
      clear hc hk'
      go_wp2
      go_ret2
      refine ⟨_, true, rfl, fun _ => ⟨rfl, fun i hi => HP.out i (by have := hkl.out; omega), ?_⟩, rfl⟩
      by_cases h0 : 0 < k
      · exact HL.out h0
      · have := hkl.out; omega
/-- The size test's yes tells that there are no more than 2^31 - 1 texts, none longer than that. -/
def FitsSaid2 (l : List ByteArray) (w : World) (e : Ending) (w' : World) : Prop := ∃ b, e = .returned (.bool b) ∧ (b = true → l.length ≤ 2147483647 ∧ ∀ i, i < l.length → (l.getD i ByteArray.empty).size ≤ 2147483647) ∧ w = w'
set_option maxHeartbeats 400000 in
theorem fits_yes2 (v : Value) (l : List ByteArray) (w : World) (h : Strs w v l) (hz : ∀ s ∈ l, s.size ≤ 9223372036854775807) : Calls Tryz.prog 4 #[v] w (FitsSaid2 l w) := by
  by_cases hlen : 2147483647 < l.length
  · obtain ⟨a, c, rfl, hl, hc⟩ := h
    clear hc hz
    go_enter Tryz.func4, Tryz.ntmps4
    go_wp2
    go_ret
    exact ⟨false, rfl, fun e => (by cases e), rfl⟩
  · exact (fits_yes v l w h hz).mono fun e w' ⟨b, h1, h2, h3⟩ => ⟨b, h1, fun hb => ⟨by omega, h2 hb⟩, h3⟩
set_option maxHeartbeats 1000000 in
theorem smCleanC (s : ByteArray) (w : World) (hs : s.size ≤ 9223372036854775807) : Calls Tryz.prog 6 #[.string s] w (SomeBool w) := by
  by_cases h0 : s.size = 0
  · have e : s = ByteArray.empty := by
      apply ByteArray.ext
      apply Array.ext'
      exact List.eq_nil_of_length_eq_zero (by rw [Array.length_toList]; exact h0)
    subst e
    go_enter Tryz.func6, Tryz.ntmps6
    go_wp2
    all_goals go_ret
    all_goals exact ⟨_, rfl, rfl⟩
  · have h0' : 0 < s.size := by omega
    clear h0
    by_cases he : s.toList.isEmpty = true
    · go_enter Tryz.func6, Tryz.ntmps6
      go_wp2
      all_goals go_ret
      all_goals exact ⟨_, rfl, rfl⟩
    · have he' : s.toList.isEmpty = false := by simpa using he
      clear he
      go_enter Tryz.func6, Tryz.ntmps6
      go_wp2
      all_goals go_ret
      all_goals exact ⟨_, rfl, rfl⟩
/-! ### The texts with a blank in front of each -/
def wl (l : List ByteArray) : List UInt8 := l.flatMap fun s => 32 :: s.data.toList
def wtext : List ByteArray → ByteArray := fun l => l.foldl (fun a s => a ++ ((⟨#[32]⟩ : ByteArray) ++ s)) ⟨#[]⟩
theorem wtext_snoc (l : List ByteArray) (s : ByteArray) : wtext (l ++ [s]) = wtext l ++ ((⟨#[32]⟩ : ByteArray) ++ s) := by simp [wtext, List.foldl_append]
theorem fold_data (l : List ByteArray) : ∀ a : ByteArray, (l.foldl (fun a s => a ++ ((⟨#[32]⟩ : ByteArray) ++ s)) a).data.toList = a.data.toList ++ wl l := by
  induction l with
  | nil => intro a; simp [wl]
  | cons s l ih => intro a; simp [ih, wl, ByteArray.data_append]
theorem wtext_data (l : List ByteArray) : (wtext l).data.toList = wl l := by simp [wtext, fold_data]
theorem wl_len (l : List ByteArray) : (wl l).length = sumLen l := by
  induction l with
  | nil => rfl
  | cons s l ih =>
    have e : s.data.toList.length = s.size := by rw [Array.length_toList]; rfl
    have ih' : (List.flatMap (fun s : ByteArray => 32 :: s.data.toList) l).length = sumLen l := ih
    simp only [wl, List.flatMap_cons, List.length_append, List.length_cons, sumLen, e, ih']
theorem wtext_size (l : List ByteArray) : (wtext l).size = sumLen l := by
  rw [← wl_len, ← wtext_data, Array.length_toList]
  rfl
theorem fold_txt (l : List ByteArray) : ∀ st : St, (l.foldl (fun a x => (a.wb 32).wr x) st).txt = st.txt ++ wl l := by
  induction l with
  | nil => intro st; simp [wl]
  | cons s l ih => intro st; rw [List.foldl_cons, ih]; simp [wl, St.wr, St.wb]
theorem qs_txt (st : St) (l : List ByteArray) (hl : l ≠ []) : ((st.wb 32).qs l).txt = st.txt ++ wl l := by
  cases l with
  | nil => exact absurd rfl hl
  | cons s l => rw [St.qs, fold_txt]; simp [wl, St.wr, St.wb]
def WordsSaid (l : List ByteArray) (w : World) (e : Ending) (w' : World) : Prop :=
  ∃ t b, e = .returned (.tuple #[.string t, .bool b]) ∧ (b = true → t = wtext l ∧ 0 < l.length ∧ l.length ≤ 1000) ∧ w = w'
theorem getD_of_mem {l : List ByteArray} {P : ByteArray → Prop} (h : ∀ i, i < l.length → P (l.getD i ByteArray.empty)) : ∀ x ∈ l, P x := by
  intro x hx
  obtain ⟨i, hi, e⟩ := List.mem_iff_getElem.1 hx
  have := h i hi
  rw [List.getD_eq_getElem?_getD, List.getElem?_eq_getElem hi] at this
  simp only [Option.getD_some] at this
  rw [e] at this
  exact this
end Go.Proofs.YtkofdhhkhcdeoaaGreat
