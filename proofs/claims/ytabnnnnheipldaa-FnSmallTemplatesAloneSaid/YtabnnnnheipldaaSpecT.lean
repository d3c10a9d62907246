/- laws.smList, spec.ending, spec.Closed, impl.PrintTemplates, and append of strings; conditions: as each says. -/
import Derived.Test.YtabnnnnheipldaaTmplP
namespace Go.Proofs.Ytabnnnnheipldaa
open Go.ChangeShapes Go.WideShapes Go.ChangeAt Go.RowKit

theorem infoS : (Try.prog.info? 9).map (fun i => (i.zero, i.size, i.bytes)) = some (some (.string ByteArray.empty), 1, 16) := by kernel_rfl

/-- append([]string{s}, m...). -/
theorem wpList_catStr {w : World} {ops : Array Oper} {rest : List Oper} {o : Oper} {a : Act} {Q : Exit → Act → World → Prop} (hgd : o.guard = none) (so x : Operand)
    (ho : o.op = .call { callee := .builtin .append, args := #[so, x], argTypes := #[31, 31] }) (N : Nat) (hNw : N ≤ w.heap.size) (vm : Value) (m : List ByteArray) (h : Strs w vm m) (s : ByteArray) (g : Nat) (hg : w.heap[g]? = some (.cells #[.string s] 9 (0, 0))) (hN : N ≤ g)
    (hs : a.eval so = .slice (some ⟨g, 0, none⟩) 1 1) (hx : a.eval x = vm) (hm : m.length ≤ 4294967296)
    (hk : ∀ v' w2, Strs w2 v' (s :: m) → Below N w w2 → wpList Try.prog ops Q rest (a.put o.dst v') w2) : wpList Try.prog ops Q (o :: rest) a w := by
  obtain ⟨i0, hi0, hz0, hz1, hz2⟩ := info_parts infoS
  obtain ⟨am, cm, rfl, hl, hc⟩ := h
  refine wpList_cat hgd so x _ ho N 9 i0 _ 16 Try.underlying31 hi0 hz0 hz1 hz2 rfl (by decide) _ 1 [.string s] hs (own_one hg hN) am m.length cm (m.map Value.string) hx (by simp) ?_ ?_ (by omega) hNw ?_
  · intro j u hj
    rw [List.getElem?_map] at hj
    obtain ⟨y, hy, rfl⟩ := Option.map_eq_some_iff.1 hj
    have hjl := (List.getElem?_eq_some_iff.1 hy).1
    obtain ⟨b, k, e, hcell⟩ := hc j hjl
    refine ⟨b, k, e, ?_⟩
    rw [hcell, List.getD_eq_getElem?_getD, hy]
    rfl
  · intro u hu
    obtain ⟨y, _, rfl⟩ := List.mem_map.1 hu
    rfl
  · intro v' w2 hown hgrow _ hform
    obtain ⟨a', c', rfl⟩ := hform
    refine hk _ _ ⟨a', c', by simp [Nat.add_comm], by simp; omega, fun i hi => ?_⟩ ((Below.refl N w).grown hgrow hNw (fun q hq => by have hq' : g = q := (by simpa [Value.ownBlock] using hq); omega))
    have hx2 : ([Value.string s] ++ m.map Value.string)[i]? = some (.string ((s :: m).getD i ByteArray.empty)) := by
      have e : [Value.string s] ++ m.map Value.string = (s :: m).map Value.string := rfl
      rw [e, List.getElem?_map, List.getElem?_eq_getElem hi, List.getD_eq_getElem?_getD, List.getElem?_eq_getElem hi]
      rfl
    obtain ⟨b, k, e, hcell⟩ := own_cells hown i _ hx2
    exact ⟨b, k, e, hcell⟩

theorem pos_of_list {s : ByteArray} (h : s.toList.isEmpty = false) : 0 < s.size := by
  apply Nat.pos_of_ne_zero
  intro e
  have e : s = ByteArray.empty := by
    apply ByteArray.ext
    apply Array.ext'
    exact List.eq_nil_of_length_eq_zero (by rw [Array.length_toList]; exact e)
  rw [e] at h
  have h2 : ByteArray.empty.toList.isEmpty = true := by unfold ByteArray.toList; rw [ByteArray.toList.loop]; rfl
  rw [h2] at h
  cases h

theorem not_empty {s : ByteArray} (h : 0 < s.size) : s.toList.isEmpty = false := by
  have h2 : s.toList = s.data.toList := ByteArray.toList_eq s
  rw [h2]
  cases h3 : s.data.toList with
  | nil => exact absurd h3 (size_pos h)
  | cons x l => rfl

/-- Bytes as a text. -/
def ofL' (l : List UInt8) : ByteArray := ⟨l.toArray⟩
theorem ofL'_data (l : List UInt8) : (ofL' l).data.toList = l := by simp [ofL']
theorem ofL'_size (l : List UInt8) : (ofL' l).size = l.length := by rw [← size_list, ofL'_data]
theorem of_data {s : ByteArray} {l : List UInt8} (h : s.data.toList = l) : s = ofL' l := by
  apply ByteArray.ext
  apply Array.ext'
  rw [h, ofL'_data]

theorem jn_snoc (l : List ByteArray) (s : ByteArray) : jn (l ++ [s]) = if l = [] then s.data.toList else jn l ++ [44, 32] ++ s.data.toList := by
  have key : ∀ l : List ByteArray, jt (l ++ [s]) = jt l ++ [44, 32] ++ s.data.toList := by
    intro l
    induction l with
    | nil => simp [jt]
    | cons x l ih => simp [jt, ih]
  cases l with
  | nil => simp [jn, jt]
  | cons x l => simp [jn, key]

theorem sumLen_leT (l : List ByteArray) (B : Nat) (h : ∀ i, i < l.length → (l.getD i ByteArray.empty).size ≤ B) : sumLen l ≤ l.length * (B + 1) := by
  induction l with
  | nil => simp [sumLen]
  | cons s l ih =>
    have h0 : s.size ≤ B := by simpa using h 0 (by simp)
    have h1 := ih fun i hi => by simpa using h (i + 1) (by simpa using hi)
    simp only [sumLen, List.length_cons, Nat.add_mul, Nat.one_mul]
    omega

def ListSaid (l : List ByteArray) (w : World) (e : Ending) (w' : World) : Prop :=
  ∃ t b, e = .returned (.tuple #[.string t, .bool b]) ∧ (b = true → t = ofL' (jn l) ∧ (∀ i, i < l.length → 0 < (l.getD i ByteArray.empty).size) ∧ l.length ≤ 1000) ∧ w = w'

set_option maxHeartbeats 1000000 in
theorem smListC (v : Value) (l : List ByteArray) (w : World) (h : Strs w v l) (hz : ∀ i, i < l.length → (l.getD i ByteArray.empty).size ≤ 2147483647) : Calls Try.prog 24 #[v] w (ListSaid l w) := by
  obtain ⟨a, c, rfl, hl, hc⟩ := h
  have hsum := sumLen_leT l 2147483647 hz
  have HZ := Lib.hid hz
  have HS := Lib.hid hsum
  clear hz hsum
  go_enter Try.func24, Try.ntmps24
  go_wp2
  go_loop [4, 9] (fun t i => ∃ k : Nat, k ≤ l.length ∧ i = .int .i64 k ∧ t = .string (ofL' (jn (l.take k))) ∧ (0 < k → l.length ≤ 1000) ∧ ∀ j, j < k → 0 < (l.getD j ByteArray.empty).size) (fun _ i => l.length - (intOf i).toNat)
  case atStart => exact ⟨0, Nat.zero_le _, rfl, rfl, fun e => by omega, fun j hj => by omega⟩
  case round =>
    obtain ⟨k, hk, rfl, rfl, hle, hpos⟩ := hrel
    have HL := Lib.hid hle
    have HP := Lib.hid hpos
    clear hle hpos
    by_cases hlt : k < l.length
    · obtain ⟨b, o, rfl, hcell⟩ := hc k hlt
      have hs := HZ.out k hlt
      have etk := take_snoc' hlt
      obtain ⟨s, es⟩ : ∃ s, s = l.getD k ByteArray.empty := ⟨_, rfl⟩
      rw [← es] at hcell hs etk
      have hts : l.length ≤ 1000 → (ofL' (jn (l.take k))).size ≤ 8589934592000 := fun h1 => by
        rw [ofL'_size]
        have h2 := sumLen_take l k
        have h3 := HS.out
        have h4 := Nat.mul_le_mul_right 2147483648 h1
        have h5 := jn_len (l.take k)
        omega
      have hnew : jn (l.take (k + 1)) = if k = 0 then s.data.toList else jn (l.take k) ++ [44, 32] ++ s.data.toList := by
        rw [etk, jn_snoc]
        by_cases h0 : k = 0
        · subst h0; simp
        · have : l.take k ≠ [] := fun e => h0 (by have := congrArg List.length e; simp at this; rcases this with h | h; exact h; rw [h] at hlt; simp at hlt)
          rw [if_neg this, if_neg h0]
      obtain ⟨t, et⟩ : ∃ t, t = ofL' (jn (l.take k)) := ⟨_, rfl⟩
      rw [← et] at hts ⊢
      have ES := Lib.hid es
      have ET := Lib.hid et
      have NW := Lib.hid hnew
      have hnext : 0 < s.size → Hid (∀ j, j < k + 1 → 0 < (l.getD j ByteArray.empty).size) := fun h0 j hj => by
        by_cases e : j = k
        · rw [e, ← ES.out]; exact h0
        · exact HP.out j (by omega)
      have NX := Lib.hid hnext
      clear hc es et hnew etk hnext
      by_cases he : s.toList.isEmpty = true
      · go_wp2
        go_ret2
        exact ⟨_, false, rfl, fun e => (by cases e), rfl⟩
      · have he' : s.toList.isEmpty = false := by simpa using he
        have hps := Lib.hid (pos_of_list he')
        clear he
        by_cases hn : 1000 < l.length
        · clear hts
          go_wp2
          go_ret2
          exact ⟨_, false, rfl, fun e => (by cases e), rfl⟩
        · have hts' := hts (by omega)
          clear hts
          by_cases h0 : k = 0
          · subst h0
            rw [Nat.add_zero] at hcell
            go_wp2
            go_round
            case rel =>
              refine ⟨1, by omega, by go_num, ?_, fun _ => by omega, NX.out hps.out⟩
              congr 1
              apply of_data
              rw [ByteArray.data_append, Array.toList_append, ET.out, ofL'_data, NW.out]
              simp [jn]
            case measure => simp [intOf]; omega
          · have K0 := Lib.hid h0
            have hk0 : 0 < k := by omega
            clear h0
            go_wp2
            go_round
            case rel =>
              refine ⟨k + 1, by omega, by go_num, ?_, fun _ => by omega, NX.out hps.out⟩
              congr 1
              apply of_data
              rw [ByteArray.data_append, Array.toList_append, ByteArray.data_append, Array.toList_append, ET.out, ofL'_data, NW.out, if_neg K0.out]
            case measure => simp [intOf]; omega
    · have hk' : l.take k = l := List.take_of_length_le (by omega)
      have hkl : Hid (k = l.length) := by show k = _; omega
      rw [hk']
      clear hc hk'
      go_wp2
      go_ret2
      refine ⟨_, true, rfl, fun _ => ⟨rfl, fun i hi => HP.out i (by have := hkl.out; omega), ?_⟩, rfl⟩
      by_cases h0 : 0 < k
      · exact HL.out h0
      · have := hkl.out; omega

/-- The size test's yes tells that there are no more than 2^31 - 1 texts, none longer than that. -/
def FitsSaid2 (l : List ByteArray) (w : World) (e : Ending) (w' : World) : Prop := ∃ b, e = .returned (.bool b) ∧ (b = true → l.length ≤ 2147483647 ∧ ∀ i, i < l.length → (l.getD i ByteArray.empty).size ≤ 2147483647) ∧ w = w'

set_option maxHeartbeats 400000 in
theorem fits_yes2 (v : Value) (l : List ByteArray) (w : World) (h : Strs w v l) (hz : ∀ s ∈ l, s.size ≤ 9223372036854775807) : Calls Try.prog 18 #[v] w (FitsSaid2 l w) := by
  by_cases hlen : 2147483647 < l.length
  · obtain ⟨a, c, rfl, hl, hc⟩ := h
    clear hc hz
    go_enter Try.func18, Try.ntmps18
    go_wp2
    go_ret
    exact ⟨false, rfl, fun e => (by cases e), rfl⟩
  · exact (fits_yes v l w h hz).mono fun e w' ⟨b, h1, h2, h3⟩ => ⟨b, h1, fun hb => ⟨by omega, h2 hb⟩, h3⟩

/-- The last byte, or 0. -/
def lastB (s : ByteArray) : UInt8 := (s.data.toList.getLast?).getD 0

set_option maxHeartbeats 1000000 in
theorem endingC (s : ByteArray) (w : World) (hs : s.size ≤ 9223372036854775807) : Calls Try.prog 33 #[.string s] w fun e w' => e = .returned (.int .u8 (lastB s).toNat) ∧ w = w' := by
  by_cases h0 : s.size = 0
  · have e : s = ByteArray.empty := by
      apply ByteArray.ext
      apply Array.ext'
      exact List.eq_nil_of_length_eq_zero (by rw [Array.length_toList]; exact h0)
    subst e
    have h2 : ByteArray.empty.toList.isEmpty = true := by unfold ByteArray.toList; rw [ByteArray.toList.loop]; rfl
    go_enter Try.func33, Try.ntmps33
    go_wp2
    go_ret
    exact ⟨rfl, rfl⟩
  · have h0' : 0 < s.size := by omega
    have hne : s.toList.isEmpty = false := not_empty h0'
    have hlast : lastB s = s[s.size - 1]'(by omega) := by
      unfold lastB
      rw [last_eq s (by omega)]
      rfl
    have HL := Lib.hid hlast
    clear h0 hlast
    go_enter Try.func33, Try.ntmps33
    go_wp2
    go_ret
    rw [HL.out]
    exact ⟨rfl, rfl⟩

/-- A name with arguments. -/
def closedL (s t : List UInt8) : List UInt8 := gap 60 s ++ [60] ++ gap 62 t ++ [62]

theorem lastB_eq (s : ByteArray) (b : UInt8) (hb : b ≠ 0) : lastB s = b ↔ s.data.toList.getLast? = some b := by
  unfold lastB
  cases h : s.data.toList.getLast? with
  | none => simp; exact fun e => hb e.symm
  | some x => simp

set_option maxHeartbeats 1000000 in
theorem closedC (s t : ByteArray) (w : World) (hs : s.size ≤ 140737488355328) (ht : t.size ≤ 140737488355328) : Calls Try.prog 25 #[.string s, .string t] w fun e w' => e = .returned (.string (ofL' (closedL s.data.toList t.data.toList))) ∧ w = w' := by
  have k1 := lastB_eq s 60 (by decide)
  have k2 := lastB_eq t 62 (by decide)
  have K1 := Lib.hid k1
  have K2 := Lib.hid k2
  clear k1 k2
  by_cases h1 : lastB s = 60
  · have e1 : (((lastB s).toNat : Int) == 60) = true := by rw [h1]; rfl
    by_cases h2 : lastB t = 62
    · have e2 : (((lastB t).toNat : Int) == 62) = true := by rw [h2]; rfl
      go_enter Try.func25, Try.ntmps25
      go_wp2_with (first | (go_at_call 33; refine (endingC _ _ ?_).mono ?_; omega; rintro e w' ⟨rfl, rfl⟩))
      go_ret
      refine ⟨?_, rfl⟩
      refine congrArg (fun z => Ending.returned (Value.string z)) (of_data ?_)
      simp [ByteArray.data_append, closedL, gap, K1.out.1 h1, K2.out.1 h2]
    · have e2 : (((lastB t).toNat : Int) == 62) = false := ne_of_u8 h2
      have h2' : ¬ t.data.toList.getLast? = some 62 := fun e => h2 (K2.out.2 e)
      have H2 := Lib.hid h2'
      clear h2'
      go_enter Try.func25, Try.ntmps25
      go_wp2_with (first | (go_at_call 33; refine (endingC _ _ ?_).mono ?_; omega; rintro e w' ⟨rfl, rfl⟩))
      go_ret
      refine ⟨?_, rfl⟩
      refine congrArg (fun z => Ending.returned (Value.string z)) (of_data ?_)
      simp only [closedL, gap, K1.out.1 h1, if_neg H2.out]
      simp [ByteArray.data_append]
  · have e1 : (((lastB s).toNat : Int) == 60) = false := ne_of_u8 h1
    have h1' : ¬ s.data.toList.getLast? = some 60 := fun e => h1 (K1.out.2 e)
    have H1 := Lib.hid h1'
    clear h1'
    by_cases h2 : lastB t = 62
    · have e2 : (((lastB t).toNat : Int) == 62) = true := by rw [h2]; rfl
      go_enter Try.func25, Try.ntmps25
      go_wp2_with (first | (go_at_call 33; refine (endingC _ _ ?_).mono ?_; omega; rintro e w' ⟨rfl, rfl⟩))
      go_ret
      refine ⟨?_, rfl⟩
      refine congrArg (fun z => Ending.returned (Value.string z)) (of_data ?_)
      simp only [closedL, gap, K2.out.1 h2, if_neg H1.out]
      simp [ByteArray.data_append]
    · have e2 : (((lastB t).toNat : Int) == 62) = false := ne_of_u8 h2
      have h2' : ¬ t.data.toList.getLast? = some 62 := fun e => h2 (K2.out.2 e)
      have H2 := Lib.hid h2'
      clear h2'
      go_enter Try.func25, Try.ntmps25
      go_wp2_with (first | (go_at_call 33; refine (endingC _ _ ?_).mono ?_; omega; rintro e w' ⟨rfl, rfl⟩))
      go_ret
      refine ⟨?_, rfl⟩
      refine congrArg (fun z => Ending.returned (Value.string z)) (of_data ?_)
      simp only [closedL, gap, if_neg H1.out, if_neg H2.out]
      simp [ByteArray.data_append]

set_option maxRecDepth 100000 in
set_option maxHeartbeats 1000000 in
theorem printTemplatesC (v vm : Value) (l m : List ByteArray) (s : ByteArray) (w : World) (h : Strs w v l) (hm : Strs w vm m) (hn : 0 < l.length) (hl1 : l.length ≤ 1000) (hm1 : m.length ≤ 1000) (hlp : ∀ x ∈ l, 0 < x.size) (hmp : ∀ x ∈ s :: m, 0 < x.size)
    (hsum : 2 * sumLen (s :: m) + 10 * sumLen l + 20 ≤ 140737487000000) :
    Calls Try.prog 26 #[v, .string s, vm] w (Says (ofL' (cl (s :: m) l)) w) := by
  have ha := Lib.hid (templatesC v vm l m s w h hm hn (by omega) (by omega))
  clear h hm
  go_enter Try.func26, Try.ntmps26
  go_wp2_with fail
  refine ha.out.mono ?_
  rintro e w1 ⟨b, nb, v', rfl, hb, hblk, hnb, hT, hbel⟩
  cases l with
  | nil => simp at hn
  | cons x l =>
    simp only [List.drop_succ_cons, List.drop_zero] at hT
    simp only [sumLen] at hsum
    have hc := cl_len (s :: m) l
    have g1 := gap_len 60 x.data.toList
    rw [size_list] at g1
    simp only [sumLen] at hc
    have hx := hlp x (by simp)
    simp only [List.length_cons] at hl1
    obtain ⟨vs, hE, hL⟩ := argsList w1 (s :: m) (by simp) (by simp; omega) hmp l (fun y hy => hlp y (by simp [hy])) b v' (wrL { st0 with inn := [], sc := 0 } (gap 60 x.data.toList ++ [60])) hT (fun y hy => by cases hy) (by show 0 + l.length ≤ _; omega) rfl rfl
      (by rw [wrL_len, List.length_append]; show 0 + _ + _ + _ + _ ≤ _; simp only [List.length_cons, List.length_nil, sumLen]; omega)
    have hd := tplDoes w1 w1.heap.size b nb (s :: m) l x v' vs st0 hb (World.block_lt_of_cell? w1 _ hnb) hblk hnb hx (cl_ne _ _ (by simp) hmp) hE rfl rfl (by show 0 + _ + _ + _ ≤ _; omega) (fun y hy => by cases hy) (by show 0 ≤ _; omega) hL
    have K := Lib.hid (toStringC w1 _ _ b _ _ (isTemplate b) hd)
    have B1 := Lib.hid hbel
    clear ha hT hE hL hd hblk hnb hbel
    go_wp2_with fail
    refine K.out.mono ?_
    rintro e w2 ⟨rfl, hb2⟩
    have B2 := Lib.hid hb2
    clear hb2 K
    go_wp2_with fail
    go_ret
    exact ⟨rfl, B1.out.trans (B2.out.mono B1.out.size)⟩
end Go.Proofs.Ytabnnnnheipldaa
