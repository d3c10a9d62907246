/- laws.FnSmallMethod returns true, for every input; conditions: none. -/
import Derived.Test.YtabnnnnheipldaaGreatMeth
namespace Go.Proofs.YtabnnnnheipldaaGreat
open Go.ChangeShapes Go.WideShapes Go.ChangeAt Go.RowKit

/-- The text of a reference qualifier. -/
def rt (r : ByteArray) : List UInt8 := if r.size = 0 then [] else 32 :: r.data.toList
theorem ref_txt (st : St) (r : ByteArray) : (st.ref r).txt = st.txt ++ rt r := by
  unfold St.ref rt
  split
  · simp
  · simp [St.wb, St.wr]

/-- The head of a method's text. -/
def mh (s : ByteArray) (l : List ByteArray) : List UInt8 := s.data.toList ++ [40] ++ jn l ++ [41]

theorem fresh_two (p : Nat) (W : World) (t u b1 b2 b : Nat) (l : List Value) (hl : ∀ x, x ∈ l → x = .iface t (.pointer (some ⟨b1, 0, none⟩)) ∨ x = .iface u (.pointer (some ⟨b2, 0, none⟩))) (v : Nat) (h1 : t ≠ v) (h2 : u ≠ v) : Fresh p W l (.iface v (.pointer (some ⟨b, 0, none⟩))) :=
  fresh_type' p W l v b fun x hx => by
    rcases hl x hx with rfl | rfl
    · exact ⟨_, _, rfl, h1⟩
    · exact ⟨_, _, rfl, h2⟩

/-- A typed function, printed behind what is held. -/
theorem typedWhole (W : World) (tb bf nb : Nat) (s : ByteArray) (l : List ByteArray) (I : List Value) (hl : l.length ≤ 1000000) (h0 : W.cell? ⟨tb, 0, none⟩ = some (.iface 68 (.pointer (some ⟨nb, 0, none⟩)))) (h1 : W.cell? ⟨tb, 1, none⟩ = some (.iface 36 (.pointer (some ⟨bf, 0, none⟩)))) (htb : tb < W.heap.size)
    (hn : W.cell? ⟨nb, 0, none⟩ = some (.string s)) (hF : FunAt W bf .nilIface l) (hs : s.size + 2 * sumLen l + 200 ≤ 140737486000000) :
    Prints W.heap.size W (.iface 41 (.pointer (some ⟨tb, 0, none⟩))) { st0 with inn := I } { st0 with inn := I, txt := mh s l, last := 41 } := by
  obtain ⟨av, hblk, hN⟩ := hF
  have hbf : bf < W.heap.size := (Array.getElem?_eq_some_iff.1 hblk).1
  have hnb : nb < W.heap.size := World.block_lt_of_cell? W _ hn
  obtain ⟨cs, g1, g2, g3⟩ := elems_names hN hl
  have hjl := jn_len l
  have hprt : ∀ x, x ∈ ([] ++ [.iface 41 (.pointer (some ⟨tb, 0, none⟩))] ++ [.iface 36 (.pointer (some ⟨bf, 0, none⟩))] : List Value) → x = .iface 41 (.pointer (some ⟨tb, 0, none⟩)) ∨ x = .iface 36 (.pointer (some ⟨bf, 0, none⟩)) := by
    intro x hx; simpa using hx
  have hname : Prints W.heap.size W (.iface 68 (.pointer (some ⟨nb, 0, none⟩))) { st0 with prt := [] ++ [.iface 41 (.pointer (some ⟨tb, 0, none⟩))] ++ [.iface 36 (.pointer (some ⟨bf, 0, none⟩))] } _ :=
    printsName W W.heap.size nb s _ hn hnb (by show 0 + _ ≤ _; omega) (by simp) (fresh_two _ _ _ _ tb bf nb _ hprt _ (by decide) (by decide))
  have hnl := namesList W W.heap.size l true cs (({ st0 with prt := [] ++ [.iface 41 (.pointer (some ⟨tb, 0, none⟩))] ++ [.iface 36 (.pointer (some ⟨bf, 0, none⟩))] } : St).wr s).opn g1 g2 (fun b => fresh_two _ _ _ _ tb bf b _ hprt _ (by decide) (by decide)) (by show ([] ++ [_] ++ [_] : List Value).length ≤ _; simp) rfl
    (by show (([] ++ s.data.toList) ++ [40] : List UInt8).length + _ + _ ≤ _; simp only [List.length_append, List.length_cons, List.length_nil, size_list]; omega)
  have hd := printArgsN W W.heap.size bf tb 1 av _ { st0 with inn := [.iface 41 (.pointer (some ⟨tb, 0, none⟩))], prt := [] ++ [.iface 41 (.pointer (some ⟨tb, 0, none⟩))] ++ [.iface 36 (.pointer (some ⟨bf, 0, none⟩))] }
    (({ st0 with prt := [] ++ [.iface 41 (.pointer (some ⟨tb, 0, none⟩))] ++ [.iface 36 (.pointer (some ⟨bf, 0, none⟩))] } : St).wr s) _
    ⟨hbf, by rw [cell_of_row W bf 2 _ _ (0, 0) hblk]; rfl, rfl, rfl, ⟨by show (1 : Int) ≤ 1; decide, by show (1 : Int) ≤ 100000; decide⟩, ⟨by show (1 : Int) ≤ 1 + 1; decide, by show (1 : Int) + 1 ≤ 100000; decide⟩, by show ([] ++ s.data.toList : List UInt8).length + 10 ≤ _; simp only [List.length_append, List.length_nil, size_list]; omega,
      by rw [wrL_len]; show (([] ++ s.data.toList) ++ [40] : List UInt8).length + _ + 10 ≤ _; simp only [List.length_append, List.length_cons, List.length_nil, size_list, if_true]; omega⟩
    (by rw [cell_of_row W bf 1 _ _ (0, 0) hblk]; rfl) rfl (fun q => ⟨_, by show 0 < 1; decide, oneInnerC W W.heap.size q _ _ tb _ _ _ [] (innTyped tb) (mwqTyped tb) rfl (by show 1 ≤ _; decide) (typedInner W W.heap.size tb nb s _ h0 htb hname), rfl, rfl⟩) g3 hnl
  have hfun := prints_of W W.heap.size _ _ bf _ { st0 with inn := [.iface 41 (.pointer (some ⟨tb, 0, none⟩))], prt := [] ++ [.iface 41 (.pointer (some ⟨tb, 0, none⟩))] } { st0 with txt := mh s l, last := 41, prt := [] ++ [.iface 41 (.pointer (some ⟨tb, 0, none⟩))] } (isFunction bf)
    (fresh_type' _ W _ _ bf (fun x hx => ⟨_, _, List.mem_singleton.1 hx, by decide⟩)) (by simp) (funNil W W.heap.size bf _ _ (by rw [cell_of_row W bf 0 _ _ (0, 0) hblk]; rfl) (by rw [cell_of_row W bf 2 _ _ (0, 0) hblk]; rfl) hbf (by
      have e : (wrL (({ st0 with prt := [] ++ [.iface 41 (.pointer (some ⟨tb, 0, none⟩))] ++ [.iface 36 (.pointer (some ⟨bf, 0, none⟩))] } : St).wr s).opn (if true = true then jn l else jt l)).cls = { st0 with txt := mh s l, last := 41, prt := [] ++ [.iface 41 (.pointer (some ⟨tb, 0, none⟩))] ++ [.iface 36 (.pointer (some ⟨bf, 0, none⟩))] } := by
        simp [wrL, St.cls, St.opn, St.wr, st0, mh]
      rw [e] at hd
      exact hd))
  exact prints_of W W.heap.size _ _ tb _ { st0 with inn := I } { st0 with inn := I, txt := mh s l, last := 41 } (isTyped tb) (fresh_nil _ _ _) (by show 0 ≤ _; omega) (typedDoes W W.heap.size tb _ { st0 with inn := I, prt := [] ++ [.iface 41 (.pointer (some ⟨tb, 0, none⟩))] } _ h1 htb hfun rfl)

set_option maxRecDepth 100000 in
set_option maxHeartbeats 4000000 in
theorem printMethodC (s r : ByteArray) (vp vl : Value) (l q : List ByteArray) (w : World) (hp : Strs w vp l) (hq : Strs w vl q) (hl : l.length ≤ 1000) (hql : q.length ≤ 1000) (hq0 : 0 < q.length) (hr : r.size ≤ 100) (hs : s.size + 2 * sumLen l + sumLen q + 500 ≤ 140737480000000) :
    Calls Tryz.prog 11 #[.string s, vp, vl, .string r] w (Says (ofL' (mh s l ++ wl q ++ rt r)) w) := by
  have hft := Lib.hid (functionTypeC .nilIface vp l (w.alloc (.cells #[.string s] 69)) (.inl rfl) (hp.below' ((Below.refl _ _).alloc (Nat.le_refl _) _)) (by omega))
  have HQ := Lib.hid hq
  clear hp hq
  go_enter Tryz.func11, Tryz.ntmps11
  go_wp2_with (first | (go_at_call 15; refine (nameC _ _).mono ?_; rintro e w' ⟨rfl, rfl⟩))
  refine hft.out.mono ?_
  rintro e w1 ⟨bf, rfl, h1, h2, hF, hb1⟩
  have hsz1 := hb1.size
  simp only [World.size_alloc] at h1 hsz1
  have B1 : Below w.heap.size w w1 := ((Below.refl _ _).alloc (Nat.le_refl _) _).trans (hb1.mono (by simp))
  have cn : w1.cell? ⟨w.heap.size, 0, none⟩ = some (.string s) := (hb1.cell (p := ⟨w.heap.size, 0, none⟩) (by simp)).trans ((World.cell?_alloc_at (w := w) _ _ _ _ rfl).trans (by simp))
  have HB := Lib.hid B1
  have HF := Lib.hid hF
  have CN := Lib.hid cn
  have hw := Lib.hid (wordsN vl q (w1.alloc (.cells #[.iface 68 (.pointer (some ⟨w.heap.size, 0, none⟩)), .iface 36 (.pointer (some ⟨bf, 0, none⟩))] 43)) (w1.heap.size + 1) (by simp) (HQ.out.below' (B1.alloc B1.size _)) (by omega))
  clear hb1 hF B1 cn hft
  go_wp2_with fail
  refine hw.out.mono ?_
  rintro e w2 ⟨rfl, hW, hb2⟩
  have hsz2 := hb2.size
  simp only [World.size_alloc] at hsz2
  have hlt2 : w1.heap.size + 1 < w2.heap.size := by obtain ⟨_, _, _, _, hlt⟩ := hW; exact hlt
  have hquals := hW.quals ((Below.refl _ _).alloc (Nat.le_refl _) (.cells #[.iface 41 (.pointer (some ⟨w1.heap.size, 0, none⟩)), .iface 70 (.pointer (some ⟨w1.heap.size + 1, 0, none⟩)), .string r] 47)) (by omega)
  have hb12 : Below w1.heap.size w1 w2 := ((Below.refl _ _).alloc (Nat.le_refl _) _).trans (hb2.mono (Nat.le_succ _))
  have hb13 := hb12.alloc (by omega) (.cells #[.iface 41 (.pointer (some ⟨w1.heap.size, 0, none⟩)), .iface 70 (.pointer (some ⟨w1.heap.size + 1, 0, none⟩)), .string r] 47)
  have htb : (w2.alloc (.cells #[.iface 41 (.pointer (some ⟨w1.heap.size, 0, none⟩)), .iface 70 (.pointer (some ⟨w1.heap.size + 1, 0, none⟩)), .string r] 47)).heap[w1.heap.size]? = some (.cells #[.iface 68 (.pointer (some ⟨w.heap.size, 0, none⟩)), .iface 36 (.pointer (some ⟨bf, 0, none⟩))] 43 (0, 0)) := by
    rw [Below.heap_alloc _ _ _ (by omega), hb2.block _ (by simp)]
    exact heap_alloc_new w1 _
  have hmb := heap_alloc_new w2 (.cells #[.iface 41 (.pointer (some ⟨w1.heap.size, 0, none⟩)), .iface 70 (.pointer (some ⟨w1.heap.size + 1, 0, none⟩)), .string r] 47)
  have hszW := World.size_alloc w2 (.cells #[.iface 41 (.pointer (some ⟨w1.heap.size, 0, none⟩)), .iface 70 (.pointer (some ⟨w1.heap.size + 1, 0, none⟩)), .string r] 47)
  have cn3 := (hb13.cell (p := ⟨w.heap.size, 0, none⟩) (by exact (by omega : w.heap.size < w1.heap.size))).trans CN.out
  have hF3 := HF.out.below hb13
  have hne : q ≠ [] := by intro e; rw [e] at hq0; simp at hq0
  have hjl := jn_len l
  have hmhl : (mh s l).length ≤ s.size + 2 * sumLen l + 2 := by simp only [mh, List.length_append, List.length_cons, List.length_nil, size_list]; omega
  have hty := typedWhole _ w1.heap.size bf w.heap.size s l [.iface 44 (.pointer (some ⟨w2.heap.size, 0, none⟩))] (by omega) (by rw [cell_of_row _ w1.heap.size 0 _ _ (0, 0) htb]; rfl) (by rw [cell_of_row _ w1.heap.size 1 _ _ (0, 0) htb]; rfl) (by omega) cn3 hF3 (by omega)
  have hpq := printsQuals _ _ (w1.heap.size + 1) q (({ st0 with inn := [.iface 44 (.pointer (some ⟨w2.heap.size, 0, none⟩))], txt := mh s l, last := 41 } : St).wb 32) hquals (by rw [wb_len]; show (mh s l).length + 1 + _ ≤ _; omega) (by show 0 ≤ _; omega) (fresh_nil _ _ _)
  have hq1 := qs_prt (({ st0 with inn := [.iface 44 (.pointer (some ⟨w2.heap.size, 0, none⟩))], txt := mh s l, last := 41 } : St).wb 32) q
  have hq2 := qs_len (({ st0 with inn := [.iface 44 (.pointer (some ⟨w2.heap.size, 0, none⟩))], txt := mh s l, last := 41 } : St).wb 32) q
  have hq3 := qs_txt ({ st0 with inn := [.iface 44 (.pointer (some ⟨w2.heap.size, 0, none⟩))], txt := mh s l, last := 41 } : St) q hne
  rw [wb_len] at hq2
  have hd := mwqDoes _ _ w2.heap.size _ w1.heap.size _ (w1.heap.size + 1) r st0 _ _ (by rw [cell_of_row _ w2.heap.size 0 _ _ (0, 0) hmb]; rfl) (by rw [cell_of_row _ w2.heap.size 1 _ _ (0, 0) hmb]; rfl) (by rw [cell_of_row _ w2.heap.size 2 _ _ (0, 0) hmb]; rfl) (by omega) hr (by show 0 ≤ _; omega) hty rfl hpq hq1.2.1 (by show (mh s l).length + 1 ≤ _; omega) (by have hq2' : _ ≤ (mh s l).length + 1 + sumLen q := hq2; omega)
  have K := Lib.hid (toStringC _ _ _ w2.heap.size _ _ (isMethod w2.heap.size) hd)
  have T := Lib.hid hq3
  have B12 := Lib.hid hb12
  clear hd hpq hty hquals hb12 hb13 htb hmb hszW cn3 hF3 hne hW hb2 hw hq1 hq2 hq3
  go_wp2_with fail
  refine K.out.mono ?_
  rintro e w3 ⟨rfl, hb3⟩
  have B3 := Lib.hid hb3
  clear hb3 K
  go_wp2_with fail
  go_ret
  refine ⟨?_, (HB.out.trans (B12.out.mono (by omega))).trans (((Below.refl w.heap.size w2).alloc (by omega) _).trans (B3.out.mono (by simp; omega)))⟩
  refine congrArg (fun z => Ending.returned (Value.string z)) (of_data ?_)
  show (St.ref _ r).txt.toArray.toList = _
  rw [ref_txt, T.out]

def ThreeSaid (w : World) (e : Ending) (w' : World) : Prop := ∃ k : Int, e = .returned (.int .i64 k) ∧ 0 ≤ k ∧ k < 3 ∧ w = w'

theorem and30 (n : Int) : bits .and .i64 n 1073741823 = n % 1073741824 := by
  have h30 : (BitVec.ofInt 64 1073741823).toNat = 2 ^ 30 - 1 := by decide
  have key : (BitVec.ofInt 64 n &&& BitVec.ofInt 64 1073741823).toNat = (n % ((2 ^ 64 : Nat) : Int)).toNat
      % 2 ^ 30 := by
    rw [BitVec.toNat_and, BitVec.toNat_ofInt, h30, Nat.and_two_pow_sub_one_eq_mod]
  show IntKind.i64.wrap ((BitVec.ofInt 64 n &&& BitVec.ofInt 64 1073741823).toNat : Nat) = n % 1073741824
  rw [key, IntKind.wrap_i64]
  omega

theorem cxxOfC (n : Int) (w : World) : Calls Tryz.prog 10 #[.int .i64 n, .int .i64 3] w (ThreeSaid w) := by
  go_enter Tryz.func10, Tryz.ntmps10
  go_wp2
  go_ret
  have h0 : 0 ≤ n % 1073741824 := Int.emod_nonneg _ (by decide)
  refine ⟨_, rfl, ?_, ?_, rfl⟩
  · rw [and30, Int.tmod_eq_emod_of_nonneg h0]
    omega
  · rw [and30, Int.tmod_eq_emod_of_nonneg h0]
    omega

theorem law_text (s r wd : ByteArray) (l q : List ByteArray) (h : wd.data.toList = wl q ++ rt r) : s ++ (⟨#[40]⟩ : ByteArray) ++ ofL' (jn l) ++ (⟨#[41]⟩ : ByteArray) ++ wd = ofL' (mh s l ++ wl q ++ rt r) := by
  apply of_data
  simp [ByteArray.data_append, ofL', mh, h]

theorem rt_nil : rt ⟨#[]⟩ = [] := rfl
def kAmp : ByteArray := ⟨#[38]⟩
def kAmp2 : ByteArray := ⟨#[38, 38]⟩

set_option maxRecDepth 100000 in
set_option maxHeartbeats 4000000 in
theorem law_method (s : ByteArray) (hs : s.size ≤ maxLen) (a1 : Option Addr) (c1 : Nat) (l : List ByteArray) {w : World} (h : Strs w (.slice a1 l.length c1) l) (_hnil1 : a1 = none → c1 = 0) (hc1 : l.length ≤ c1) (hcc1 : c1 ≤ 9223372036854775807) (hz1 : ∀ s ∈ l, s.size ≤ 9223372036854775807)
    (a2 : Option Addr) (c2 : Nat) (q : List ByteArray) (hm : Strs w (.slice a2 q.length c2) q) (_hnil2 : a2 = none → c2 = 0) (hc2 : q.length ≤ c2) (hcc2 : c2 ≤ 9223372036854775807) (hz2 : ∀ s ∈ q, s.size ≤ 9223372036854775807) (n : Int) (_hn : (Lit.int .i64 n).wf = true) :
    Calls Tryz.prog 4 #[.string s, .slice a1 l.length c1, .slice a2 q.length c2, .int .i64 n] w (True1 w) := by
  unfold maxLen at hs
  have hl : l.length ≤ 9223372036854775807 := by omega
  have hql : q.length ≤ 9223372036854775807 := by omega
  have Z1 := Lib.hid hz1
  have Z2 := Lib.hid hz2
  have HL := Lib.hid h
  have HQ := Lib.hid hm
  clear hz1 hz2 h hm
  by_cases h1 : 2147483647 < s.size
  · go_enter Tryz.func4, Tryz.ntmps4
    go_wp2_with fail
    go_ret
    exact ⟨rfl, Below.refl _ _⟩
  have hle : s.size ≤ 2147483647 := by omega
  clear h1
  go_enter Tryz.func4, Tryz.ntmps4
  go_wp2_with fail
  refine (fits_yes2 _ l _ HL.out Z1.out).mono ?_
  rintro e w' ⟨b, rfl, f1, rfl⟩
  cases b with
  | false =>
    go_wp2_with fail
    go_ret
    exact ⟨rfl, Below.refl _ _⟩
  | true =>
  have F1 := Lib.hid (f1 rfl)
  clear f1
  go_wp2_with fail
  refine (fits_yes2 _ q _ HQ.out Z2.out).mono ?_
  rintro e w' ⟨b, rfl, f2, rfl⟩
  cases b with
  | false =>
    go_wp2_with fail
    go_ret
    exact ⟨rfl, Below.refl _ _⟩
  | true =>
  have F2 := Lib.hid (f2 rfl)
  clear f2
  go_wp2_with fail
  refine (smListC _ l _ HL.out F1.out.2).mono ?_
  rintro e w' ⟨t, b1, rfl, hb1, rfl⟩
  have G1 := Lib.hid hb1
  clear hb1
  go_wp2_with fail
  refine (smWordsC _ q _ HQ.out F2.out.2).mono ?_
  rintro e w' ⟨wd, b2, rfl, hb2, rfl⟩
  have G2 := Lib.hid hb2
  clear hb2
  cases b1 with
  | false =>
    go_wp2_with fail
    go_ret
    exact ⟨rfl, Below.refl _ _⟩
  | true =>
  cases b2 with
  | false =>
    go_wp2_with fail
    go_ret
    exact ⟨rfl, Below.refl _ _⟩
  | true =>
  obtain ⟨rfl, gp, gl⟩ := G1.out rfl
  obtain ⟨rfl, gq0, gq⟩ := G2.out rfl
  by_cases he : s.toList.isEmpty = true
  · clear gp gl gq0 gq
    go_wp2_with fail
    go_ret
    exact ⟨rfl, Below.refl _ _⟩
  have he' : s.toList.isEmpty = false := by simpa using he
  have hsl : sumLen l ≤ 2147483648000 := by
    have h1 := sumLen_leT l 2147483647 F1.out.2
    have h2 := Nat.mul_le_mul_right 2147483648 gl
    omega
  have hsq : sumLen q ≤ 2147483648000 := by
    have h1 := sumLen_leT q 2147483647 F2.out.2
    have h2 := Nat.mul_le_mul_right 2147483648 gq
    omega
  have k1 : (ofL' (jn l)).size ≤ 4294967296000 := by rw [ofL'_size]; have := jn_len l; omega
  have k2 : (wtext q).size ≤ 2147483648000 := by rw [wtext_size]; exact hsq
  have P := fun (r : ByteArray) (hr : r.size ≤ 100) => printMethodC s r _ _ l q w HL.out HQ.out gl gq gq0 hr (by omega)
  have P0 := Lib.hid (P ⟨#[]⟩ (by decide))
  have P1 := Lib.hid (P kAmp (by decide))
  have P2 := Lib.hid (P kAmp2 (by decide))
  have T0 := law_text s ⟨#[]⟩ (wtext q) l q (by rw [wtext_data, rt_nil, List.append_nil])
  have T1 := law_text s kAmp (wtext q ++ (⟨#[32, 38]⟩ : ByteArray)) l q (by rw [ByteArray.data_append, Array.toList_append, wtext_data]; rfl)
  have T2 := law_text s kAmp2 (wtext q ++ (⟨#[32, 38, 38]⟩ : ByteArray)) l q (by rw [ByteArray.data_append, Array.toList_append, wtext_data]; rfl)
  clear he gp gl gq0 gq hsl hsq P
  go_wp2_with fail
  refine (cxxOfC n _).mono ?_
  rintro e w' ⟨k, rfl, h0, h3, rfl⟩
  have hk : k = 0 ∨ k = 1 ∨ k = 2 := by omega
  clear h0 h3
  rcases hk with rfl | rfl | rfl
  · clear T1 T2
    go_wp2_with fail
    refine P0.out.mono ?_
    rintro e w2 ⟨rfl, hb2⟩
    have B2 := Lib.hid hb2
    clear hb2
    go_wp2_with fail
    go_ret
    exact ⟨rfl, B2.out⟩
  · clear T0 T2
    go_wp2_with fail
    refine P1.out.mono ?_
    rintro e w2 ⟨rfl, hb2⟩
    have B2 := Lib.hid hb2
    clear hb2
    go_wp2_with fail
    go_ret
    exact ⟨rfl, B2.out⟩
  · clear T0 T1
    go_wp2_with fail
    refine P2.out.mono ?_
    rintro e w2 ⟨rfl, hb2⟩
    have B2 := Lib.hid hb2
    clear hb2
    go_wp2_with fail
    go_ret
    exact ⟨rfl, B2.out⟩
end Go.Proofs.YtabnnnnheipldaaGreat
