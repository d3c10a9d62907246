/- laws.FnSmallQualifiers returns true, for every input; conditions: none. -/
import Derived.Test.YtabnnnnheipldaaWords
namespace Go.Proofs.Ytabnnnnheipldaa
open Go.ChangeShapes Go.WideShapes Go.ChangeAt Go.RowKit

/-! ### The texts with a blank in front of each -/
def wl (l : List ByteArray) : List UInt8 := l.flatMap fun s => 32 :: s.data.toList
def wtext : List ByteArray → ByteArray := fun l => l.foldl (fun a s => a ++ ((⟨#[32]⟩ : ByteArray) ++ s)) ⟨#[]⟩

theorem wtext_snoc (l : List ByteArray) (s : ByteArray) : wtext (l ++ [s]) = wtext l ++ ((⟨#[32]⟩ : ByteArray) ++ s) := by simp [wtext, List.foldl_append]
theorem fold_data (l : List ByteArray) : ∀ a : ByteArray, (l.foldl (fun a s => a ++ ((⟨#[32]⟩ : ByteArray) ++ s)) a).data.toList = a.data.toList ++ wl l := by
  induction l with
  | nil => intro a; simp [wl]
  | cons s l ih => intro a; simp [ih, wl, ByteArray.data_append]
theorem wtext_data (l : List ByteArray) : (wtext l).data.toList = wl l := by simp [wtext, fold_data]
theorem wl_len (l : List ByteArray) : (wl l).length = sumLen l := by
  induction l with
  | nil => rfl
  | cons s l ih =>
    have e : s.data.toList.length = s.size := by rw [Array.length_toList]; rfl
    have ih' : (List.flatMap (fun s : ByteArray => 32 :: s.data.toList) l).length = sumLen l := ih
    simp only [wl, List.flatMap_cons, List.length_append, List.length_cons, sumLen, e, ih']
theorem wtext_size (l : List ByteArray) : (wtext l).size = sumLen l := by
  rw [← wl_len, ← wtext_data, Array.length_toList]
  rfl
theorem fold_txt (l : List ByteArray) : ∀ st : St, (l.foldl (fun a x => (a.wb 32).wr x) st).txt = st.txt ++ wl l := by
  induction l with
  | nil => intro st; simp [wl]
  | cons s l ih => intro st; rw [List.foldl_cons, ih]; simp [wl, St.wr, St.wb]
theorem qs_txt (st : St) (l : List ByteArray) (hl : l ≠ []) : ((st.wb 32).qs l).txt = st.txt ++ wl l := by
  cases l with
  | nil => exact absurd rfl hl
  | cons s l => rw [St.qs, fold_txt]; simp [wl, St.wr, St.wb]

theorem sumLen_le (l : List ByteArray) (B : Nat) (h : ∀ i, i < l.length → (l.getD i ByteArray.empty).size ≤ B) : sumLen l ≤ l.length * (B + 1) := by
  induction l with
  | nil => simp [sumLen]
  | cons s l ih =>
    have h0 : s.size ≤ B := by simpa using h 0 (by simp)
    have h1 := ih fun i hi => by simpa using h (i + 1) (by simpa using hi)
    simp only [sumLen, List.length_cons, Nat.add_mul, Nat.one_mul]
    omega

def WordsSaid (l : List ByteArray) (w : World) (e : Ending) (w' : World) : Prop :=
  ∃ t b, e = .returned (.tuple #[.string t, .bool b]) ∧ (b = true → t = wtext l ∧ 0 < l.length ∧ l.length ≤ 1000) ∧ w = w'

set_option maxHeartbeats 1000000 in
theorem smWordsC (v : Value) (l : List ByteArray) (w : World) (h : Strs w v l) (hz : ∀ i, i < l.length → (l.getD i ByteArray.empty).size ≤ 2147483647) : Calls Try.prog 19 #[v] w (WordsSaid l w) := by
  obtain ⟨a, c, rfl, hl, hc⟩ := h
  have hsum := sumLen_le l 2147483647 hz
  have HZ := Lib.hid hz
  have HS := Lib.hid hsum
  clear hz hsum
  go_enter Try.func19, Try.ntmps19
  go_wp2
  go_loop [4, 9] (fun t i => ∃ k : Nat, k ≤ l.length ∧ i = .int .i64 k ∧ t = .string (wtext (l.take k)) ∧ (0 < k → l.length ≤ 1000)) (fun _ i => l.length - (intOf i).toNat)
  case atStart => exact ⟨0, Nat.zero_le _, rfl, rfl, fun e => by omega⟩
  case round =>
    obtain ⟨k, hk, rfl, rfl, hle⟩ := hrel
    have HL := Lib.hid hle
    clear hle
    by_cases hlt : k < l.length
    · obtain ⟨b, o, rfl, hcell⟩ := hc k hlt
      have hs := HZ.out k hlt
      obtain ⟨s, es⟩ : ∃ s, s = l.getD k ByteArray.empty := ⟨_, rfl⟩
      rw [← es] at hcell hs
      have hts : l.length ≤ 1000 → (wtext (l.take k)).size ≤ 4294967296000 := fun h1 => by
        rw [wtext_size]
        have h2 := sumLen_take l k
        have h3 := HS.out
        have h4 := Nat.mul_le_mul_right 2147483648 h1
        omega
      obtain ⟨t, et⟩ : ∃ t, t = wtext (l.take k) := ⟨_, rfl⟩
      rw [← et] at hts ⊢
      have ES := Lib.hid es
      have ET := Lib.hid et
      clear hc es et
      by_cases he : s.toList.isEmpty = true
      · go_wp2
        go_ret2
        exact ⟨_, false, rfl, fun e => (by cases e), rfl⟩
      · have he' : s.toList.isEmpty = false := by simpa using he
        clear he
        by_cases hn : 1000 < l.length
        · clear hts
          go_wp2
          go_ret2
          exact ⟨_, false, rfl, fun e => (by cases e), rfl⟩
        · have hts' := hts (by omega)
          clear hts
          go_wp2
          go_round
          case rel => exact ⟨k + 1, by omega, by go_num, by rw [take_snoc' hlt, wtext_snoc, ← ES.out, ← ET.out], fun _ => by omega⟩
          case measure => simp [intOf]; omega
    · have hk' : l.take k = l := List.take_of_length_le (by omega)
      have hkl : Hid (k = l.length) := by show k = _; omega
      rw [hk']
      clear hc hk'
      by_cases h0 : 0 < l.length
      · go_wp2
        go_ret2
        exact ⟨_, true, rfl, fun _ => ⟨rfl, h0, HL.out (by have := hkl.out; omega)⟩, rfl⟩
      · go_wp2
        go_ret2
        exact ⟨_, false, rfl, fun e => (by cases e), rfl⟩

/-! ### The call -/
theorem printsBuiltin (W : World) (p b : Nat) (s : ByteArray) (st : St) (hb : W.cell? ⟨b, 0, none⟩ = some (.string s)) (hbp : b < p) (hll : st.ll = false) (hl : st.txt.length + s.size ≤ 140737488355328) (hlen : st.prt.length ≤ 1000000)
    (hf : Fresh p W st.prt (.iface 82 (.pointer (some ⟨b, 0, none⟩)))) : Prints p W (.iface 82 (.pointer (some ⟨b, 0, none⟩))) st (st.wr s) :=
  prints_of W p _ _ b _ st (st.wr s) (isBuiltin b) hf hlen (builtinDoes W p b s { st with prt := st.prt ++ [_] } hb hbp hll hl)

theorem qs_eta (st : St) (x : List Value) (l : List ByteArray) : ({ st with prt := x } : St).qs l = { st.qs l with prt := x } := by
  cases l with
  | nil => rfl
  | cons s l =>
    have key : ∀ (l : List ByteArray) (a : St), l.foldl (fun a y => (a.wb 32).wr y) { a with prt := x } = { l.foldl (fun a y => (a.wb 32).wr y) a with prt := x } := by
      intro l
      induction l with
      | nil => intro a; rfl
      | cons s l ih => intro a; exact ih ((a.wb 32).wr s)
    exact key l (st.wr s)

theorem printsQuals (W : World) (p b : Nat) (l : List ByteArray) (st : St) (hq : QualsAt W p b l) (hl : st.txt.length + sumLen l ≤ 140737488300000) (hlen : st.prt.length ≤ 1000000)
    (hf : Fresh p W st.prt (.iface 84 (.pointer (some ⟨b, 0, none⟩)))) : Prints p W (.iface 84 (.pointer (some ⟨b, 0, none⟩))) st (st.qs l) := by
  have h := prints_of W p _ _ b _ st (st.qs l) (isQualifiers b) hf hlen (by
    have := qualifiersDoes W p b l { st with prt := st.prt ++ [.iface 84 (.pointer (some ⟨b, 0, none⟩))] } hq hl
    rw [qs_eta] at this
    exact this)
  have e : ({ st.qs l with prt := st.prt } : St) = st.qs l := by
    have := (qs_prt st l).1
    rw [← this]
  rw [e] at h
  exact h

theorem WordsAt.quals {w W : World} {b : Nat} {l : List ByteArray} (h : WordsAt w b l) (hb : Below w.heap.size w W) (hl : l.length ≤ 1000000) : QualsAt W W.heap.size b l := by
  obtain ⟨v, cs, hbl, ⟨hlen, hown, hel⟩, hlt⟩ := h
  have hsz := hb.size
  have cellW : ∀ k o, k < w.heap.size → W.cell? ⟨k, o, none⟩ = w.cell? ⟨k, o, none⟩ := fun k o hk => hb.cell (p := ⟨k, o, none⟩) hk
  refine ⟨by omega, ?_⟩
  have c0 : W.cell? ⟨b, 0, none⟩ = some v := (cellW b 0 hlt).trans (cell_of_one hbl)
  rcases hown.2 with ⟨rfl, e0⟩ | ⟨g, cap, cur, rfl, hNg, hg, _, _, _, ht⟩
  · have hl0 : l.length = 0 := by omega
    exact ⟨none, 0, by rw [c0, hl0], hl, fun i hi => by omega⟩
  · have hgl := (Array.getElem?_eq_some_iff.1 hg).1
    refine ⟨some ⟨g, 0, none⟩, cap, by rw [c0, hlen], hl, fun i hi => ?_⟩
    have hi' : i < cs.length := by omega
    obtain ⟨⟨h1, h2, h3⟩, h4⟩ := hel i cs[i] (List.getElem?_eq_getElem hi')
    refine ⟨g, cs[i], rfl, by omega, by omega, ?_, ?_, ?_⟩
    · rw [cellW g i hgl, cell_of_row w g i cur _ (0, 0) hg]
      have h2 : (cur.toList.take (cs.length * 1))[i]? = (cs.map fun c => Value.iface 87 (.pointer (some ⟨c, 0, none⟩)))[i]? := by rw [ht]
      rw [List.getElem?_take_of_lt (by omega), List.getElem?_map, List.getElem?_eq_getElem hi'] at h2
      simpa using h2
    · rw [cellW _ 0 h3, cell_of_row w _ 0 _ _ (0, 0) h1]; rfl
    · rw [cellW _ 1 h3, cell_of_row w _ 1 _ _ (0, 0) h1]; rfl

/-- The text of a type with qualifiers. -/
theorem q_text (base : ByteArray) (l : List ByteArray) (hl : l ≠ []) (st : St) (h0 : st.txt = []) : (⟨(((st.wr base).wb 32).qs l).txt.toArray⟩ : ByteArray) = base ++ wtext l := by
  rw [qs_txt _ _ hl]
  apply ByteArray.ext
  rw [ByteArray.data_append]
  apply Array.ext'
  rw [Array.toList_append, wtext_data]
  simp [St.wr, h0]

theorem wordsN (v : Value) (l : List ByteArray) (w : World) (B : Nat) (hB : w.heap.size = B) (h : Strs w v l) (hm : l.length ≤ 1000000) :
    Calls Try.prog 31 #[v] w fun e w' => e = .returned (.iface 84 (.pointer (some ⟨B, 0, none⟩))) ∧ WordsAt w' B l ∧ Below B w w' := by
  subst hB
  exact wordsC v l w h hm

/-- The whole print of a builtin type with qualifiers, from the start. -/
theorem twqWhole (W : World) (p b bb bq : Nat) (base : ByteArray) (l : List ByteArray) (h0 : W.cell? ⟨b, 0, none⟩ = some (.iface 82 (.pointer (some ⟨bb, 0, none⟩)))) (h1 : W.cell? ⟨b, 1, none⟩ = some (.iface 84 (.pointer (some ⟨bq, 0, none⟩))))
    (hb : b < p) (hbb : bb < p) (cb : W.cell? ⟨bb, 0, none⟩ = some (.string base)) (hq : QualsAt W p bq l) (hs : base.size ≤ 2147483647) (hsum : sumLen l ≤ 2147483648000) :
    Does p W 88 (.pointer (some ⟨b, 0, none⟩)) st0 { ((({ st0 with inn := [] ++ [.iface 55 (.pointer (some ⟨b, 0, none⟩))] } : St).wr base).wb 32).qs l with inn := [] } := by
  have hl0 : (st0.wr base).txt.length = base.size := by rw [wr_len]; simp [st0]
  refine twqDoes W p b _ _ st0 (({ st0 with inn := [] ++ [.iface 55 (.pointer (some ⟨b, 0, none⟩))] } : St).wr base) _ [] [] (.iface 55 (.pointer (some ⟨b, 0, none⟩))) (.iface 55 (.pointer (some ⟨b, 0, none⟩))) h0 h1 hb
    (printsBuiltin W p bb base _ cb hbb rfl (by simp [st0]; omega) (by simp [st0]) (fresh_nil _ _ _)) rfl
    (printsQuals W p bq l _ hq (by rw [wb_len]; show (st0.wr base).txt.length + 1 + sumLen l ≤ _; omega) (by simp [St.wr, St.wb, st0]) (fresh_nil _ _ _)) ?_ (by simp [st0]) (by show (st0.wr base).txt.length + 1 ≤ _; omega)
  rw [(qs_prt _ l).2.1]
  rfl

set_option maxRecDepth 100000 in
set_option maxHeartbeats 1000000 in
theorem printQualC (base : ByteArray) (v : Value) (l : List ByteArray) (w : World) (h : Strs w v l) (hb : base.size ≤ 2147483647) (hz : ∀ i, i < l.length → (l.getD i ByteArray.empty).size ≤ 2147483647) (h0 : 0 < l.length) (h1 : l.length ≤ 1000) :
    Calls Try.prog 20 #[.string base, v] w (Says (base ++ wtext l) w) := by
  have hsum : sumLen l ≤ 2147483648000 := by
    have := sumLen_le l 2147483647 hz
    have := Nat.mul_le_mul_right 2147483648 h1
    omega
  have hw := wordsN v l (w.alloc (.cells #[.string base] 83)) (w.heap.size + 1) (by simp) (h.below' ((Below.refl _ _).alloc (Nat.le_refl _) _)) (by omega)
  have HW := Lib.hid hw
  clear hw h hz
  have hl1 : l.length ≤ 1000000 := by omega
  have hne : Hid (l ≠ []) := by intro e; rw [e] at h0; simp at h0
  go_enter Try.func20, Try.ntmps20
  go_wp2_with (first | (go_at_call 30; refine (builtinC _ _).mono ?_; rintro e w' ⟨rfl, rfl⟩))
  refine HW.out.mono ?_
  rintro e w1 ⟨rfl, hwords, hbel⟩
  have hsz : w.heap.size + 1 ≤ w1.heap.size := by simpa using hbel.size
  have hq := hwords.quals ((Below.refl _ _).alloc (Nat.le_refl _) (.cells #[.iface 82 (.pointer (some ⟨w.heap.size, 0, none⟩)), .iface 84 (.pointer (some ⟨w.heap.size + 1, 0, none⟩))] 58)) hl1
  have hq1 : w.heap.size + 1 < w1.heap.size := by obtain ⟨_, _, _, _, hlt⟩ := hwords; exact hlt
  have cb : (w1.alloc (.cells #[.iface 82 (.pointer (some ⟨w.heap.size, 0, none⟩)), .iface 84 (.pointer (some ⟨w.heap.size + 1, 0, none⟩))] 58)).cell? ⟨w.heap.size, 0, none⟩ = some (.string base) := by
    rw [World.cell?_alloc_past _ _ _ (by omega)]
    refine (hbel.cell (p := ⟨w.heap.size, 0, none⟩) (by exact Nat.lt_succ_self _)).trans ?_
    exact (World.cell?_alloc_at (w := w) _ _ _ _ rfl).trans (by simp)
  have key := toStringC _ _ _ w1.heap.size _ _ (isTwq w1.heap.size) (twqWhole _ _ w1.heap.size w.heap.size (w.heap.size + 1) base l ((World.cell?_alloc_at (w := w1) _ _ _ _ rfl).trans (by simp)) ((World.cell?_alloc_at (w := w1) _ _ _ _ rfl).trans (by simp)) (by simp) (by simp; omega) cb hq hb hsum)
  have K := Lib.hid key
  have B1 : Hid (Below w.heap.size w w1) := ((Below.refl _ _).alloc (Nat.le_refl _) _).trans (hbel.mono (by omega))
  clear key hq cb hwords hbel HW
  go_wp2_with fail
  refine K.out.mono ?_
  rintro e w2 ⟨rfl, hb2⟩
  have B2 := Lib.hid hb2
  have T := Lib.hid (q_text base l hne.out ({ st0 with inn := [] ++ [.iface 55 (.pointer (some ⟨w1.heap.size, 0, none⟩))] } : St) rfl)
  clear hb2 K
  go_wp2_with fail
  go_ret
  refine ⟨?_, (B1.out.alloc (by omega) _).trans (B2.out.mono (by simp; omega))⟩
  rw [← T.out]
  rfl

set_option maxRecDepth 100000 in
set_option maxHeartbeats 2000000 in
theorem law_qualifiers (f : ByteArray) (hf : f.size ≤ maxLen) (a : Option Addr) (c : Nat) (l : List ByteArray) {w : World} (h : Strs w (.slice a l.length c) l) (_hnil : a = none → c = 0) (hc : l.length ≤ c) (hc2 : c ≤ 9223372036854775807) (hz : ∀ s ∈ l, s.size ≤ 9223372036854775807) :
    Calls Try.prog 7 #[.string f, .slice a l.length c] w (True1 w) := by
  unfold maxLen at hf
  have hl : l.length ≤ 9223372036854775807 := by omega
  have hz' := Lib.hid hz
  clear hz
  by_cases h1 : 2147483647 < f.size
  · go_enter Try.func7, Try.ntmps7
    go_wp2_with fail
    go_ret
    exact ⟨rfl, Below.refl _ _⟩
  · have hle : f.size ≤ 2147483647 := by omega
    clear h1
    go_enter Try.func7, Try.ntmps7
    go_wp2_with fail
    refine (fits_yes _ l _ h hz'.out).mono ?_
    rintro e w' ⟨b, rfl, hsmall, rfl⟩
    cases b with
    | false =>
      go_wp2_with fail
      go_ret
      exact ⟨rfl, Below.refl _ _⟩
    | true =>
      have HS := Lib.hid (hsmall rfl)
      clear hsmall
      go_wp2_with fail
      refine (smWordsC _ l _ h HS.out).mono ?_
      rintro e w' ⟨t, b, rfl, hb, rfl⟩
      cases b with
      | false =>
        go_wp2_with fail
        go_ret
        exact ⟨rfl, Below.refl _ _⟩
      | true =>
        obtain ⟨rfl, g1, g2⟩ := hb rfl
        have hts : (wtext l).size ≤ 2147483648000 := by
          rw [wtext_size]
          have := sumLen_le l 2147483647 HS.out
          have := Nat.mul_le_mul_right 2147483648 g2
          omega
        clear hb
        go_wp2_with fail
        refine (printQualC f _ l _ h hle HS.out g1 g2).mono ?_
        rintro e w2 ⟨rfl, hb2⟩
        have B2 := Lib.hid hb2
        clear hb2 h
        go_wp2_with fail
        go_ret
        exact ⟨rfl, B2.out⟩
end Go.Proofs.Ytabnnnnheipldaa
