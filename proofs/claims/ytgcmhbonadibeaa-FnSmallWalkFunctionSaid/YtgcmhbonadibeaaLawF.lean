/- laws.FnSmallWalkFunction returns true, for every input; conditions: none. -/
import Derived.Test.YtgcmhbonadibeaaFunc
import Derived.Test.YtgcmhbonadibeaaLawS
namespace Go.Proofs.Ytgcmhbonadibeaa
open Go.ChangeShapes Go.WideShapes Go.ChangeAt Go.RowKit
attribute [local go_sem] nilF_n metF_n nilF_f metF_f nilF_b metF_b

set_option maxHeartbeats 800000 in
theorem typed_trav (w : World) (B Bo b bn bf bb : Nat) (s back : ByteArray) (l xs : List ByteArray) (vargs : Value) (h : Out w B Bo xs) (c0 : w.cell? ⟨b, 0, none⟩ = some (.iface 34 (.pointer (some ⟨bn, 0, none⟩)))) (c1 : w.cell? ⟨b, 1, none⟩ = some (.iface 41 (.pointer (some ⟨bf, 0, none⟩))))
    (hb : b < B) (hb2 : b ∉ [Bo]) (cn : w.cell? ⟨bn, 0, none⟩ = some (.string s))
    (f0 : w.cell? ⟨bf, 0, none⟩ = some (.iface 45 (.pointer (some ⟨bb, 0, none⟩)))) (f1 : w.cell? ⟨bf, 1, none⟩ = some vargs) (hf : bf < B) (hf2 : bf ∉ [Bo])
    (cb : w.cell? ⟨bb, 0, none⟩ = some (.string back)) (hbb : bb < B) (hbb2 : bb ∉ [Bo]) (hl : ListAt w B [Bo] vargs l) (hn : xs.length + l.length + 2 ≤ 1000000) :
    Calls Try.prog 15 #[.pointer (some ⟨b, 0, none⟩), cl1 Bo] w fun e w' => e = .returned (.tuple #[]) ∧ Out w' B Bo (xs ++ s :: back :: l) ∧ Ex B [Bo] w w' := by
  have key : ∀ w1, Out w1 B Bo (xs ++ [s]) → Ex B [Bo] w w1 → Calls Try.prog 39 #[.pointer (some ⟨bf, 0, none⟩), cl1 Bo] w1 fun e w' => e = .returned (.tuple #[]) ∧ Out w' B Bo ((xs ++ [s]) ++ back :: l) ∧ Ex B [Bo] w1 w' := fun w1 h1 x1 =>
    func_trav w1 B Bo bf bb back l (xs ++ [s]) vargs h1 ((x1.cell (p := ⟨bf, 0, none⟩) hf hf2).trans f0) ((x1.cell (p := ⟨bf, 1, none⟩) hf hf2).trans f1) ((x1.cell (p := ⟨bb, 0, none⟩) hbb hbb2).trans cb) (hl.keep x1) hf hf2 (by simp; omega)
  have K := Lib.hid key
  have hxs : xs.length ≤ 1000000 := by omega
  have HH := Lib.hid h
  clear key f0 f1 cb hl h
  unfold cl1 at K ⊢
  go_enter Try.func15, Try.ntmps15
  go_wp2_with (first | (go_at_call 16; refine (fclo_typed _ _ _).mono ?_; rintro e w' ⟨rfl, rfl⟩) | (go_at_call 34; refine (fname_trav w B Bo bn s xs HH.out cn hxs).mono ?_; rintro e w1 ⟨rfl, h1, x1⟩; have d1 := (x1.cell (p := ⟨b, 1, none⟩) hb hb2).trans c1; have O := Lib.hid h1; have X := Lib.hid x1; clear h1 x1) | (go_at_call 39; refine (K.out w1 O.out X.out).mono ?_; rintro e w2 ⟨rfl, h2, x2⟩; have O2 := Lib.hid h2; have X2 := Lib.hid x2; clear h2 x2))
  go_end0
  exact ⟨rfl, by simpa using O2.out, X.out.trans X2.out⟩

def FuncMade (ret : Value) (l : List ByteArray) (w : World) (e : Ending) (w' : World) : Prop :=
  ∃ v cs w1, NamesR w1 w.heap.size v cs l ∧ Below w.heap.size w w1 ∧ e = .returned (.pointer (some ⟨w1.heap.size, 0, none⟩)) ∧ w1.alloc (.cells #[ret, v, .bool false] 53) = w'

theorem func_made (t p : Nat) (v : Value) (l : List ByteArray) (w : World) (h : Strs w v l) (hm : l.length ≤ 1000000) :
    Calls Try.prog 13 #[.iface t (.pointer (some ⟨p, 0, none⟩)), v] w (FuncMade (.iface t (.pointer (some ⟨p, 0, none⟩))) l w) := by
  go_enter Try.func13, Try.ntmps13
  go_wp2_with (go_at_call 17; refine (namesC v l w h hm).mono ?_; rintro e w1 ⟨v', cs, rfl, hn, hb⟩; obtain ⟨va, vc, rfl⟩ := hn.form; have H1 := Lib.hid hn; have H2 := Lib.hid hb; clear hn hb)
  go_ret
  exact ⟨_, cs, w1, H1.out, H2.out, rfl, rfl⟩

theorem out_start {w w3 : World} (hb : Below (w.heap.size + 1) (w.alloc (.cells #[.slice none 0 0] 22)) w3) : Out w3 w3.heap.size w.heap.size [] := by
  have hsz : w.heap.size + 1 ≤ w3.heap.size := by simpa using hb.size
  refine ⟨.slice none 0 0, ?_, World.ownsRow_nil _ _ _ _, by omega, Nat.le_refl _⟩
  rw [hb.block _ (by omega)]
  exact heap_alloc_new w _

def Walked2 (back s : ByteArray) (l : List ByteArray) (w : World) (e : Ending) (w' : World) : Prop := ∃ v, e = .returned v ∧ Strs w' v (s :: back :: l) ∧ Below w.heap.size w w'

theorem walked2_of {w w3 w4 : World} {xs : List ByteArray} (hlen : xs.length ≤ 2000) {B : Nat} (hst : Out w4 B w.heap.size xs) (hb : Below w.heap.size w w3) (hx : Ex B [w.heap.size] w3 w4) (hB : w.heap.size ≤ B) :
    ∃ v, w4.cell? ⟨w.heap.size, 0, none⟩ = some v ∧ Strs w4 v xs ∧ Below w.heap.size w w4 := by
  obtain ⟨v, hv, hown, _, _⟩ := hst
  exact ⟨v, cell_of_one hv, strs_of_own hown (by omega), hb.trans (hx.below hB (by simp))⟩

/-- The typed function in memory: three blocks, the parameters' own, the function, the typed name. -/
theorem typed_made {w w1 : World} {s back : ByteArray} {l : List ByteArray} {v : Value} {cs : List Nat} (hn : NamesR w1 (w.heap.size + 1 + 1 + 1) v cs l)
    (hb : Below (w.heap.size + 1 + 1 + 1) (((w.alloc (.cells #[.slice none 0 0] 22)).alloc (.cells #[.string s] 37)).alloc (.cells #[.string back] 46)) w1)
    (W : World) (hW : W = (w1.alloc (.cells #[.iface 45 (.pointer (some ⟨w.heap.size + 1 + 1, 0, none⟩)), v, .bool false] 53)).alloc (.cells #[.iface 34 (.pointer (some ⟨w.heap.size + 1, 0, none⟩)), .iface 41 (.pointer (some ⟨w1.heap.size, 0, none⟩))] 44)) :
    Below w.heap.size w W ∧ W.heap.size = w1.heap.size + 1 + 1 ∧ w.heap.size + 1 + 1 + 1 ≤ w1.heap.size ∧ Out W W.heap.size w.heap.size [] ∧ W.cell? ⟨w1.heap.size + 1, 0, none⟩ = some (.iface 34 (.pointer (some ⟨w.heap.size + 1, 0, none⟩))) ∧
      W.cell? ⟨w1.heap.size + 1, 1, none⟩ = some (.iface 41 (.pointer (some ⟨w1.heap.size, 0, none⟩))) ∧ W.cell? ⟨w.heap.size + 1, 0, none⟩ = some (.string s) ∧
      W.cell? ⟨w1.heap.size, 0, none⟩ = some (.iface 45 (.pointer (some ⟨w.heap.size + 1 + 1, 0, none⟩))) ∧ W.cell? ⟨w1.heap.size, 1, none⟩ = some v ∧ W.cell? ⟨w.heap.size + 1 + 1, 0, none⟩ = some (.string back) ∧ ListAt W W.heap.size [w.heap.size] v l := by
  have hsz : w.heap.size + 1 + 1 + 1 ≤ w1.heap.size := by simpa using hb.size
  have b1 : Below w1.heap.size w1 W := by subst hW; exact two_below w1 _ _
  have b0 : Below (w.heap.size + 1 + 1 + 1) (((w.alloc (.cells #[.slice none 0 0] 22)).alloc (.cells #[.string s] 37)).alloc (.cells #[.string back] 46)) W := hb.trans (b1.mono hsz)
  have b00 : Below w.heap.size w W := (((Below.refl _ _).alloc (Nat.le_refl _) _).alloc (by simp) _ |>.alloc (by simp; omega) _).trans (b0.mono (by omega))
  have sz : W.heap.size = w1.heap.size + 1 + 1 := by subst hW; simp
  have old : ∀ k o, k < w.heap.size + 1 + 1 + 1 → W.cell? ⟨k, o, none⟩ = (((w.alloc (.cells #[.slice none 0 0] 22)).alloc (.cells #[.string s] 37)).alloc (.cells #[.string back] 46)).cell? ⟨k, o, none⟩ := fun k o hk => b0.cell (p := ⟨k, o, none⟩) hk
  refine ⟨b00, sz, hsz, ?_, ?_, ?_, ?_, ?_, ?_, ?_, ?_⟩
  · refine ⟨.slice none 0 0, ?_, World.ownsRow_nil _ _ _ _, by omega, Nat.le_refl _⟩
    rw [b0.block _ (by omega), Below.heap_alloc _ _ _ (by simp; omega), Below.heap_alloc _ _ _ (by simp)]
    exact heap_alloc_new w _
  · subst hW
    exact (World.cell?_alloc_at (w := w1.alloc _) _ _ _ _ (by simp)).trans (by simp)
  · subst hW
    exact (World.cell?_alloc_at (w := w1.alloc _) _ _ _ _ (by simp)).trans (by simp)
  · rw [old _ _ (by omega), World.cell?_alloc_past _ _ _ (by simp)]
    exact (World.cell?_alloc_at (w := w.alloc _) _ _ _ _ (by simp)).trans (by simp)
  · subst hW
    exact (World.cell?_alloc_past (w := w1.alloc _) _ _ _ (by simp)).trans ((World.cell?_alloc_at (w := w1) _ _ _ _ rfl).trans (by simp))
  · subst hW
    exact (World.cell?_alloc_past (w := w1.alloc _) _ _ _ (by simp)).trans ((World.cell?_alloc_at (w := w1) _ _ _ _ rfl).trans (by simp))
  · rw [old _ _ (by omega)]
    exact (World.cell?_alloc_at (w := (w.alloc _).alloc _) _ _ _ _ (by simp)).trans (by simp)
  · have h1 := hn.list (S := [w.heap.size]) (by simp; omega)
    have h2 := h1.keep (Ex.ofBelow b1)
    obtain ⟨a, c, e, h⟩ := h2
    refine ⟨a, c, e, fun i hi => ?_⟩
    obtain ⟨g, ci, e1, g1, g2, g3, g4, g5⟩ := h i hi
    exact ⟨g, ci, e1, by omega, g2, by omega, g4, g5⟩

set_option maxHeartbeats 1000000 in
theorem walkf_any (back s : ByteArray) (v : Value) (l : List ByteArray) (w : World) (h : Strs w v l) (hlen : l.length ≤ 1000) :
    Calls Try.prog 9 #[.string back, .string s, v] w (Walked2 back s l w) := by
  have h3 : Strs (((w.alloc (.cells #[.slice none 0 0] 22)).alloc (.cells #[.string s] 37)).alloc (.cells #[.string back] 46)) v l :=
    h.below (((Below.refl _ _).alloc (Nat.le_refl _) _).alloc (by simp) _ |>.alloc (by simp; omega) _)
  have hm := func_made 45 (w.heap.size + 1 + 1) v l _ h3 (by omega)
  have HM := Lib.hid hm
  clear hm h3 h
  go_enter Try.func9, Try.ntmps9
  go_wp2_with (first | (go_at_call 12; refine (nameC _ _).mono ?_; rintro e w' ⟨rfl, rfl⟩) | (go_at_call 14; refine (builtinC _ _).mono ?_; rintro e w' ⟨rfl, rfl⟩))
  refine HM.out.mono ?_
  rintro e w2 ⟨v', cs, w1, hn, hb, rfl, rfl⟩
  have hn' : Hid (NamesR w1 (w.heap.size + 1 + 1 + 1) v' cs l) := by simpa [Hid] using hn
  have hb' : Hid (Below (w.heap.size + 1 + 1 + 1) (((w.alloc (.cells #[.slice none 0 0] 22)).alloc (.cells #[.string s] 37)).alloc (.cells #[.string back] 46)) w1) := by simpa [Hid] using hb
  clear hn hb HM
  obtain ⟨T1, T2, T3, T4, T5, T6, T7, T8, T9, T10, T11⟩ := typed_made hn'.out hb'.out _ rfl
  have key := typed_trav _ _ _ _ _ _ _ _ _ _ _ _ T4 T5 T6 (by omega) (by simp; omega) T7 T8 T9 (by omega) (by simp; omega) T10 (by omega) (by simp; omega) T11 (by simp; omega)
  have K := Lib.hid key
  have KB := Lib.hid T1
  have hsz1 := T1.size
  unfold cl1 at K
  clear key T1 T2 T4 T5 T6 T7 T8 T9 T10 T11
  go_wp2_with fail
  refine K.out.mono ?_
  rintro e w4 ⟨rfl, ho, hx⟩
  obtain ⟨v4, hv, hs, hbel⟩ := walked2_of (by simp; omega) ho KB.out hx hsz1
  have S4 := Lib.hid hs
  have B4 := Lib.hid hbel
  clear hs hbel ho hx
  go_wp2_with fail
  go_ret
  exact ⟨v4, rfl, by simpa using S4.out, B4.out⟩

theorem alike_swap (back s : ByteArray) (l : List ByteArray) : Alike2 (s :: back :: l) ([back, s] ++ l) := by
  refine ⟨by simp, fun x _ => ?_⟩
  unfold cnt
  simp only [List.countP_cons, List.cons_append, List.nil_append]
  omega

theorem own_two (w : World) (x y : ByteArray) : Own (w.alloc (.cells #[.string x, .string y] 9)) w.heap.size (.slice (some ⟨w.heap.size, 0, none⟩) 2 2) [x, y] :=
  World.ownsRow_lit w #[.string x, .string y] 2 (Nat.le_refl _) (by unfold maxLen; omega) rfl

theorem src_of {w : World} {a : Option Addr} {c : Nat} {l : List ByteArray} (h : Strs w (.slice a l.length c) l) (hnil : a = none → c = 0) : Src w a l.length c l := by
  obtain ⟨_, _, e, _, hcell⟩ := h
  obtain ⟨rfl, _, rfl⟩ : a = _ ∧ l.length = l.length ∧ c = _ := by simpa using e
  refine ⟨rfl, ?_⟩
  cases a with
  | none =>
    refine .inl ⟨rfl, ?_, hnil rfl⟩
    cases l with
    | nil => rfl
    | cons s l =>
      obtain ⟨_, _, e, _⟩ := hcell 0 (by simp)
      cases e
  | some ad =>
    refine .inr ⟨ad, rfl, fun j u hu => ?_⟩
    have hj : j < l.length := by
      have := (List.getElem?_eq_some_iff.1 hu).1
      simpa using this
    obtain ⟨b, o, eb, hb⟩ := hcell j hj
    obtain rfl : ad = ⟨b, o, none⟩ := by simpa using eb
    have e2 : (⟨b, o, none⟩ : Addr).add j = ⟨b, o + j, none⟩ := by
      unfold Addr.add
      split <;> simp_all
    rw [e2, hb]
    rw [List.getElem?_map, List.getElem?_eq_getElem hj] at hu
    rw [List.getD_eq_getElem?_getD, List.getElem?_eq_getElem hj]
    simpa using hu

set_option maxRecDepth 100000 in
set_option maxHeartbeats 2000000 in
theorem law_function (f : ByteArray) (hf : f.size ≤ maxLen) (s : ByteArray) (hs : s.size ≤ maxLen) (a : Option Addr) (c : Nat) (l : List ByteArray) {w : World} (h : Strs w (.slice a l.length c) l) (hnil : a = none → c = 0) (hc : l.length ≤ c) (hc2 : c ≤ 9223372036854775807) (hz : ∀ s ∈ l, s.size ≤ 9223372036854775807) :
    Calls Try.prog 4 #[.string f, .string s, .slice a l.length c] w (True1 w) := by
  unfold maxLen at hf hs
  have hl : l.length ≤ 9223372036854775807 := by omega
  have hz' := Lib.hid hz
  have hnil' := Lib.hid hnil
  clear hz hnil
  go_enter Try.func4, Try.ntmps4
  by_cases h1 : 2147483647 < f.size
  · go_wp2_with fail
    go_ret
    exact ⟨rfl, Below.refl _ _⟩
  · by_cases h2 : 2147483647 < s.size
    · go_wp2_with fail
      go_ret
      exact ⟨rfl, Below.refl _ _⟩
    · go_wp2_with (first | (go_at_call 5; refine (fits_any _ l _ h hz'.out).mono ?_; rintro e w' ⟨b, rfl, rfl⟩; cases b))
      · go_ret
        exact ⟨rfl, Below.refl _ _⟩
      · go_ret
        exact ⟨rfl, Below.refl _ _⟩
      · have hlen : l.length ≤ 1000 := by omega
        have hsrc := Lib.hid (src_of h hnil'.out)
        have H := Lib.hid h
        clear h
        refine (walkf_any f s _ l w H.out hlen).mono ?_
        rintro e w1 ⟨v1, rfl, hs1, hb1⟩
        have S1 := Lib.hid hs1
        have B1 := Lib.hid hb1
        have HW := Lib.hid (alike_swap f s l)
        clear hs1 hb1
        go_wp2_with (first | (at_builtin; refine wpList_app rfl (.tmp 29) (.tmp 30) rfl w1.heap.size _ [f, s] rfl (own_two w1 f s) a l.length c l rfl ((hsrc.out.later B1.out).later ((Below.refl _ _).alloc (Nat.le_refl _) _)) (by simp; omega) (by simp) ?_; intro v2 w2 hown2 hgrow2; have hb2 := Lib.hid (grown_below (own_two w1 f s) ((Below.refl _ _).alloc (Nat.le_refl _) _) hgrow2); have hO2 := Lib.hid hown2; clear hown2 hgrow2) | (go_at_call 7; refine (alike_any _ _ _ _ _ (S1.out.below hb2.out) (hO2.out.strs (by simp; omega)) HW.out).mono ?_; rintro e w4 ⟨rfl, rfl⟩))
        go_ret
        exact ⟨rfl, B1.out.trans (hb2.out.mono B1.out.size)⟩
end Go.Proofs.Ytgcmhbonadibeaa
