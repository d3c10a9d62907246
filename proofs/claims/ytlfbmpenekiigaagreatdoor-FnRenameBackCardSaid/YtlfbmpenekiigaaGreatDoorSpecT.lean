/- IsType, kind by kind; conditions: the node reads as a tree, the tables hold texts, smaller ones are known. -/
import Derived.Test.YtlfbmpenekiigaaGreatDoorSpecM
namespace Go.Proofs.YtlfbmpenekiigaaGreatDoor
open Go.ChangeShapes Go.WideShapes Go.ChangeAt Go.RowKit
set_option linter.unusedVariables false

theorem unary_fine {d : Nat} {t x : Tree} (hk : t.kind ∈ unaryKinds) (hp : PlainT t 1) (e : t.kids = [x]) (hx : Fine d x) : Fine (d + 1) t :=
  .mk (.inr (.inr (.inr (.inl ⟨hk, hp.1, hp.2.1, x, e, hx.kind⟩)))) (by
    rw [e]; intro z hz
    rcases List.mem_cons.1 hz with rfl | hz
    · exact hx.1
    · cases hz)

theorem one_of_len {l : List Tree} (h : l.length = 1) : ∃ x, l = [x] := by
  rcases l with _ | ⟨x, _ | ⟨y, r⟩⟩
  · simp at h
  · exact ⟨x, rfl⟩
  · simp at h

theorem builtin_text {d : Nat} {t : Tree} {kv : Value} {w : World} (h : KidsAt w d t kv) (hk : t.kind = kBuiltinType) (hn : t.num = 0) (hl : t.kids.length = 0) : Fine d t :=
  leaf_fine h (k := kBuiltinType) ⟨hk, hn, List.eq_nil_of_length_eq_zero hl⟩ (by decide)

set_option maxRecDepth 100000 in
set_option maxHeartbeats 1000000 in
theorem typeName (d : Nat) (H : ∀ e, e < d → Known e) (t : Tree) (kv : Value) (w : World) (h : In w d t kv) (e1 : t.kind = kName) :
    Calls Tryz.prog 45 #[.agg #[.string t.kind, .string t.text, .int .i64 t.num, kv]] w (Ans w (Fine d t)) := by
  cases d with
  | zero => exact h.kids.elim
  | succ d =>
    have HI := Lib.hid h
    obtain ⟨hk, ht, hwf, a, c, rfl, hl, hc, hkids⟩ := h.kids
    have HK := Lib.hid hkids
    have B := Lib.hid (below1 w (.cells #[.string t.kind, .string t.text, .int .i64 t.num, .slice a t.kids.length c] 24))
    have PL : ∀ w1 n, Below w.heap.size w w1 → Calls Tryz.prog 21 #[.agg #[.string t.kind, .string t.text, .int .i64 t.num, .slice a t.kids.length c], .int .i64 (n : Nat)] w1 (Ans w1 (PlainT t n)) := fun w1 n hb => plainC t _ n (d + 1) _ (h.kids.below hb)
    have PLH := Lib.hid PL
    clear hkids PL
    have HC := Lib.hid (isClassC (d + 1) H)
    have k0 := kind_is (a := t.kind) kName e1 (l := [78, 97, 109, 101]) rfl
    clear e1 H h
    go_enter Tryz.func45, Tryz.ntmps45
    go_wp2_with fail
    refine (HC.out t _ _ ⟨HI.out.tabs.below B.out, HI.out.kids.below B.out⟩).mono ?_
    rintro e w1 ⟨b1, rfl, hp1, hb1⟩
    have B1 := Lib.hid (B.out.trans (hb1.mono B.out.size))
    have z1 : w.heap.size < w1.heap.size := by have := hb1.size; simp at this; omega
    obtain ⟨hc1, hf1⟩ := bcell hb1
    cases b1 with
    | false =>
      clear hp1 hb1
      go_wp2_with fail
      go_ret
      exact ⟨_, rfl, fun e => Bool.noConfusion e, B1.out⟩
    | true =>
      have P1 := Lib.hid (hp1 rfl)
      clear hp1 hb1
      go_wp2_with fail
      go_ret
      exact ⟨_, rfl, fun _ => P1.out, B1.out⟩

set_option maxRecDepth 100000 in
set_option maxHeartbeats 1000000 in
theorem typeTaggedName (d : Nat) (H : ∀ e, e < d → Known e) (t : Tree) (kv : Value) (w : World) (h : In w d t kv) (e1 : t.kind = kTaggedName) :
    Calls Tryz.prog 45 #[.agg #[.string t.kind, .string t.text, .int .i64 t.num, kv]] w (Ans w (Fine d t)) := by
  cases d with
  | zero => exact h.kids.elim
  | succ d =>
    have HI := Lib.hid h
    obtain ⟨hk, ht, hwf, a, c, rfl, hl, hc, hkids⟩ := h.kids
    have HK := Lib.hid hkids
    have B := Lib.hid (below1 w (.cells #[.string t.kind, .string t.text, .int .i64 t.num, .slice a t.kids.length c] 24))
    have PL : ∀ w1 n, Below w.heap.size w w1 → Calls Tryz.prog 21 #[.agg #[.string t.kind, .string t.text, .int .i64 t.num, .slice a t.kids.length c], .int .i64 (n : Nat)] w1 (Ans w1 (PlainT t n)) := fun w1 n hb => plainC t _ n (d + 1) _ (h.kids.below hb)
    have PLH := Lib.hid PL
    clear hkids PL
    have HC := Lib.hid (isClassC (d + 1) H)
    have k0 := kind_ne (a := t.kind) kName (by rw [e1]; decide) (l := [78, 97, 109, 101]) rfl
    have k1 := kind_is (a := t.kind) kTaggedName e1 (l := [84, 97, 103, 103, 101, 100, 78, 97, 109, 101]) rfl
    clear e1 H h
    go_enter Tryz.func45, Tryz.ntmps45
    go_wp2_with fail
    refine (HC.out t _ _ ⟨HI.out.tabs.below B.out, HI.out.kids.below B.out⟩).mono ?_
    rintro e w1 ⟨b1, rfl, hp1, hb1⟩
    have B1 := Lib.hid (B.out.trans (hb1.mono B.out.size))
    have z1 : w.heap.size < w1.heap.size := by have := hb1.size; simp at this; omega
    obtain ⟨hc1, hf1⟩ := bcell hb1
    cases b1 with
    | false =>
      clear hp1 hb1
      go_wp2_with fail
      go_ret
      exact ⟨_, rfl, fun e => Bool.noConfusion e, B1.out⟩
    | true =>
      have P1 := Lib.hid (hp1 rfl)
      clear hp1 hb1
      go_wp2_with fail
      go_ret
      exact ⟨_, rfl, fun _ => P1.out, B1.out⟩

set_option maxRecDepth 100000 in
set_option maxHeartbeats 1000000 in
theorem typeQualified (d : Nat) (H : ∀ e, e < d → Known e) (t : Tree) (kv : Value) (w : World) (h : In w d t kv) (e1 : t.kind = kQualified) :
    Calls Tryz.prog 45 #[.agg #[.string t.kind, .string t.text, .int .i64 t.num, kv]] w (Ans w (Fine d t)) := by
  cases d with
  | zero => exact h.kids.elim
  | succ d =>
    have HI := Lib.hid h
    obtain ⟨hk, ht, hwf, a, c, rfl, hl, hc, hkids⟩ := h.kids
    have HK := Lib.hid hkids
    have B := Lib.hid (below1 w (.cells #[.string t.kind, .string t.text, .int .i64 t.num, .slice a t.kids.length c] 24))
    have PL : ∀ w1 n, Below w.heap.size w w1 → Calls Tryz.prog 21 #[.agg #[.string t.kind, .string t.text, .int .i64 t.num, .slice a t.kids.length c], .int .i64 (n : Nat)] w1 (Ans w1 (PlainT t n)) := fun w1 n hb => plainC t _ n (d + 1) _ (h.kids.below hb)
    have PLH := Lib.hid PL
    clear hkids PL
    have HC := Lib.hid (isClassC (d + 1) H)
    have k0 := kind_ne (a := t.kind) kName (by rw [e1]; decide) (l := [78, 97, 109, 101]) rfl
    have k1 := kind_ne (a := t.kind) kTaggedName (by rw [e1]; decide) (l := [84, 97, 103, 103, 101, 100, 78, 97, 109, 101]) rfl
    have k2 := kind_is (a := t.kind) kQualified e1 (l := [81, 117, 97, 108, 105, 102, 105, 101, 100]) rfl
    clear e1 H h
    go_enter Tryz.func45, Tryz.ntmps45
    go_wp2_with fail
    refine (HC.out t _ _ ⟨HI.out.tabs.below B.out, HI.out.kids.below B.out⟩).mono ?_
    rintro e w1 ⟨b1, rfl, hp1, hb1⟩
    have B1 := Lib.hid (B.out.trans (hb1.mono B.out.size))
    have z1 : w.heap.size < w1.heap.size := by have := hb1.size; simp at this; omega
    obtain ⟨hc1, hf1⟩ := bcell hb1
    cases b1 with
    | false =>
      clear hp1 hb1
      go_wp2_with fail
      go_ret
      exact ⟨_, rfl, fun e => Bool.noConfusion e, B1.out⟩
    | true =>
      have P1 := Lib.hid (hp1 rfl)
      clear hp1 hb1
      go_wp2_with fail
      go_ret
      exact ⟨_, rfl, fun _ => P1.out, B1.out⟩

set_option maxRecDepth 100000 in
set_option maxHeartbeats 1000000 in
theorem typeTemplate (d : Nat) (H : ∀ e, e < d → Known e) (t : Tree) (kv : Value) (w : World) (h : In w d t kv) (e1 : t.kind = kTemplate) :
    Calls Tryz.prog 45 #[.agg #[.string t.kind, .string t.text, .int .i64 t.num, kv]] w (Ans w (Fine d t)) := by
  cases d with
  | zero => exact h.kids.elim
  | succ d =>
    have HI := Lib.hid h
    obtain ⟨hk, ht, hwf, a, c, rfl, hl, hc, hkids⟩ := h.kids
    have HK := Lib.hid hkids
    have B := Lib.hid (below1 w (.cells #[.string t.kind, .string t.text, .int .i64 t.num, .slice a t.kids.length c] 24))
    have PL : ∀ w1 n, Below w.heap.size w w1 → Calls Tryz.prog 21 #[.agg #[.string t.kind, .string t.text, .int .i64 t.num, .slice a t.kids.length c], .int .i64 (n : Nat)] w1 (Ans w1 (PlainT t n)) := fun w1 n hb => plainC t _ n (d + 1) _ (h.kids.below hb)
    have PLH := Lib.hid PL
    clear hkids PL
    have HC := Lib.hid (isClassC (d + 1) H)
    have k0 := kind_ne (a := t.kind) kName (by rw [e1]; decide) (l := [78, 97, 109, 101]) rfl
    have k1 := kind_ne (a := t.kind) kTaggedName (by rw [e1]; decide) (l := [84, 97, 103, 103, 101, 100, 78, 97, 109, 101]) rfl
    have k2 := kind_ne (a := t.kind) kQualified (by rw [e1]; decide) (l := [81, 117, 97, 108, 105, 102, 105, 101, 100]) rfl
    have k3 := kind_is (a := t.kind) kTemplate e1 (l := [84, 101, 109, 112, 108, 97, 116, 101]) rfl
    clear e1 H h
    go_enter Tryz.func45, Tryz.ntmps45
    go_wp2_with fail
    refine (HC.out t _ _ ⟨HI.out.tabs.below B.out, HI.out.kids.below B.out⟩).mono ?_
    rintro e w1 ⟨b1, rfl, hp1, hb1⟩
    have B1 := Lib.hid (B.out.trans (hb1.mono B.out.size))
    have z1 : w.heap.size < w1.heap.size := by have := hb1.size; simp at this; omega
    obtain ⟨hc1, hf1⟩ := bcell hb1
    cases b1 with
    | false =>
      clear hp1 hb1
      go_wp2_with fail
      go_ret
      exact ⟨_, rfl, fun e => Bool.noConfusion e, B1.out⟩
    | true =>
      have P1 := Lib.hid (hp1 rfl)
      clear hp1 hb1
      go_wp2_with fail
      go_ret
      exact ⟨_, rfl, fun _ => P1.out, B1.out⟩

set_option maxRecDepth 100000 in
set_option maxHeartbeats 1000000 in
theorem typeFunctionType (d : Nat) (H : ∀ e, e < d → Known e) (t : Tree) (kv : Value) (w : World) (h : In w d t kv) (e1 : t.kind = kFunctionType) :
    Calls Tryz.prog 45 #[.agg #[.string t.kind, .string t.text, .int .i64 t.num, kv]] w (Ans w (Fine d t)) := by
  cases d with
  | zero => exact h.kids.elim
  | succ d =>
    have HI := Lib.hid h
    obtain ⟨hk, ht, hwf, a, c, rfl, hl, hc, hkids⟩ := h.kids
    have HK := Lib.hid hkids
    have B := Lib.hid (below1 w (.cells #[.string t.kind, .string t.text, .int .i64 t.num, .slice a t.kids.length c] 24))
    have PL : ∀ w1 n, Below w.heap.size w w1 → Calls Tryz.prog 21 #[.agg #[.string t.kind, .string t.text, .int .i64 t.num, .slice a t.kids.length c], .int .i64 (n : Nat)] w1 (Ans w1 (PlainT t n)) := fun w1 n hb => plainC t _ n (d + 1) _ (h.kids.below hb)
    have PLH := Lib.hid PL
    clear hkids PL
    have HC := Lib.hid (isFunctionTypeC (d + 1) H)
    have k0 := kind_ne (a := t.kind) kName (by rw [e1]; decide) (l := [78, 97, 109, 101]) rfl
    have k1 := kind_ne (a := t.kind) kTaggedName (by rw [e1]; decide) (l := [84, 97, 103, 103, 101, 100, 78, 97, 109, 101]) rfl
    have k2 := kind_ne (a := t.kind) kQualified (by rw [e1]; decide) (l := [81, 117, 97, 108, 105, 102, 105, 101, 100]) rfl
    have k3 := kind_ne (a := t.kind) kTemplate (by rw [e1]; decide) (l := [84, 101, 109, 112, 108, 97, 116, 101]) rfl
    have k4 := kind_ne (a := t.kind) kBuiltinType (by rw [e1]; decide) (l := [66, 117, 105, 108, 116, 105, 110, 84, 121, 112, 101]) rfl
    have k5 := kind_ne (a := t.kind) kPointerType (by rw [e1]; decide) (l := [80, 111, 105, 110, 116, 101, 114, 84, 121, 112, 101]) rfl
    have k6 := kind_ne (a := t.kind) kReferenceType (by rw [e1]; decide) (l := [82, 101, 102, 101, 114, 101, 110, 99, 101, 84, 121, 112, 101]) rfl
    have k7 := kind_ne (a := t.kind) kRvalueReferenceType (by rw [e1]; decide) (l := [82, 118, 97, 108, 117, 101, 82, 101, 102, 101, 114, 101, 110, 99, 101, 84, 121, 112, 101]) rfl
    have k8 := kind_ne (a := t.kind) kTypeWithQualifiers (by rw [e1]; decide) (l := [84, 121, 112, 101, 87, 105, 116, 104, 81, 117, 97, 108, 105, 102, 105, 101, 114, 115]) rfl
    have k9 := kind_ne (a := t.kind) kComplexType (by rw [e1]; decide) (l := [67, 111, 109, 112, 108, 101, 120, 84, 121, 112, 101]) rfl
    have k10 := kind_ne (a := t.kind) kImaginaryType (by rw [e1]; decide) (l := [73, 109, 97, 103, 105, 110, 97, 114, 121, 84, 121, 112, 101]) rfl
    have k11 := kind_is (a := t.kind) kFunctionType e1 (l := [70, 117, 110, 99, 116, 105, 111, 110, 84, 121, 112, 101]) rfl
    clear e1 H h
    go_enter Tryz.func45, Tryz.ntmps45
    go_wp2_with fail
    refine (HC.out t _ _ ⟨HI.out.tabs.below B.out, HI.out.kids.below B.out⟩).mono ?_
    rintro e w1 ⟨b1, rfl, hp1, hb1⟩
    have B1 := Lib.hid (B.out.trans (hb1.mono B.out.size))
    have z1 : w.heap.size < w1.heap.size := by have := hb1.size; simp at this; omega
    obtain ⟨hc1, hf1⟩ := bcell hb1
    cases b1 with
    | false =>
      clear hp1 hb1
      go_wp2_with fail
      go_ret
      exact ⟨_, rfl, fun e => Bool.noConfusion e, B1.out⟩
    | true =>
      have P1 := Lib.hid (hp1 rfl)
      clear hp1 hb1
      go_wp2_with fail
      go_ret
      exact ⟨_, rfl, fun _ => P1.out, B1.out⟩

set_option maxRecDepth 100000 in
set_option maxHeartbeats 1000000 in
theorem typeBuiltinType (d : Nat) (H : ∀ e, e < d → Known e) (t : Tree) (kv : Value) (w : World) (h : In w d t kv) (e1 : t.kind = kBuiltinType) :
    Calls Tryz.prog 45 #[.agg #[.string t.kind, .string t.text, .int .i64 t.num, kv]] w (Ans w (Fine d t)) := by
  cases d with
  | zero => exact h.kids.elim
  | succ d =>
    have HI := Lib.hid h
    obtain ⟨hk, ht, hwf, a, c, rfl, hl, hc, hkids⟩ := h.kids
    have HK := Lib.hid hkids
    have B := Lib.hid (below1 w (.cells #[.string t.kind, .string t.text, .int .i64 t.num, .slice a t.kids.length c] 24))
    have PL : ∀ w1 n, Below w.heap.size w w1 → Calls Tryz.prog 21 #[.agg #[.string t.kind, .string t.text, .int .i64 t.num, .slice a t.kids.length c], .int .i64 (n : Nat)] w1 (Ans w1 (PlainT t n)) := fun w1 n hb => plainC t _ n (d + 1) _ (h.kids.below hb)
    have PLH := Lib.hid PL
    clear hkids PL
    have k0 := kind_ne (a := t.kind) kName (by rw [e1]; decide) (l := [78, 97, 109, 101]) rfl
    have k1 := kind_ne (a := t.kind) kTaggedName (by rw [e1]; decide) (l := [84, 97, 103, 103, 101, 100, 78, 97, 109, 101]) rfl
    have k2 := kind_ne (a := t.kind) kQualified (by rw [e1]; decide) (l := [81, 117, 97, 108, 105, 102, 105, 101, 100]) rfl
    have k3 := kind_ne (a := t.kind) kTemplate (by rw [e1]; decide) (l := [84, 101, 109, 112, 108, 97, 116, 101]) rfl
    have k4 := kind_is (a := t.kind) kBuiltinType e1 (l := [66, 117, 105, 108, 116, 105, 110, 84, 121, 112, 101]) rfl
    have E := Lib.hid e1
    clear e1 H h
    by_cases hn : t.num = 0
    · by_cases hl0 : t.kids.length = 0
      · have n1 : (t.num == 0) = true := by simp [hn]
        have n2 : ((t.kids.length : Int) == 0) = true := by simp [hl0]
        have F := Lib.hid (builtin_text HI.out.kids E.out hn hl0)
        clear hn hl0
        go_enter Tryz.func45, Tryz.ntmps45
        go_wp2_with (go_at_call 56; refine (codeC _ _ (HI.out.tabs.below B.out)).mono ?_; rintro e w' ⟨s, rfl, rfl⟩)
        all_goals go_ret
        all_goals exact ⟨_, rfl, fun _ => F.out, B.out⟩
      · have n1 : (t.num == 0) = true := by simp [hn]
        have n2 : ((t.kids.length : Int) == 0) = false := by simp; intro e; exact hl0 (by rw [e]; rfl)
        clear hn hl0
        go_enter Tryz.func45, Tryz.ntmps45
        go_wp2_with fail
        all_goals go_ret
        all_goals exact ⟨_, rfl, fun e => Bool.noConfusion e, B.out⟩
    · have n1 : (t.num == 0) = false := by simpa using hn
      clear hn
      go_enter Tryz.func45, Tryz.ntmps45
      go_wp2_with fail
      all_goals go_ret
      all_goals exact ⟨_, rfl, fun e => Bool.noConfusion e, B.out⟩

set_option maxRecDepth 100000 in
set_option maxHeartbeats 1000000 in
theorem typePointerType (d : Nat) (H : ∀ e, e < d → Known e) (t : Tree) (kv : Value) (w : World) (h : In w d t kv) (e1 : t.kind = kPointerType) :
    Calls Tryz.prog 45 #[.agg #[.string t.kind, .string t.text, .int .i64 t.num, kv]] w (Ans w (Fine d t)) := by
  cases d with
  | zero => exact h.kids.elim
  | succ d =>
    have HI := Lib.hid h
    obtain ⟨hk, ht, hwf, a, c, rfl, hl, hc, hkids⟩ := h.kids
    have HK := Lib.hid hkids
    have B := Lib.hid (below1 w (.cells #[.string t.kind, .string t.text, .int .i64 t.num, .slice a t.kids.length c] 24))
    have PL : ∀ w1 n, Below w.heap.size w w1 → Calls Tryz.prog 21 #[.agg #[.string t.kind, .string t.text, .int .i64 t.num, .slice a t.kids.length c], .int .i64 (n : Nat)] w1 (Ans w1 (PlainT t n)) := fun w1 n hb => plainC t _ n (d + 1) _ (h.kids.below hb)
    have PLH := Lib.hid PL
    clear hkids PL
    have PLHN : Hid (∀ w1, Below w.heap.size w w1 → Calls Tryz.prog 21 #[.agg #[.string t.kind, .string t.text, .int .i64 t.num, .slice a t.kids.length c], .int .i64 1] w1 (Ans w1 (PlainT t 1))) := fun w1 hb => PLH.out w1 1 hb
    have HC := Lib.hid (H d (by omega)).typ
    have k0 := kind_ne (a := t.kind) kName (by rw [e1]; decide) (l := [78, 97, 109, 101]) rfl
    have k1 := kind_ne (a := t.kind) kTaggedName (by rw [e1]; decide) (l := [84, 97, 103, 103, 101, 100, 78, 97, 109, 101]) rfl
    have k2 := kind_ne (a := t.kind) kQualified (by rw [e1]; decide) (l := [81, 117, 97, 108, 105, 102, 105, 101, 100]) rfl
    have k3 := kind_ne (a := t.kind) kTemplate (by rw [e1]; decide) (l := [84, 101, 109, 112, 108, 97, 116, 101]) rfl
    have k4 := kind_ne (a := t.kind) kBuiltinType (by rw [e1]; decide) (l := [66, 117, 105, 108, 116, 105, 110, 84, 121, 112, 101]) rfl
    have k5 := kind_is (a := t.kind) kPointerType e1 (l := [80, 111, 105, 110, 116, 101, 114, 84, 121, 112, 101]) rfl
    have E := Lib.hid e1
    clear e1 H h
    by_cases hl2 : t.kids.length = 1
    · have HL2 := Lib.hid hl2
      obtain ⟨x, b, o, xa, xc, hx0, _, rfl, hbl, ⟨x0, x1, x2, x3⟩, KX⟩ := kid0 HK.out (by omega)
      obtain ⟨x', ek⟩ := one_of_len hl2
      obtain rfl : x' = x := by rw [ek] at hx0; simpa using hx0
      have KE := Lib.hid ek
      have HX := Lib.hid KX
      have hlen : 0 < t.kids.length := by omega
      clear KX ek hx0 hl2
      go_enter Tryz.func45, Tryz.ntmps45
      go_wp2_with fail
      refine (PLHN.out _ B.out).mono ?_
      rintro e w1 ⟨b1, rfl, hp1, hb1⟩
      have B1 := Lib.hid (B.out.trans (hb1.mono B.out.size))
      have z1 : w.heap.size < w1.heap.size := by have := hb1.size; simp at this; omega
      have q1 : b < w1.heap.size := by omega
      obtain ⟨hc1, hf1⟩ := bcell hb1
      cases b1 with
      | false =>
        clear hp1 hb1
        go_wp2_with fail
        go_ret
        exact ⟨_, rfl, fun e => Bool.noConfusion e, B1.out⟩
      | true =>
        have P1 := Lib.hid (hp1 rfl)
        clear hp1 hb1
        go_wp2_with fail
        refine (HC.out x' _ _ ⟨HI.out.tabs.below B1.out, HX.out.below B1.out⟩).mono ?_
        rintro e w2 ⟨b2, rfl, hp2, hb2⟩
        have B2 := Lib.hid (B1.out.trans (hb2.mono B1.out.size))
        have z2 : w.heap.size < w2.heap.size := by have := hb2.size; omega
        have q2 : b < w2.heap.size := by omega
        obtain ⟨hc2, hf2⟩ := bcell hb2
        cases b2 with
        | false =>
          clear hp2 hb2
          go_wp2_with fail
          go_ret
          exact ⟨_, rfl, fun e => Bool.noConfusion e, B2.out⟩
        | true =>
          have P2 := Lib.hid (hp2 rfl)
          clear hp2 hb2
          go_wp2_with fail
          refine (isReferenceC x' _ d _ (HX.out.below B2.out)).mono ?_
          rintro e w3 ⟨b3, rfl, hp3, hb3⟩
          have B3 := Lib.hid (B2.out.trans (hb3.mono B2.out.size))
          have z3 : w.heap.size < w3.heap.size := by have := hb3.size; omega
          have q3 : b < w3.heap.size := by omega
          obtain ⟨hc3, hf3⟩ := bcell hb3
          cases b3 with
          | true =>
            clear hp3 hb3
            go_wp2_with fail
            go_ret
            exact ⟨_, rfl, fun e => Bool.noConfusion e, B3.out⟩
          | false =>
            clear hp3 hb3
            go_wp2_with fail
            go_ret
            exact ⟨_, rfl, fun _ => unary_fine (by rw [E.out]; decide) P1.out KE.out P2.out, B3.out⟩
    · go_enter Tryz.func45, Tryz.ntmps45
      go_wp2_with fail
      refine (PLHN.out _ B.out).mono ?_
      rintro e w1 ⟨b1, rfl, hp1, hb1⟩
      have B1 := Lib.hid (B.out.trans (hb1.mono B.out.size))
      cases b1 with
      | true => exact (hl2 (hp1 rfl).2.2).elim
      | false =>
        clear hp1 hb1
        go_wp2_with fail
        go_ret
        exact ⟨_, rfl, fun e => Bool.noConfusion e, B1.out⟩

set_option maxRecDepth 100000 in
set_option maxHeartbeats 1000000 in
theorem typeReferenceType (d : Nat) (H : ∀ e, e < d → Known e) (t : Tree) (kv : Value) (w : World) (h : In w d t kv) (e1 : t.kind = kReferenceType) :
    Calls Tryz.prog 45 #[.agg #[.string t.kind, .string t.text, .int .i64 t.num, kv]] w (Ans w (Fine d t)) := by
  cases d with
  | zero => exact h.kids.elim
  | succ d =>
    have HI := Lib.hid h
    obtain ⟨hk, ht, hwf, a, c, rfl, hl, hc, hkids⟩ := h.kids
    have HK := Lib.hid hkids
    have B := Lib.hid (below1 w (.cells #[.string t.kind, .string t.text, .int .i64 t.num, .slice a t.kids.length c] 24))
    have PL : ∀ w1 n, Below w.heap.size w w1 → Calls Tryz.prog 21 #[.agg #[.string t.kind, .string t.text, .int .i64 t.num, .slice a t.kids.length c], .int .i64 (n : Nat)] w1 (Ans w1 (PlainT t n)) := fun w1 n hb => plainC t _ n (d + 1) _ (h.kids.below hb)
    have PLH := Lib.hid PL
    clear hkids PL
    have PLHN : Hid (∀ w1, Below w.heap.size w w1 → Calls Tryz.prog 21 #[.agg #[.string t.kind, .string t.text, .int .i64 t.num, .slice a t.kids.length c], .int .i64 1] w1 (Ans w1 (PlainT t 1))) := fun w1 hb => PLH.out w1 1 hb
    have HC := Lib.hid (H d (by omega)).typ
    have k0 := kind_ne (a := t.kind) kName (by rw [e1]; decide) (l := [78, 97, 109, 101]) rfl
    have k1 := kind_ne (a := t.kind) kTaggedName (by rw [e1]; decide) (l := [84, 97, 103, 103, 101, 100, 78, 97, 109, 101]) rfl
    have k2 := kind_ne (a := t.kind) kQualified (by rw [e1]; decide) (l := [81, 117, 97, 108, 105, 102, 105, 101, 100]) rfl
    have k3 := kind_ne (a := t.kind) kTemplate (by rw [e1]; decide) (l := [84, 101, 109, 112, 108, 97, 116, 101]) rfl
    have k4 := kind_ne (a := t.kind) kBuiltinType (by rw [e1]; decide) (l := [66, 117, 105, 108, 116, 105, 110, 84, 121, 112, 101]) rfl
    have k5 := kind_ne (a := t.kind) kPointerType (by rw [e1]; decide) (l := [80, 111, 105, 110, 116, 101, 114, 84, 121, 112, 101]) rfl
    have k6 := kind_is (a := t.kind) kReferenceType e1 (l := [82, 101, 102, 101, 114, 101, 110, 99, 101, 84, 121, 112, 101]) rfl
    have E := Lib.hid e1
    clear e1 H h
    by_cases hl2 : t.kids.length = 1
    · have HL2 := Lib.hid hl2
      obtain ⟨x, b, o, xa, xc, hx0, _, rfl, hbl, ⟨x0, x1, x2, x3⟩, KX⟩ := kid0 HK.out (by omega)
      obtain ⟨x', ek⟩ := one_of_len hl2
      obtain rfl : x' = x := by rw [ek] at hx0; simpa using hx0
      have KE := Lib.hid ek
      have HX := Lib.hid KX
      have hlen : 0 < t.kids.length := by omega
      clear KX ek hx0 hl2
      go_enter Tryz.func45, Tryz.ntmps45
      go_wp2_with fail
      refine (PLHN.out _ B.out).mono ?_
      rintro e w1 ⟨b1, rfl, hp1, hb1⟩
      have B1 := Lib.hid (B.out.trans (hb1.mono B.out.size))
      have z1 : w.heap.size < w1.heap.size := by have := hb1.size; simp at this; omega
      have q1 : b < w1.heap.size := by omega
      obtain ⟨hc1, hf1⟩ := bcell hb1
      cases b1 with
      | false =>
        clear hp1 hb1
        go_wp2_with fail
        go_ret
        exact ⟨_, rfl, fun e => Bool.noConfusion e, B1.out⟩
      | true =>
        have P1 := Lib.hid (hp1 rfl)
        clear hp1 hb1
        go_wp2_with fail
        refine (HC.out x' _ _ ⟨HI.out.tabs.below B1.out, HX.out.below B1.out⟩).mono ?_
        rintro e w2 ⟨b2, rfl, hp2, hb2⟩
        have B2 := Lib.hid (B1.out.trans (hb2.mono B1.out.size))
        have z2 : w.heap.size < w2.heap.size := by have := hb2.size; omega
        have q2 : b < w2.heap.size := by omega
        obtain ⟨hc2, hf2⟩ := bcell hb2
        cases b2 with
        | false =>
          clear hp2 hb2
          go_wp2_with fail
          go_ret
          exact ⟨_, rfl, fun e => Bool.noConfusion e, B2.out⟩
        | true =>
          have P2 := Lib.hid (hp2 rfl)
          clear hp2 hb2
          go_wp2_with fail
          refine (isReferenceC x' _ d _ (HX.out.below B2.out)).mono ?_
          rintro e w3 ⟨b3, rfl, hp3, hb3⟩
          have B3 := Lib.hid (B2.out.trans (hb3.mono B2.out.size))
          have z3 : w.heap.size < w3.heap.size := by have := hb3.size; omega
          have q3 : b < w3.heap.size := by omega
          obtain ⟨hc3, hf3⟩ := bcell hb3
          cases b3 with
          | true =>
            clear hp3 hb3
            go_wp2_with fail
            go_ret
            exact ⟨_, rfl, fun e => Bool.noConfusion e, B3.out⟩
          | false =>
            clear hp3 hb3
            go_wp2_with fail
            refine (isVoidC x' _ d _ (HX.out.below B3.out)).mono ?_
            rintro e w4 ⟨b4, rfl, hp4, hb4⟩
            have B4 := Lib.hid (B3.out.trans (hb4.mono B3.out.size))
            have z4 : w.heap.size < w4.heap.size := by have := hb4.size; omega
            have q4 : b < w4.heap.size := by omega
            obtain ⟨hc4, hf4⟩ := bcell hb4
            cases b4 with
            | true =>
              clear hp4 hb4
              go_wp2_with fail
              go_ret
              exact ⟨_, rfl, fun e => Bool.noConfusion e, B4.out⟩
            | false =>
              clear hp4 hb4
              go_wp2_with fail
              go_ret
              exact ⟨_, rfl, fun _ => unary_fine (by rw [E.out]; decide) P1.out KE.out P2.out, B4.out⟩
    · go_enter Tryz.func45, Tryz.ntmps45
      go_wp2_with fail
      refine (PLHN.out _ B.out).mono ?_
      rintro e w1 ⟨b1, rfl, hp1, hb1⟩
      have B1 := Lib.hid (B.out.trans (hb1.mono B.out.size))
      cases b1 with
      | true => exact (hl2 (hp1 rfl).2.2).elim
      | false =>
        clear hp1 hb1
        go_wp2_with fail
        go_ret
        exact ⟨_, rfl, fun e => Bool.noConfusion e, B1.out⟩

set_option maxRecDepth 100000 in
set_option maxHeartbeats 1000000 in
theorem typeRvalueReferenceType (d : Nat) (H : ∀ e, e < d → Known e) (t : Tree) (kv : Value) (w : World) (h : In w d t kv) (e1 : t.kind = kRvalueReferenceType) :
    Calls Tryz.prog 45 #[.agg #[.string t.kind, .string t.text, .int .i64 t.num, kv]] w (Ans w (Fine d t)) := by
  cases d with
  | zero => exact h.kids.elim
  | succ d =>
    have HI := Lib.hid h
    obtain ⟨hk, ht, hwf, a, c, rfl, hl, hc, hkids⟩ := h.kids
    have HK := Lib.hid hkids
    have B := Lib.hid (below1 w (.cells #[.string t.kind, .string t.text, .int .i64 t.num, .slice a t.kids.length c] 24))
    have PL : ∀ w1 n, Below w.heap.size w w1 → Calls Tryz.prog 21 #[.agg #[.string t.kind, .string t.text, .int .i64 t.num, .slice a t.kids.length c], .int .i64 (n : Nat)] w1 (Ans w1 (PlainT t n)) := fun w1 n hb => plainC t _ n (d + 1) _ (h.kids.below hb)
    have PLH := Lib.hid PL
    clear hkids PL
    have PLHN : Hid (∀ w1, Below w.heap.size w w1 → Calls Tryz.prog 21 #[.agg #[.string t.kind, .string t.text, .int .i64 t.num, .slice a t.kids.length c], .int .i64 1] w1 (Ans w1 (PlainT t 1))) := fun w1 hb => PLH.out w1 1 hb
    have HC := Lib.hid (H d (by omega)).typ
    have k0 := kind_ne (a := t.kind) kName (by rw [e1]; decide) (l := [78, 97, 109, 101]) rfl
    have k1 := kind_ne (a := t.kind) kTaggedName (by rw [e1]; decide) (l := [84, 97, 103, 103, 101, 100, 78, 97, 109, 101]) rfl
    have k2 := kind_ne (a := t.kind) kQualified (by rw [e1]; decide) (l := [81, 117, 97, 108, 105, 102, 105, 101, 100]) rfl
    have k3 := kind_ne (a := t.kind) kTemplate (by rw [e1]; decide) (l := [84, 101, 109, 112, 108, 97, 116, 101]) rfl
    have k4 := kind_ne (a := t.kind) kBuiltinType (by rw [e1]; decide) (l := [66, 117, 105, 108, 116, 105, 110, 84, 121, 112, 101]) rfl
    have k5 := kind_ne (a := t.kind) kPointerType (by rw [e1]; decide) (l := [80, 111, 105, 110, 116, 101, 114, 84, 121, 112, 101]) rfl
    have k6 := kind_ne (a := t.kind) kReferenceType (by rw [e1]; decide) (l := [82, 101, 102, 101, 114, 101, 110, 99, 101, 84, 121, 112, 101]) rfl
    have k7 := kind_is (a := t.kind) kRvalueReferenceType e1 (l := [82, 118, 97, 108, 117, 101, 82, 101, 102, 101, 114, 101, 110, 99, 101, 84, 121, 112, 101]) rfl
    have E := Lib.hid e1
    clear e1 H h
    by_cases hl2 : t.kids.length = 1
    · have HL2 := Lib.hid hl2
      obtain ⟨x, b, o, xa, xc, hx0, _, rfl, hbl, ⟨x0, x1, x2, x3⟩, KX⟩ := kid0 HK.out (by omega)
      obtain ⟨x', ek⟩ := one_of_len hl2
      obtain rfl : x' = x := by rw [ek] at hx0; simpa using hx0
      have KE := Lib.hid ek
      have HX := Lib.hid KX
      have hlen : 0 < t.kids.length := by omega
      clear KX ek hx0 hl2
      go_enter Tryz.func45, Tryz.ntmps45
      go_wp2_with fail
      refine (PLHN.out _ B.out).mono ?_
      rintro e w1 ⟨b1, rfl, hp1, hb1⟩
      have B1 := Lib.hid (B.out.trans (hb1.mono B.out.size))
      have z1 : w.heap.size < w1.heap.size := by have := hb1.size; simp at this; omega
      have q1 : b < w1.heap.size := by omega
      obtain ⟨hc1, hf1⟩ := bcell hb1
      cases b1 with
      | false =>
        clear hp1 hb1
        go_wp2_with fail
        go_ret
        exact ⟨_, rfl, fun e => Bool.noConfusion e, B1.out⟩
      | true =>
        have P1 := Lib.hid (hp1 rfl)
        clear hp1 hb1
        go_wp2_with fail
        refine (HC.out x' _ _ ⟨HI.out.tabs.below B1.out, HX.out.below B1.out⟩).mono ?_
        rintro e w2 ⟨b2, rfl, hp2, hb2⟩
        have B2 := Lib.hid (B1.out.trans (hb2.mono B1.out.size))
        have z2 : w.heap.size < w2.heap.size := by have := hb2.size; omega
        have q2 : b < w2.heap.size := by omega
        obtain ⟨hc2, hf2⟩ := bcell hb2
        cases b2 with
        | false =>
          clear hp2 hb2
          go_wp2_with fail
          go_ret
          exact ⟨_, rfl, fun e => Bool.noConfusion e, B2.out⟩
        | true =>
          have P2 := Lib.hid (hp2 rfl)
          clear hp2 hb2
          go_wp2_with fail
          refine (isReferenceC x' _ d _ (HX.out.below B2.out)).mono ?_
          rintro e w3 ⟨b3, rfl, hp3, hb3⟩
          have B3 := Lib.hid (B2.out.trans (hb3.mono B2.out.size))
          have z3 : w.heap.size < w3.heap.size := by have := hb3.size; omega
          have q3 : b < w3.heap.size := by omega
          obtain ⟨hc3, hf3⟩ := bcell hb3
          cases b3 with
          | true =>
            clear hp3 hb3
            go_wp2_with fail
            go_ret
            exact ⟨_, rfl, fun e => Bool.noConfusion e, B3.out⟩
          | false =>
            clear hp3 hb3
            go_wp2_with fail
            refine (isVoidC x' _ d _ (HX.out.below B3.out)).mono ?_
            rintro e w4 ⟨b4, rfl, hp4, hb4⟩
            have B4 := Lib.hid (B3.out.trans (hb4.mono B3.out.size))
            have z4 : w.heap.size < w4.heap.size := by have := hb4.size; omega
            have q4 : b < w4.heap.size := by omega
            obtain ⟨hc4, hf4⟩ := bcell hb4
            cases b4 with
            | true =>
              clear hp4 hb4
              go_wp2_with fail
              go_ret
              exact ⟨_, rfl, fun e => Bool.noConfusion e, B4.out⟩
            | false =>
              clear hp4 hb4
              go_wp2_with fail
              go_ret
              exact ⟨_, rfl, fun _ => unary_fine (by rw [E.out]; decide) P1.out KE.out P2.out, B4.out⟩
    · go_enter Tryz.func45, Tryz.ntmps45
      go_wp2_with fail
      refine (PLHN.out _ B.out).mono ?_
      rintro e w1 ⟨b1, rfl, hp1, hb1⟩
      have B1 := Lib.hid (B.out.trans (hb1.mono B.out.size))
      cases b1 with
      | true => exact (hl2 (hp1 rfl).2.2).elim
      | false =>
        clear hp1 hb1
        go_wp2_with fail
        go_ret
        exact ⟨_, rfl, fun e => Bool.noConfusion e, B1.out⟩

set_option maxRecDepth 100000 in
set_option maxHeartbeats 1000000 in
theorem typeComplexType (d : Nat) (H : ∀ e, e < d → Known e) (t : Tree) (kv : Value) (w : World) (h : In w d t kv) (e1 : t.kind = kComplexType) :
    Calls Tryz.prog 45 #[.agg #[.string t.kind, .string t.text, .int .i64 t.num, kv]] w (Ans w (Fine d t)) := by
  cases d with
  | zero => exact h.kids.elim
  | succ d =>
    have HI := Lib.hid h
    obtain ⟨hk, ht, hwf, a, c, rfl, hl, hc, hkids⟩ := h.kids
    have HK := Lib.hid hkids
    have B := Lib.hid (below1 w (.cells #[.string t.kind, .string t.text, .int .i64 t.num, .slice a t.kids.length c] 24))
    have PL : ∀ w1 n, Below w.heap.size w w1 → Calls Tryz.prog 21 #[.agg #[.string t.kind, .string t.text, .int .i64 t.num, .slice a t.kids.length c], .int .i64 (n : Nat)] w1 (Ans w1 (PlainT t n)) := fun w1 n hb => plainC t _ n (d + 1) _ (h.kids.below hb)
    have PLH := Lib.hid PL
    clear hkids PL
    have PLHN : Hid (∀ w1, Below w.heap.size w w1 → Calls Tryz.prog 21 #[.agg #[.string t.kind, .string t.text, .int .i64 t.num, .slice a t.kids.length c], .int .i64 1] w1 (Ans w1 (PlainT t 1))) := fun w1 hb => PLH.out w1 1 hb
    have HC := Lib.hid (isFloatingC d (H d (by omega)).typ)
    have k0 := kind_ne (a := t.kind) kName (by rw [e1]; decide) (l := [78, 97, 109, 101]) rfl
    have k1 := kind_ne (a := t.kind) kTaggedName (by rw [e1]; decide) (l := [84, 97, 103, 103, 101, 100, 78, 97, 109, 101]) rfl
    have k2 := kind_ne (a := t.kind) kQualified (by rw [e1]; decide) (l := [81, 117, 97, 108, 105, 102, 105, 101, 100]) rfl
    have k3 := kind_ne (a := t.kind) kTemplate (by rw [e1]; decide) (l := [84, 101, 109, 112, 108, 97, 116, 101]) rfl
    have k4 := kind_ne (a := t.kind) kBuiltinType (by rw [e1]; decide) (l := [66, 117, 105, 108, 116, 105, 110, 84, 121, 112, 101]) rfl
    have k5 := kind_ne (a := t.kind) kPointerType (by rw [e1]; decide) (l := [80, 111, 105, 110, 116, 101, 114, 84, 121, 112, 101]) rfl
    have k6 := kind_ne (a := t.kind) kReferenceType (by rw [e1]; decide) (l := [82, 101, 102, 101, 114, 101, 110, 99, 101, 84, 121, 112, 101]) rfl
    have k7 := kind_ne (a := t.kind) kRvalueReferenceType (by rw [e1]; decide) (l := [82, 118, 97, 108, 117, 101, 82, 101, 102, 101, 114, 101, 110, 99, 101, 84, 121, 112, 101]) rfl
    have k8 := kind_ne (a := t.kind) kTypeWithQualifiers (by rw [e1]; decide) (l := [84, 121, 112, 101, 87, 105, 116, 104, 81, 117, 97, 108, 105, 102, 105, 101, 114, 115]) rfl
    have k9 := kind_is (a := t.kind) kComplexType e1 (l := [67, 111, 109, 112, 108, 101, 120, 84, 121, 112, 101]) rfl
    have E := Lib.hid e1
    clear e1 H h
    by_cases hl2 : t.kids.length = 1
    · have HL2 := Lib.hid hl2
      obtain ⟨x, b, o, xa, xc, hx0, _, rfl, hbl, ⟨x0, x1, x2, x3⟩, KX⟩ := kid0 HK.out (by omega)
      obtain ⟨x', ek⟩ := one_of_len hl2
      obtain rfl : x' = x := by rw [ek] at hx0; simpa using hx0
      have KE := Lib.hid ek
      have HX := Lib.hid KX
      have hlen : 0 < t.kids.length := by omega
      clear KX ek hx0 hl2
      go_enter Tryz.func45, Tryz.ntmps45
      go_wp2_with fail
      refine (PLHN.out _ B.out).mono ?_
      rintro e w1 ⟨b1, rfl, hp1, hb1⟩
      have B1 := Lib.hid (B.out.trans (hb1.mono B.out.size))
      have z1 : w.heap.size < w1.heap.size := by have := hb1.size; simp at this; omega
      have q1 : b < w1.heap.size := by omega
      obtain ⟨hc1, hf1⟩ := bcell hb1
      cases b1 with
      | false =>
        clear hp1 hb1
        go_wp2_with fail
        go_ret
        exact ⟨_, rfl, fun e => Bool.noConfusion e, B1.out⟩
      | true =>
        have P1 := Lib.hid (hp1 rfl)
        clear hp1 hb1
        go_wp2_with fail
        refine (HC.out x' _ _ ⟨HI.out.tabs.below B1.out, HX.out.below B1.out⟩).mono ?_
        rintro e w2 ⟨b2, rfl, hp2, hb2⟩
        have B2 := Lib.hid (B1.out.trans (hb2.mono B1.out.size))
        have z2 : w.heap.size < w2.heap.size := by have := hb2.size; omega
        have q2 : b < w2.heap.size := by omega
        obtain ⟨hc2, hf2⟩ := bcell hb2
        cases b2 with
        | false =>
          clear hp2 hb2
          go_wp2_with fail
          go_ret
          exact ⟨_, rfl, fun e => Bool.noConfusion e, B2.out⟩
        | true =>
          have P2 := Lib.hid (hp2 rfl)
          clear hp2 hb2
          go_wp2_with fail
          go_ret
          exact ⟨_, rfl, fun _ => unary_fine (by rw [E.out]; decide) P1.out KE.out P2.out, B2.out⟩
    · go_enter Tryz.func45, Tryz.ntmps45
      go_wp2_with fail
      refine (PLHN.out _ B.out).mono ?_
      rintro e w1 ⟨b1, rfl, hp1, hb1⟩
      have B1 := Lib.hid (B.out.trans (hb1.mono B.out.size))
      cases b1 with
      | true => exact (hl2 (hp1 rfl).2.2).elim
      | false =>
        clear hp1 hb1
        go_wp2_with fail
        go_ret
        exact ⟨_, rfl, fun e => Bool.noConfusion e, B1.out⟩

set_option maxRecDepth 100000 in
set_option maxHeartbeats 1000000 in
theorem typeImaginaryType (d : Nat) (H : ∀ e, e < d → Known e) (t : Tree) (kv : Value) (w : World) (h : In w d t kv) (e1 : t.kind = kImaginaryType) :
    Calls Tryz.prog 45 #[.agg #[.string t.kind, .string t.text, .int .i64 t.num, kv]] w (Ans w (Fine d t)) := by
  cases d with
  | zero => exact h.kids.elim
  | succ d =>
    have HI := Lib.hid h
    obtain ⟨hk, ht, hwf, a, c, rfl, hl, hc, hkids⟩ := h.kids
    have HK := Lib.hid hkids
    have B := Lib.hid (below1 w (.cells #[.string t.kind, .string t.text, .int .i64 t.num, .slice a t.kids.length c] 24))
    have PL : ∀ w1 n, Below w.heap.size w w1 → Calls Tryz.prog 21 #[.agg #[.string t.kind, .string t.text, .int .i64 t.num, .slice a t.kids.length c], .int .i64 (n : Nat)] w1 (Ans w1 (PlainT t n)) := fun w1 n hb => plainC t _ n (d + 1) _ (h.kids.below hb)
    have PLH := Lib.hid PL
    clear hkids PL
    have PLHN : Hid (∀ w1, Below w.heap.size w w1 → Calls Tryz.prog 21 #[.agg #[.string t.kind, .string t.text, .int .i64 t.num, .slice a t.kids.length c], .int .i64 1] w1 (Ans w1 (PlainT t 1))) := fun w1 hb => PLH.out w1 1 hb
    have HC := Lib.hid (isFloatingC d (H d (by omega)).typ)
    have k0 := kind_ne (a := t.kind) kName (by rw [e1]; decide) (l := [78, 97, 109, 101]) rfl
    have k1 := kind_ne (a := t.kind) kTaggedName (by rw [e1]; decide) (l := [84, 97, 103, 103, 101, 100, 78, 97, 109, 101]) rfl
    have k2 := kind_ne (a := t.kind) kQualified (by rw [e1]; decide) (l := [81, 117, 97, 108, 105, 102, 105, 101, 100]) rfl
    have k3 := kind_ne (a := t.kind) kTemplate (by rw [e1]; decide) (l := [84, 101, 109, 112, 108, 97, 116, 101]) rfl
    have k4 := kind_ne (a := t.kind) kBuiltinType (by rw [e1]; decide) (l := [66, 117, 105, 108, 116, 105, 110, 84, 121, 112, 101]) rfl
    have k5 := kind_ne (a := t.kind) kPointerType (by rw [e1]; decide) (l := [80, 111, 105, 110, 116, 101, 114, 84, 121, 112, 101]) rfl
    have k6 := kind_ne (a := t.kind) kReferenceType (by rw [e1]; decide) (l := [82, 101, 102, 101, 114, 101, 110, 99, 101, 84, 121, 112, 101]) rfl
    have k7 := kind_ne (a := t.kind) kRvalueReferenceType (by rw [e1]; decide) (l := [82, 118, 97, 108, 117, 101, 82, 101, 102, 101, 114, 101, 110, 99, 101, 84, 121, 112, 101]) rfl
    have k8 := kind_ne (a := t.kind) kTypeWithQualifiers (by rw [e1]; decide) (l := [84, 121, 112, 101, 87, 105, 116, 104, 81, 117, 97, 108, 105, 102, 105, 101, 114, 115]) rfl
    have k9 := kind_ne (a := t.kind) kComplexType (by rw [e1]; decide) (l := [67, 111, 109, 112, 108, 101, 120, 84, 121, 112, 101]) rfl
    have k10 := kind_is (a := t.kind) kImaginaryType e1 (l := [73, 109, 97, 103, 105, 110, 97, 114, 121, 84, 121, 112, 101]) rfl
    have E := Lib.hid e1
    clear e1 H h
    by_cases hl2 : t.kids.length = 1
    · have HL2 := Lib.hid hl2
      obtain ⟨x, b, o, xa, xc, hx0, _, rfl, hbl, ⟨x0, x1, x2, x3⟩, KX⟩ := kid0 HK.out (by omega)
      obtain ⟨x', ek⟩ := one_of_len hl2
      obtain rfl : x' = x := by rw [ek] at hx0; simpa using hx0
      have KE := Lib.hid ek
      have HX := Lib.hid KX
      have hlen : 0 < t.kids.length := by omega
      clear KX ek hx0 hl2
      go_enter Tryz.func45, Tryz.ntmps45
      go_wp2_with fail
      refine (PLHN.out _ B.out).mono ?_
      rintro e w1 ⟨b1, rfl, hp1, hb1⟩
      have B1 := Lib.hid (B.out.trans (hb1.mono B.out.size))
      have z1 : w.heap.size < w1.heap.size := by have := hb1.size; simp at this; omega
      have q1 : b < w1.heap.size := by omega
      obtain ⟨hc1, hf1⟩ := bcell hb1
      cases b1 with
      | false =>
        clear hp1 hb1
        go_wp2_with fail
        go_ret
        exact ⟨_, rfl, fun e => Bool.noConfusion e, B1.out⟩
      | true =>
        have P1 := Lib.hid (hp1 rfl)
        clear hp1 hb1
        go_wp2_with fail
        refine (HC.out x' _ _ ⟨HI.out.tabs.below B1.out, HX.out.below B1.out⟩).mono ?_
        rintro e w2 ⟨b2, rfl, hp2, hb2⟩
        have B2 := Lib.hid (B1.out.trans (hb2.mono B1.out.size))
        have z2 : w.heap.size < w2.heap.size := by have := hb2.size; omega
        have q2 : b < w2.heap.size := by omega
        obtain ⟨hc2, hf2⟩ := bcell hb2
        cases b2 with
        | false =>
          clear hp2 hb2
          go_wp2_with fail
          go_ret
          exact ⟨_, rfl, fun e => Bool.noConfusion e, B2.out⟩
        | true =>
          have P2 := Lib.hid (hp2 rfl)
          clear hp2 hb2
          go_wp2_with fail
          go_ret
          exact ⟨_, rfl, fun _ => unary_fine (by rw [E.out]; decide) P1.out KE.out P2.out, B2.out⟩
    · go_enter Tryz.func45, Tryz.ntmps45
      go_wp2_with fail
      refine (PLHN.out _ B.out).mono ?_
      rintro e w1 ⟨b1, rfl, hp1, hb1⟩
      have B1 := Lib.hid (B.out.trans (hb1.mono B.out.size))
      cases b1 with
      | true => exact (hl2 (hp1 rfl).2.2).elim
      | false =>
        clear hp1 hb1
        go_wp2_with fail
        go_ret
        exact ⟨_, rfl, fun e => Bool.noConfusion e, B1.out⟩

set_option maxRecDepth 100000 in
set_option maxHeartbeats 1000000 in
theorem typeArrayType (d : Nat) (H : ∀ e, e < d → Known e) (t : Tree) (kv : Value) (w : World) (h : In w d t kv) (e1 : t.kind = kArrayType) :
    Calls Tryz.prog 45 #[.agg #[.string t.kind, .string t.text, .int .i64 t.num, kv]] w (Ans w (Fine d t)) := by
  cases d with
  | zero => exact h.kids.elim
  | succ d =>
    have HI := Lib.hid h
    obtain ⟨hk, ht, hwf, a, c, rfl, hl, hc, hkids⟩ := h.kids
    have HK := Lib.hid hkids
    have B := Lib.hid (below1 w (.cells #[.string t.kind, .string t.text, .int .i64 t.num, .slice a t.kids.length c] 24))
    have PL : ∀ w1 n, Below w.heap.size w w1 → Calls Tryz.prog 21 #[.agg #[.string t.kind, .string t.text, .int .i64 t.num, .slice a t.kids.length c], .int .i64 (n : Nat)] w1 (Ans w1 (PlainT t n)) := fun w1 n hb => plainC t _ n (d + 1) _ (h.kids.below hb)
    have PLH := Lib.hid PL
    clear hkids PL
    have PLHN : Hid (∀ w1, Below w.heap.size w w1 → Calls Tryz.prog 21 #[.agg #[.string t.kind, .string t.text, .int .i64 t.num, .slice a t.kids.length c], .int .i64 2] w1 (Ans w1 (PlainT t 2))) := fun w1 hb => PLH.out w1 2 hb
    have HO := Lib.hid (isObjectC d (H d (by omega)).typ)
    have k0 := kind_ne (a := t.kind) kName (by rw [e1]; decide) (l := [78, 97, 109, 101]) rfl
    have k1 := kind_ne (a := t.kind) kTaggedName (by rw [e1]; decide) (l := [84, 97, 103, 103, 101, 100, 78, 97, 109, 101]) rfl
    have k2 := kind_ne (a := t.kind) kQualified (by rw [e1]; decide) (l := [81, 117, 97, 108, 105, 102, 105, 101, 100]) rfl
    have k3 := kind_ne (a := t.kind) kTemplate (by rw [e1]; decide) (l := [84, 101, 109, 112, 108, 97, 116, 101]) rfl
    have k4 := kind_ne (a := t.kind) kBuiltinType (by rw [e1]; decide) (l := [66, 117, 105, 108, 116, 105, 110, 84, 121, 112, 101]) rfl
    have k5 := kind_ne (a := t.kind) kPointerType (by rw [e1]; decide) (l := [80, 111, 105, 110, 116, 101, 114, 84, 121, 112, 101]) rfl
    have k6 := kind_ne (a := t.kind) kReferenceType (by rw [e1]; decide) (l := [82, 101, 102, 101, 114, 101, 110, 99, 101, 84, 121, 112, 101]) rfl
    have k7 := kind_ne (a := t.kind) kRvalueReferenceType (by rw [e1]; decide) (l := [82, 118, 97, 108, 117, 101, 82, 101, 102, 101, 114, 101, 110, 99, 101, 84, 121, 112, 101]) rfl
    have k8 := kind_ne (a := t.kind) kTypeWithQualifiers (by rw [e1]; decide) (l := [84, 121, 112, 101, 87, 105, 116, 104, 81, 117, 97, 108, 105, 102, 105, 101, 114, 115]) rfl
    have k9 := kind_ne (a := t.kind) kComplexType (by rw [e1]; decide) (l := [67, 111, 109, 112, 108, 101, 120, 84, 121, 112, 101]) rfl
    have k10 := kind_ne (a := t.kind) kImaginaryType (by rw [e1]; decide) (l := [73, 109, 97, 103, 105, 110, 97, 114, 121, 84, 121, 112, 101]) rfl
    have k11 := kind_ne (a := t.kind) kFunctionType (by rw [e1]; decide) (l := [70, 117, 110, 99, 116, 105, 111, 110, 84, 121, 112, 101]) rfl
    have k12 := kind_is (a := t.kind) kArrayType e1 (l := [65, 114, 114, 97, 121, 84, 121, 112, 101]) rfl
    have E := Lib.hid e1
    clear e1 H h
    by_cases hl2 : t.kids.length = 2
    · have HL2 := Lib.hid hl2
      obtain ⟨x, y, b, o, kx, ky, KE, rfl, hbl, hlen, ⟨x0, x1, x2, x3⟩, ⟨y0, y1, y2, y3⟩, KX, KY⟩ := kids2 HK.out hl2
      have HX := Lib.hid KX
      have HY := Lib.hid KY
      clear KX KY hl2
      go_enter Tryz.func45, Tryz.ntmps45
      go_wp2_with fail
      refine (PLHN.out _ B.out).mono ?_
      rintro e w1 ⟨b1, rfl, hp1, hb1⟩
      have B1 := Lib.hid (B.out.trans (hb1.mono B.out.size))
      have z1 : w.heap.size < w1.heap.size := by have := hb1.size; simp at this; omega
      have q1 : b < w1.heap.size := by omega
      obtain ⟨hc1, hf1⟩ := bcell hb1
      cases b1 with
      | false =>
        clear hp1 hb1
        go_wp2_with fail
        go_ret
        exact ⟨_, rfl, fun e => Bool.noConfusion e, B1.out⟩
      | true =>
        have P1 := Lib.hid (hp1 rfl)
        clear hp1 hb1
        go_wp2_with fail
        refine (isNumberC x kx d _ (HX.out.below B1.out)).mono ?_
        rintro e w2 ⟨b2, rfl, hp2, hb2⟩
        have B2 := Lib.hid (B1.out.trans (hb2.mono B1.out.size))
        have z2 : w.heap.size < w2.heap.size := by have := hb2.size; omega
        have q2 : b < w2.heap.size := by omega
        obtain ⟨hc2, hf2⟩ := bcell hb2
        cases b2 with
        | false =>
          clear hp2 hb2
          go_wp2_with fail
          go_ret
          exact ⟨_, rfl, fun e => Bool.noConfusion e, B2.out⟩
        | true =>
          have P2 := Lib.hid (hp2 rfl)
          clear hp2 hb2
          go_wp2_with fail
          refine (HO.out y ky _ ⟨HI.out.tabs.below B2.out, HY.out.below B2.out⟩).mono ?_
          rintro e w3 ⟨b3, rfl, hp3, hb3⟩
          have B3 := Lib.hid (B2.out.trans (hb3.mono B2.out.size))
          have z3 : w.heap.size < w3.heap.size := by have := hb3.size; omega
          have q3 : b < w3.heap.size := by omega
          obtain ⟨hc3, hf3⟩ := bcell hb3
          cases b3 with
          | false =>
            clear hp3 hb3
            go_wp2_with fail
            go_ret
            exact ⟨_, rfl, fun e => Bool.noConfusion e, B3.out⟩
          | true =>
            have P3 := Lib.hid (hp3 rfl)
            clear hp3 hb3
            go_wp2_with fail
            go_ret
            exact ⟨_, rfl, fun _ => binary_fine (by rw [E.out]; decide) P1.out KE.out (leaf_fine HX.out P2.out (by decide)) P3.out, B3.out⟩
    · go_enter Tryz.func45, Tryz.ntmps45
      go_wp2_with fail
      refine (PLHN.out _ B.out).mono ?_
      rintro e w1 ⟨b1, rfl, hp1, hb1⟩
      have B1 := Lib.hid (B.out.trans (hb1.mono B.out.size))
      cases b1 with
      | true => exact (hl2 (hp1 rfl).2.2).elim
      | false =>
        clear hp1 hb1
        go_wp2_with fail
        go_ret
        exact ⟨_, rfl, fun e => Bool.noConfusion e, B1.out⟩

set_option maxRecDepth 100000 in
set_option maxHeartbeats 1000000 in
theorem typePtrMem (d : Nat) (H : ∀ e, e < d → Known e) (t : Tree) (kv : Value) (w : World) (h : In w d t kv) (e1 : t.kind = kPtrMem) :
    Calls Tryz.prog 45 #[.agg #[.string t.kind, .string t.text, .int .i64 t.num, kv]] w (Ans w (Fine d t)) := by
  cases d with
  | zero => exact h.kids.elim
  | succ d =>
    have HI := Lib.hid h
    obtain ⟨hk, ht, hwf, a, c, rfl, hl, hc, hkids⟩ := h.kids
    have HK := Lib.hid hkids
    have B := Lib.hid (below1 w (.cells #[.string t.kind, .string t.text, .int .i64 t.num, .slice a t.kids.length c] 24))
    have PL : ∀ w1 n, Below w.heap.size w w1 → Calls Tryz.prog 21 #[.agg #[.string t.kind, .string t.text, .int .i64 t.num, .slice a t.kids.length c], .int .i64 (n : Nat)] w1 (Ans w1 (PlainT t n)) := fun w1 n hb => plainC t _ n (d + 1) _ (h.kids.below hb)
    have PLH := Lib.hid PL
    clear hkids PL
    have PLHN : Hid (∀ w1, Below w.heap.size w w1 → Calls Tryz.prog 21 #[.agg #[.string t.kind, .string t.text, .int .i64 t.num, .slice a t.kids.length c], .int .i64 2] w1 (Ans w1 (PlainT t 2))) := fun w1 hb => PLH.out w1 2 hb
    have HC := Lib.hid (H d (by omega)).cls
    have HM := Lib.hid (isMemberC d (fun e he => H e (by omega)))
    have k0 := kind_ne (a := t.kind) kName (by rw [e1]; decide) (l := [78, 97, 109, 101]) rfl
    have k1 := kind_ne (a := t.kind) kTaggedName (by rw [e1]; decide) (l := [84, 97, 103, 103, 101, 100, 78, 97, 109, 101]) rfl
    have k2 := kind_ne (a := t.kind) kQualified (by rw [e1]; decide) (l := [81, 117, 97, 108, 105, 102, 105, 101, 100]) rfl
    have k3 := kind_ne (a := t.kind) kTemplate (by rw [e1]; decide) (l := [84, 101, 109, 112, 108, 97, 116, 101]) rfl
    have k4 := kind_ne (a := t.kind) kBuiltinType (by rw [e1]; decide) (l := [66, 117, 105, 108, 116, 105, 110, 84, 121, 112, 101]) rfl
    have k5 := kind_ne (a := t.kind) kPointerType (by rw [e1]; decide) (l := [80, 111, 105, 110, 116, 101, 114, 84, 121, 112, 101]) rfl
    have k6 := kind_ne (a := t.kind) kReferenceType (by rw [e1]; decide) (l := [82, 101, 102, 101, 114, 101, 110, 99, 101, 84, 121, 112, 101]) rfl
    have k7 := kind_ne (a := t.kind) kRvalueReferenceType (by rw [e1]; decide) (l := [82, 118, 97, 108, 117, 101, 82, 101, 102, 101, 114, 101, 110, 99, 101, 84, 121, 112, 101]) rfl
    have k8 := kind_ne (a := t.kind) kTypeWithQualifiers (by rw [e1]; decide) (l := [84, 121, 112, 101, 87, 105, 116, 104, 81, 117, 97, 108, 105, 102, 105, 101, 114, 115]) rfl
    have k9 := kind_ne (a := t.kind) kComplexType (by rw [e1]; decide) (l := [67, 111, 109, 112, 108, 101, 120, 84, 121, 112, 101]) rfl
    have k10 := kind_ne (a := t.kind) kImaginaryType (by rw [e1]; decide) (l := [73, 109, 97, 103, 105, 110, 97, 114, 121, 84, 121, 112, 101]) rfl
    have k11 := kind_ne (a := t.kind) kFunctionType (by rw [e1]; decide) (l := [70, 117, 110, 99, 116, 105, 111, 110, 84, 121, 112, 101]) rfl
    have k12 := kind_ne (a := t.kind) kArrayType (by rw [e1]; decide) (l := [65, 114, 114, 97, 121, 84, 121, 112, 101]) rfl
    have k13 := kind_is (a := t.kind) kPtrMem e1 (l := [80, 116, 114, 77, 101, 109]) rfl
    have E := Lib.hid e1
    clear e1 H h
    by_cases hl2 : t.kids.length = 2
    · have HL2 := Lib.hid hl2
      obtain ⟨x, y, b, o, kx, ky, KE, rfl, hbl, hlen, ⟨x0, x1, x2, x3⟩, ⟨y0, y1, y2, y3⟩, KX, KY⟩ := kids2 HK.out hl2
      have HX := Lib.hid KX
      have HY := Lib.hid KY
      clear KX KY hl2
      go_enter Tryz.func45, Tryz.ntmps45
      go_wp2_with fail
      refine (PLHN.out _ B.out).mono ?_
      rintro e w1 ⟨b1, rfl, hp1, hb1⟩
      have B1 := Lib.hid (B.out.trans (hb1.mono B.out.size))
      have z1 : w.heap.size < w1.heap.size := by have := hb1.size; simp at this; omega
      have q1 : b < w1.heap.size := by omega
      obtain ⟨hc1, hf1⟩ := bcell hb1
      cases b1 with
      | false =>
        clear hp1 hb1
        go_wp2_with fail
        go_ret
        exact ⟨_, rfl, fun e => Bool.noConfusion e, B1.out⟩
      | true =>
        have P1 := Lib.hid (hp1 rfl)
        clear hp1 hb1
        go_wp2_with fail
        refine (HC.out x kx _ ⟨HI.out.tabs.below B1.out, HX.out.below B1.out⟩).mono ?_
        rintro e w2 ⟨b2, rfl, hp2, hb2⟩
        have B2 := Lib.hid (B1.out.trans (hb2.mono B1.out.size))
        have z2 : w.heap.size < w2.heap.size := by have := hb2.size; omega
        have q2 : b < w2.heap.size := by omega
        obtain ⟨hc2, hf2⟩ := bcell hb2
        cases b2 with
        | false =>
          clear hp2 hb2
          go_wp2_with fail
          go_ret
          exact ⟨_, rfl, fun e => Bool.noConfusion e, B2.out⟩
        | true =>
          have P2 := Lib.hid (hp2 rfl)
          clear hp2 hb2
          go_wp2_with fail
          refine (HM.out y ky _ ⟨HI.out.tabs.below B2.out, HY.out.below B2.out⟩).mono ?_
          rintro e w3 ⟨b3, rfl, hp3, hb3⟩
          have B3 := Lib.hid (B2.out.trans (hb3.mono B2.out.size))
          have z3 : w.heap.size < w3.heap.size := by have := hb3.size; omega
          have q3 : b < w3.heap.size := by omega
          obtain ⟨hc3, hf3⟩ := bcell hb3
          cases b3 with
          | false =>
            clear hp3 hb3
            go_wp2_with fail
            go_ret
            exact ⟨_, rfl, fun e => Bool.noConfusion e, B3.out⟩
          | true =>
            have P3 := Lib.hid (hp3 rfl)
            clear hp3 hb3
            go_wp2_with fail
            go_ret
            exact ⟨_, rfl, fun _ => binary_fine (by rw [E.out]; decide) P1.out KE.out P2.out P3.out, B3.out⟩
    · go_enter Tryz.func45, Tryz.ntmps45
      go_wp2_with fail
      refine (PLHN.out _ B.out).mono ?_
      rintro e w1 ⟨b1, rfl, hp1, hb1⟩
      have B1 := Lib.hid (B.out.trans (hb1.mono B.out.size))
      cases b1 with
      | true => exact (hl2 (hp1 rfl).2.2).elim
      | false =>
        clear hp1 hb1
        go_wp2_with fail
        go_ret
        exact ⟨_, rfl, fun e => Bool.noConfusion e, B1.out⟩

set_option maxRecDepth 100000 in
set_option maxHeartbeats 1000000 in
theorem typeVectorType (d : Nat) (H : ∀ e, e < d → Known e) (t : Tree) (kv : Value) (w : World) (h : In w d t kv) (e1 : t.kind = kVectorType) :
    Calls Tryz.prog 45 #[.agg #[.string t.kind, .string t.text, .int .i64 t.num, kv]] w (Ans w (Fine d t)) := by
  cases d with
  | zero => exact h.kids.elim
  | succ d =>
    have HI := Lib.hid h
    obtain ⟨hk, ht, hwf, a, c, rfl, hl, hc, hkids⟩ := h.kids
    have HK := Lib.hid hkids
    have B := Lib.hid (below1 w (.cells #[.string t.kind, .string t.text, .int .i64 t.num, .slice a t.kids.length c] 24))
    have PL : ∀ w1 n, Below w.heap.size w w1 → Calls Tryz.prog 21 #[.agg #[.string t.kind, .string t.text, .int .i64 t.num, .slice a t.kids.length c], .int .i64 (n : Nat)] w1 (Ans w1 (PlainT t n)) := fun w1 n hb => plainC t _ n (d + 1) _ (h.kids.below hb)
    have PLH := Lib.hid PL
    clear hkids PL
    have PLHN : Hid (∀ w1, Below w.heap.size w w1 → Calls Tryz.prog 21 #[.agg #[.string t.kind, .string t.text, .int .i64 t.num, .slice a t.kids.length c], .int .i64 2] w1 (Ans w1 (PlainT t 2))) := fun w1 hb => PLH.out w1 2 hb
    have HO := Lib.hid (isObjectC d (H d (by omega)).typ)
    have k0 := kind_ne (a := t.kind) kName (by rw [e1]; decide) (l := [78, 97, 109, 101]) rfl
    have k1 := kind_ne (a := t.kind) kTaggedName (by rw [e1]; decide) (l := [84, 97, 103, 103, 101, 100, 78, 97, 109, 101]) rfl
    have k2 := kind_ne (a := t.kind) kQualified (by rw [e1]; decide) (l := [81, 117, 97, 108, 105, 102, 105, 101, 100]) rfl
    have k3 := kind_ne (a := t.kind) kTemplate (by rw [e1]; decide) (l := [84, 101, 109, 112, 108, 97, 116, 101]) rfl
    have k4 := kind_ne (a := t.kind) kBuiltinType (by rw [e1]; decide) (l := [66, 117, 105, 108, 116, 105, 110, 84, 121, 112, 101]) rfl
    have k5 := kind_ne (a := t.kind) kPointerType (by rw [e1]; decide) (l := [80, 111, 105, 110, 116, 101, 114, 84, 121, 112, 101]) rfl
    have k6 := kind_ne (a := t.kind) kReferenceType (by rw [e1]; decide) (l := [82, 101, 102, 101, 114, 101, 110, 99, 101, 84, 121, 112, 101]) rfl
    have k7 := kind_ne (a := t.kind) kRvalueReferenceType (by rw [e1]; decide) (l := [82, 118, 97, 108, 117, 101, 82, 101, 102, 101, 114, 101, 110, 99, 101, 84, 121, 112, 101]) rfl
    have k8 := kind_ne (a := t.kind) kTypeWithQualifiers (by rw [e1]; decide) (l := [84, 121, 112, 101, 87, 105, 116, 104, 81, 117, 97, 108, 105, 102, 105, 101, 114, 115]) rfl
    have k9 := kind_ne (a := t.kind) kComplexType (by rw [e1]; decide) (l := [67, 111, 109, 112, 108, 101, 120, 84, 121, 112, 101]) rfl
    have k10 := kind_ne (a := t.kind) kImaginaryType (by rw [e1]; decide) (l := [73, 109, 97, 103, 105, 110, 97, 114, 121, 84, 121, 112, 101]) rfl
    have k11 := kind_ne (a := t.kind) kFunctionType (by rw [e1]; decide) (l := [70, 117, 110, 99, 116, 105, 111, 110, 84, 121, 112, 101]) rfl
    have k12 := kind_ne (a := t.kind) kArrayType (by rw [e1]; decide) (l := [65, 114, 114, 97, 121, 84, 121, 112, 101]) rfl
    have k13 := kind_ne (a := t.kind) kPtrMem (by rw [e1]; decide) (l := [80, 116, 114, 77, 101, 109]) rfl
    have k14 := kind_is (a := t.kind) kVectorType e1 (l := [86, 101, 99, 116, 111, 114, 84, 121, 112, 101]) rfl
    have E := Lib.hid e1
    clear e1 H h
    by_cases hl2 : t.kids.length = 2
    · have HL2 := Lib.hid hl2
      obtain ⟨x, y, b, o, kx, ky, KE, rfl, hbl, hlen, ⟨x0, x1, x2, x3⟩, ⟨y0, y1, y2, y3⟩, KX, KY⟩ := kids2 HK.out hl2
      have HX := Lib.hid KX
      have HY := Lib.hid KY
      clear KX KY hl2
      cases hyb : (y.kind.toList == [66, 117, 105, 108, 116, 105, 110, 84, 121, 112, 101]) with
      | true =>
        go_enter Tryz.func45, Tryz.ntmps45
        go_wp2_with fail
        refine (PLHN.out _ B.out).mono ?_
        rintro e w1 ⟨b1, rfl, hp1, hb1⟩
        have B1 := Lib.hid (B.out.trans (hb1.mono B.out.size))
        have z1 : w.heap.size < w1.heap.size := by have := hb1.size; simp at this; omega
        have q1 : b < w1.heap.size := by omega
        obtain ⟨hc1, hf1⟩ := bcell hb1
        cases b1 with
        | false =>
          clear hp1 hb1
          go_wp2_with fail
          go_ret
          exact ⟨_, rfl, fun e => Bool.noConfusion e, B1.out⟩
        | true =>
          have P1 := Lib.hid (hp1 rfl)
          clear hp1 hb1
          go_wp2_with fail
          refine (isNumberC x kx d _ (HX.out.below B1.out)).mono ?_
          rintro e w2 ⟨b2, rfl, hp2, hb2⟩
          have B2 := Lib.hid (B1.out.trans (hb2.mono B1.out.size))
          have z2 : w.heap.size < w2.heap.size := by have := hb2.size; omega
          have q2 : b < w2.heap.size := by omega
          obtain ⟨hc2, hf2⟩ := bcell hb2
          cases b2 with
          | false =>
            clear hp2 hb2
            go_wp2_with fail
            go_ret
            exact ⟨_, rfl, fun e => Bool.noConfusion e, B2.out⟩
          | true =>
            have P2 := Lib.hid (hp2 rfl)
            clear hp2 hb2
            go_wp2_with fail
            refine (HO.out y ky _ ⟨HI.out.tabs.below B2.out, HY.out.below B2.out⟩).mono ?_
            rintro e w3 ⟨b3, rfl, hp3, hb3⟩
            have B3 := Lib.hid (B2.out.trans (hb3.mono B2.out.size))
            have z3 : w.heap.size < w3.heap.size := by have := hb3.size; omega
            have q3 : b < w3.heap.size := by omega
            obtain ⟨hc3, hf3⟩ := bcell hb3
            cases b3 with
            | false =>
              clear hp3 hb3
              go_wp2_with fail
              go_ret
              exact ⟨_, rfl, fun e => Bool.noConfusion e, B3.out⟩
            | true =>
              have P3 := Lib.hid (hp3 rfl)
              clear hp3 hb3
              go_wp2_with fail
              go_ret
              exact ⟨_, rfl, fun _ => binary_fine (by rw [E.out]; decide) P1.out KE.out (leaf_fine HX.out P2.out (by decide)) P3.out, B3.out⟩
      | false =>
        go_enter Tryz.func45, Tryz.ntmps45
        go_wp2_with fail
        refine (PLHN.out _ B.out).mono ?_
        rintro e w1 ⟨b1, rfl, hp1, hb1⟩
        have B1 := Lib.hid (B.out.trans (hb1.mono B.out.size))
        have z1 : w.heap.size < w1.heap.size := by have := hb1.size; simp at this; omega
        have q1 : b < w1.heap.size := by omega
        obtain ⟨hc1, hf1⟩ := bcell hb1
        cases b1 with
        | false =>
          clear hp1 hb1
          go_wp2_with fail
          go_ret
          exact ⟨_, rfl, fun e => Bool.noConfusion e, B1.out⟩
        | true =>
          have P1 := Lib.hid (hp1 rfl)
          clear hp1 hb1
          go_wp2_with fail
          refine (isNumberC x kx d _ (HX.out.below B1.out)).mono ?_
          rintro e w2 ⟨b2, rfl, hp2, hb2⟩
          have B2 := Lib.hid (B1.out.trans (hb2.mono B1.out.size))
          have z2 : w.heap.size < w2.heap.size := by have := hb2.size; omega
          have q2 : b < w2.heap.size := by omega
          obtain ⟨hc2, hf2⟩ := bcell hb2
          cases b2 with
          | false =>
            clear hp2 hb2
            go_wp2_with fail
            go_ret
            exact ⟨_, rfl, fun e => Bool.noConfusion e, B2.out⟩
          | true =>
            have P2 := Lib.hid (hp2 rfl)
            clear hp2 hb2
            go_wp2_with fail
            go_ret
            exact ⟨_, rfl, fun e => Bool.noConfusion e, B2.out⟩
    · go_enter Tryz.func45, Tryz.ntmps45
      go_wp2_with fail
      refine (PLHN.out _ B.out).mono ?_
      rintro e w1 ⟨b1, rfl, hp1, hb1⟩
      have B1 := Lib.hid (B.out.trans (hb1.mono B.out.size))
      cases b1 with
      | true => exact (hl2 (hp1 rfl).2.2).elim
      | false =>
        clear hp1 hb1
        go_wp2_with fail
        go_ret
        exact ⟨_, rfl, fun e => Bool.noConfusion e, B1.out⟩

set_option maxRecDepth 100000 in
set_option maxHeartbeats 1000000 in
theorem typeVendorQualifier (d : Nat) (H : ∀ e, e < d → Known e) (t : Tree) (kv : Value) (w : World) (h : In w d t kv) (e1 : t.kind = kVendorQualifier) :
    Calls Tryz.prog 45 #[.agg #[.string t.kind, .string t.text, .int .i64 t.num, kv]] w (Ans w (Fine d t)) := by
  cases d with
  | zero => exact h.kids.elim
  | succ d =>
    have HI := Lib.hid h
    obtain ⟨hk, ht, hwf, a, c, rfl, hl, hc, hkids⟩ := h.kids
    have HK := Lib.hid hkids
    have B := Lib.hid (below1 w (.cells #[.string t.kind, .string t.text, .int .i64 t.num, .slice a t.kids.length c] 24))
    have PL : ∀ w1 n, Below w.heap.size w w1 → Calls Tryz.prog 21 #[.agg #[.string t.kind, .string t.text, .int .i64 t.num, .slice a t.kids.length c], .int .i64 (n : Nat)] w1 (Ans w1 (PlainT t n)) := fun w1 n hb => plainC t _ n (d + 1) _ (h.kids.below hb)
    have PLH := Lib.hid PL
    clear hkids PL
    have PLHN : Hid (∀ w1, Below w.heap.size w w1 → Calls Tryz.prog 21 #[.agg #[.string t.kind, .string t.text, .int .i64 t.num, .slice a t.kids.length c], .int .i64 2] w1 (Ans w1 (PlainT t 2))) := fun w1 hb => PLH.out w1 2 hb
    have HO := Lib.hid (isObjectC d (H d (by omega)).typ)
    have HC := Lib.hid (H d (by omega)).cls
    have k0 := kind_ne (a := t.kind) kName (by rw [e1]; decide) (l := [78, 97, 109, 101]) rfl
    have k1 := kind_ne (a := t.kind) kTaggedName (by rw [e1]; decide) (l := [84, 97, 103, 103, 101, 100, 78, 97, 109, 101]) rfl
    have k2 := kind_ne (a := t.kind) kQualified (by rw [e1]; decide) (l := [81, 117, 97, 108, 105, 102, 105, 101, 100]) rfl
    have k3 := kind_ne (a := t.kind) kTemplate (by rw [e1]; decide) (l := [84, 101, 109, 112, 108, 97, 116, 101]) rfl
    have k4 := kind_ne (a := t.kind) kBuiltinType (by rw [e1]; decide) (l := [66, 117, 105, 108, 116, 105, 110, 84, 121, 112, 101]) rfl
    have k5 := kind_ne (a := t.kind) kPointerType (by rw [e1]; decide) (l := [80, 111, 105, 110, 116, 101, 114, 84, 121, 112, 101]) rfl
    have k6 := kind_ne (a := t.kind) kReferenceType (by rw [e1]; decide) (l := [82, 101, 102, 101, 114, 101, 110, 99, 101, 84, 121, 112, 101]) rfl
    have k7 := kind_ne (a := t.kind) kRvalueReferenceType (by rw [e1]; decide) (l := [82, 118, 97, 108, 117, 101, 82, 101, 102, 101, 114, 101, 110, 99, 101, 84, 121, 112, 101]) rfl
    have k8 := kind_ne (a := t.kind) kTypeWithQualifiers (by rw [e1]; decide) (l := [84, 121, 112, 101, 87, 105, 116, 104, 81, 117, 97, 108, 105, 102, 105, 101, 114, 115]) rfl
    have k9 := kind_ne (a := t.kind) kComplexType (by rw [e1]; decide) (l := [67, 111, 109, 112, 108, 101, 120, 84, 121, 112, 101]) rfl
    have k10 := kind_ne (a := t.kind) kImaginaryType (by rw [e1]; decide) (l := [73, 109, 97, 103, 105, 110, 97, 114, 121, 84, 121, 112, 101]) rfl
    have k11 := kind_ne (a := t.kind) kFunctionType (by rw [e1]; decide) (l := [70, 117, 110, 99, 116, 105, 111, 110, 84, 121, 112, 101]) rfl
    have k12 := kind_ne (a := t.kind) kArrayType (by rw [e1]; decide) (l := [65, 114, 114, 97, 121, 84, 121, 112, 101]) rfl
    have k13 := kind_ne (a := t.kind) kPtrMem (by rw [e1]; decide) (l := [80, 116, 114, 77, 101, 109]) rfl
    have k14 := kind_ne (a := t.kind) kVectorType (by rw [e1]; decide) (l := [86, 101, 99, 116, 111, 114, 84, 121, 112, 101]) rfl
    have k15 := kind_is (a := t.kind) kVendorQualifier e1 (l := [86, 101, 110, 100, 111, 114, 81, 117, 97, 108, 105, 102, 105, 101, 114]) rfl
    have E := Lib.hid e1
    clear e1 H h
    by_cases hl2 : t.kids.length = 2
    · have HL2 := Lib.hid hl2
      obtain ⟨x, y, b, o, kx, ky, KE, rfl, hbl, hlen, ⟨x0, x1, x2, x3⟩, ⟨y0, y1, y2, y3⟩, KX, KY⟩ := kids2 HK.out hl2
      have HX := Lib.hid KX
      have HY := Lib.hid KY
      clear KX KY hl2
      cases hyb : (y.kind.toList == [66, 117, 105, 108, 116, 105, 110, 84, 121, 112, 101]) with
      | true =>
        go_enter Tryz.func45, Tryz.ntmps45
        go_wp2_with fail
        refine (PLHN.out _ B.out).mono ?_
        rintro e w1 ⟨b1, rfl, hp1, hb1⟩
        have B1 := Lib.hid (B.out.trans (hb1.mono B.out.size))
        have z1 : w.heap.size < w1.heap.size := by have := hb1.size; simp at this; omega
        have q1 : b < w1.heap.size := by omega
        obtain ⟨hc1, hf1⟩ := bcell hb1
        cases b1 with
        | false =>
          clear hp1 hb1
          go_wp2_with fail
          go_ret
          exact ⟨_, rfl, fun e => Bool.noConfusion e, B1.out⟩
        | true =>
          have P1 := Lib.hid (hp1 rfl)
          clear hp1 hb1
          go_wp2_with fail
          refine (isNameC x kx d _ (HX.out.below B1.out)).mono ?_
          rintro e w2 ⟨b2, rfl, hp2, hb2⟩
          have B2 := Lib.hid (B1.out.trans (hb2.mono B1.out.size))
          have z2 : w.heap.size < w2.heap.size := by have := hb2.size; omega
          have q2 : b < w2.heap.size := by omega
          obtain ⟨hc2, hf2⟩ := bcell hb2
          cases b2 with
          | false =>
            clear hp2 hb2
            go_wp2_with fail
            go_ret
            exact ⟨_, rfl, fun e => Bool.noConfusion e, B2.out⟩
          | true =>
            have P2 := Lib.hid (hp2 rfl)
            clear hp2 hb2
            go_wp2_with fail
            refine (HO.out y ky _ ⟨HI.out.tabs.below B2.out, HY.out.below B2.out⟩).mono ?_
            rintro e w3 ⟨b3, rfl, hp3, hb3⟩
            have B3 := Lib.hid (B2.out.trans (hb3.mono B2.out.size))
            have z3 : w.heap.size < w3.heap.size := by have := hb3.size; omega
            have q3 : b < w3.heap.size := by omega
            obtain ⟨hc3, hf3⟩ := bcell hb3
            cases b3 with
            | true =>
              have P3 := Lib.hid (hp3 rfl)
              clear hp3 hb3
              go_wp2_with fail
              go_ret
              exact ⟨_, rfl, fun _ => binary_fine (by rw [E.out]; decide) P1.out KE.out (leaf_fine HX.out P2.out (by decide)) P3.out, B3.out⟩
            | false =>
              clear hp3 hb3
              go_wp2_with fail
              refine (HC.out y ky _ ⟨HI.out.tabs.below B3.out, HY.out.below B3.out⟩).mono ?_
              rintro e w4 ⟨b4, rfl, hp4, hb4⟩
              have B4 := Lib.hid (B3.out.trans (hb4.mono B3.out.size))
              have z4 : w.heap.size < w4.heap.size := by have := hb4.size; omega
              have q4 : b < w4.heap.size := by omega
              obtain ⟨hc4, hf4⟩ := bcell hb4
              cases b4 with
              | false =>
                clear hp4 hb4
                go_wp2_with fail
                go_ret
                exact ⟨_, rfl, fun e => Bool.noConfusion e, B4.out⟩
              | true =>
                have P4 := Lib.hid (hp4 rfl)
                clear hp4 hb4
                go_wp2_with fail
                go_ret
                exact ⟨_, rfl, fun _ => binary_fine (by rw [E.out]; decide) P1.out KE.out (leaf_fine HX.out P2.out (by decide)) P4.out, B4.out⟩
      | false =>
        go_enter Tryz.func45, Tryz.ntmps45
        go_wp2_with fail
        refine (PLHN.out _ B.out).mono ?_
        rintro e w1 ⟨b1, rfl, hp1, hb1⟩
        have B1 := Lib.hid (B.out.trans (hb1.mono B.out.size))
        have z1 : w.heap.size < w1.heap.size := by have := hb1.size; simp at this; omega
        have q1 : b < w1.heap.size := by omega
        obtain ⟨hc1, hf1⟩ := bcell hb1
        cases b1 with
        | false =>
          clear hp1 hb1
          go_wp2_with fail
          go_ret
          exact ⟨_, rfl, fun e => Bool.noConfusion e, B1.out⟩
        | true =>
          have P1 := Lib.hid (hp1 rfl)
          clear hp1 hb1
          go_wp2_with fail
          refine (isNameC x kx d _ (HX.out.below B1.out)).mono ?_
          rintro e w2 ⟨b2, rfl, hp2, hb2⟩
          have B2 := Lib.hid (B1.out.trans (hb2.mono B1.out.size))
          have z2 : w.heap.size < w2.heap.size := by have := hb2.size; omega
          have q2 : b < w2.heap.size := by omega
          obtain ⟨hc2, hf2⟩ := bcell hb2
          cases b2 with
          | false =>
            clear hp2 hb2
            go_wp2_with fail
            go_ret
            exact ⟨_, rfl, fun e => Bool.noConfusion e, B2.out⟩
          | true =>
            have P2 := Lib.hid (hp2 rfl)
            clear hp2 hb2
            go_wp2_with fail
            refine (HC.out y ky _ ⟨HI.out.tabs.below B2.out, HY.out.below B2.out⟩).mono ?_
            rintro e w3 ⟨b3, rfl, hp3, hb3⟩
            have B3 := Lib.hid (B2.out.trans (hb3.mono B2.out.size))
            have z3 : w.heap.size < w3.heap.size := by have := hb3.size; omega
            have q3 : b < w3.heap.size := by omega
            obtain ⟨hc3, hf3⟩ := bcell hb3
            cases b3 with
            | false =>
              clear hp3 hb3
              go_wp2_with fail
              go_ret
              exact ⟨_, rfl, fun e => Bool.noConfusion e, B3.out⟩
            | true =>
              have P3 := Lib.hid (hp3 rfl)
              clear hp3 hb3
              go_wp2_with fail
              go_ret
              exact ⟨_, rfl, fun _ => binary_fine (by rw [E.out]; decide) P1.out KE.out (leaf_fine HX.out P2.out (by decide)) P3.out, B3.out⟩
    · go_enter Tryz.func45, Tryz.ntmps45
      go_wp2_with fail
      refine (PLHN.out _ B.out).mono ?_
      rintro e w1 ⟨b1, rfl, hp1, hb1⟩
      have B1 := Lib.hid (B.out.trans (hb1.mono B.out.size))
      cases b1 with
      | true => exact (hl2 (hp1 rfl).2.2).elim
      | false =>
        clear hp1 hb1
        go_wp2_with fail
        go_ret
        exact ⟨_, rfl, fun e => Bool.noConfusion e, B1.out⟩

end Go.Proofs.YtlfbmpenekiigaaGreatDoor
