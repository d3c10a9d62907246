/- IsClass: what it tells of a node when it is known for smaller ones; conditions: the node reads as a tree, the tables hold texts. -/
import Derived.Test.YtlfbmpenekiigaaGreatDoorSpecD
namespace Go.Proofs.YtlfbmpenekiigaaGreatDoor
open Go.ChangeShapes Go.WideShapes Go.ChangeAt Go.RowKit
set_option linter.unusedVariables false

set_option maxHeartbeats 1000000 in
theorem className (d : Nat) (H : ∀ e, e < d → Known e) (t : Tree) (kv : Value) (w : World) (h : In w d t kv) (e1 : t.kind = kName) :
    Calls Tryz.prog 14 #[.agg #[.string t.kind, .string t.text, .int .i64 t.num, kv]] w (Ans w (Fine d t)) := by
  cases d with
  | zero => exact h.kids.elim
  | succ d =>
    have HI := Lib.hid h
    obtain ⟨hk, ht, hwf, a, c, rfl, hl, hc, hkids⟩ := h.kids
    have HK := Lib.hid hkids
    have B := Lib.hid (below1 w (.cells #[.string t.kind, .string t.text, .int .i64 t.num, .slice a t.kids.length c] 24))
    have PL : ∀ w1 n, Below w.heap.size w w1 → Calls Tryz.prog 21 #[.agg #[.string t.kind, .string t.text, .int .i64 t.num, .slice a t.kids.length c], .int .i64 (n : Nat)] w1 (Ans w1 (PlainT t n)) := fun w1 n hb => plainC t _ n (d + 1) _ (h.kids.below hb)
    have PLH := Lib.hid PL
    clear hkids PL
    have k0 := kind_is (a := t.kind) kName e1 (l := [78, 97, 109, 101]) rfl
    clear e1 H h
    go_enter Tryz.func14, Tryz.ntmps14
    go_wp2_with fail
    refine (isTaggedC (d + 1) t _ _ (HI.out.kids.below B.out)).mono ?_
    rintro e w1 ⟨b1, rfl, hp1, hb1⟩
    have B1 := Lib.hid (B.out.trans (hb1.mono B.out.size))
    have z1 : w.heap.size < w1.heap.size := by have := hb1.size; simp at this; omega
    obtain ⟨hc1, hf1⟩ := bcell hb1
    cases b1 with
    | false =>
      clear hp1 hb1
      go_wp2_with fail
      go_ret
      exact ⟨_, rfl, fun e => Bool.noConfusion e, B1.out⟩
    | true =>
      have P1 := Lib.hid (hp1 rfl)
      clear hp1 hb1
      go_wp2_with fail
      go_ret
      exact ⟨_, rfl, fun _ => P1.out, B1.out⟩

set_option maxHeartbeats 1000000 in
theorem classTaggedName (d : Nat) (H : ∀ e, e < d → Known e) (t : Tree) (kv : Value) (w : World) (h : In w d t kv) (e1 : t.kind = kTaggedName) :
    Calls Tryz.prog 14 #[.agg #[.string t.kind, .string t.text, .int .i64 t.num, kv]] w (Ans w (Fine d t)) := by
  cases d with
  | zero => exact h.kids.elim
  | succ d =>
    have HI := Lib.hid h
    obtain ⟨hk, ht, hwf, a, c, rfl, hl, hc, hkids⟩ := h.kids
    have HK := Lib.hid hkids
    have B := Lib.hid (below1 w (.cells #[.string t.kind, .string t.text, .int .i64 t.num, .slice a t.kids.length c] 24))
    have PL : ∀ w1 n, Below w.heap.size w w1 → Calls Tryz.prog 21 #[.agg #[.string t.kind, .string t.text, .int .i64 t.num, .slice a t.kids.length c], .int .i64 (n : Nat)] w1 (Ans w1 (PlainT t n)) := fun w1 n hb => plainC t _ n (d + 1) _ (h.kids.below hb)
    have PLH := Lib.hid PL
    clear hkids PL
    have k0 := kind_ne (a := t.kind) kName (by rw [e1]; decide) (l := [78, 97, 109, 101]) rfl
    have k1 := kind_is (a := t.kind) kTaggedName e1 (l := [84, 97, 103, 103, 101, 100, 78, 97, 109, 101]) rfl
    clear e1 H h
    go_enter Tryz.func14, Tryz.ntmps14
    go_wp2_with fail
    refine (isTaggedC (d + 1) t _ _ (HI.out.kids.below B.out)).mono ?_
    rintro e w1 ⟨b1, rfl, hp1, hb1⟩
    have B1 := Lib.hid (B.out.trans (hb1.mono B.out.size))
    have z1 : w.heap.size < w1.heap.size := by have := hb1.size; simp at this; omega
    obtain ⟨hc1, hf1⟩ := bcell hb1
    cases b1 with
    | false =>
      clear hp1 hb1
      go_wp2_with fail
      go_ret
      exact ⟨_, rfl, fun e => Bool.noConfusion e, B1.out⟩
    | true =>
      have P1 := Lib.hid (hp1 rfl)
      clear hp1 hb1
      go_wp2_with fail
      go_ret
      exact ⟨_, rfl, fun _ => P1.out, B1.out⟩

set_option maxHeartbeats 1000000 in
theorem classQualified (d : Nat) (H : ∀ e, e < d → Known e) (t : Tree) (kv : Value) (w : World) (h : In w d t kv) (e1 : t.kind = kQualified) :
    Calls Tryz.prog 14 #[.agg #[.string t.kind, .string t.text, .int .i64 t.num, kv]] w (Ans w (Fine d t)) := by
  cases d with
  | zero => exact h.kids.elim
  | succ d =>
    have HI := Lib.hid h
    obtain ⟨hk, ht, hwf, a, c, rfl, hl, hc, hkids⟩ := h.kids
    have HK := Lib.hid hkids
    have B := Lib.hid (below1 w (.cells #[.string t.kind, .string t.text, .int .i64 t.num, .slice a t.kids.length c] 24))
    have PL : ∀ w1 n, Below w.heap.size w w1 → Calls Tryz.prog 21 #[.agg #[.string t.kind, .string t.text, .int .i64 t.num, .slice a t.kids.length c], .int .i64 (n : Nat)] w1 (Ans w1 (PlainT t n)) := fun w1 n hb => plainC t _ n (d + 1) _ (h.kids.below hb)
    have PLH := Lib.hid PL
    clear hkids PL
    have PLHN : Hid (∀ w1, Below w.heap.size w w1 → Calls Tryz.prog 21 #[.agg #[.string t.kind, .string t.text, .int .i64 t.num, .slice a t.kids.length c], .int .i64 2] w1 (Ans w1 (PlainT t 2))) := fun w1 hb => PLH.out w1 2 hb
    have HC := Lib.hid (H d (by omega)).cls
    have HU := Lib.hid (isUnnamedC d (fun e he => H e (by omega)))
    have k0 := kind_ne (a := t.kind) kName (by rw [e1]; decide) (l := [78, 97, 109, 101]) rfl
    have k1 := kind_ne (a := t.kind) kTaggedName (by rw [e1]; decide) (l := [84, 97, 103, 103, 101, 100, 78, 97, 109, 101]) rfl
    have k2 := kind_is (a := t.kind) kQualified e1 (l := [81, 117, 97, 108, 105, 102, 105, 101, 100]) rfl
    have E := Lib.hid e1
    clear e1 H h
    by_cases hl2 : t.kids.length = 2
    · have HL2 := Lib.hid hl2
      obtain ⟨x, y, b, o, kx, ky, KE, rfl, hbl, hlen, ⟨x0, x1, x2, x3⟩, ⟨y0, y1, y2, y3⟩, KX, KY⟩ := kids2 HK.out hl2
      have HX := Lib.hid KX
      have HY := Lib.hid KY
      clear KX KY hl2
      go_enter Tryz.func14, Tryz.ntmps14
      go_wp2_with fail
      refine (PLHN.out _ B.out).mono ?_
      rintro e w1 ⟨b1, rfl, hp1, hb1⟩
      have B1 := Lib.hid (B.out.trans (hb1.mono B.out.size))
      have z1 : w.heap.size < w1.heap.size := by have := hb1.size; simp at this; omega
      have q1 : b < w1.heap.size := by omega
      obtain ⟨hc1, hf1⟩ := bcell hb1
      cases b1 with
      | false =>
        clear hp1 hb1
        go_wp2_with fail
        go_ret
        exact ⟨_, rfl, fun e => Bool.noConfusion e, B1.out⟩
      | true =>
        have P1 := Lib.hid (hp1 rfl)
        clear hp1 hb1
        go_wp2_with fail
        refine (HC.out x kx _ ⟨HI.out.tabs.below B1.out, HX.out.below B1.out⟩).mono ?_
        rintro e w2 ⟨b2, rfl, hp2, hb2⟩
        have B2 := Lib.hid (B1.out.trans (hb2.mono B1.out.size))
        have z2 : w.heap.size < w2.heap.size := by have := hb2.size; omega
        have q2 : b < w2.heap.size := by omega
        obtain ⟨hc2, hf2⟩ := bcell hb2
        cases b2 with
        | false =>
          clear hp2 hb2
          go_wp2_with fail
          go_ret
          exact ⟨_, rfl, fun e => Bool.noConfusion e, B2.out⟩
        | true =>
          have P2 := Lib.hid (hp2 rfl)
          clear hp2 hb2
          go_wp2_with fail
          refine (isTaggedC d y ky _ (HY.out.below B2.out)).mono ?_
          rintro e w3 ⟨b3, rfl, hp3, hb3⟩
          have B3 := Lib.hid (B2.out.trans (hb3.mono B2.out.size))
          have z3 : w.heap.size < w3.heap.size := by have := hb3.size; omega
          have q3 : b < w3.heap.size := by omega
          obtain ⟨hc3, hf3⟩ := bcell hb3
          cases b3 with
          | true =>
            have P3 := Lib.hid (hp3 rfl)
            clear hp3 hb3
            go_wp2_with fail
            go_ret
            exact ⟨_, rfl, fun _ => binary_fine (by rw [E.out]; decide) P1.out KE.out P2.out P3.out, B3.out⟩
          | false =>
            clear hp3 hb3
            go_wp2_with fail
            refine (HU.out y ky _ ⟨HI.out.tabs.below B3.out, HY.out.below B3.out⟩).mono ?_
            rintro e w4 ⟨b4, rfl, hp4, hb4⟩
            have B4 := Lib.hid (B3.out.trans (hb4.mono B3.out.size))
            have z4 : w.heap.size < w4.heap.size := by have := hb4.size; omega
            have q4 : b < w4.heap.size := by omega
            obtain ⟨hc4, hf4⟩ := bcell hb4
            cases b4 with
            | false =>
              clear hp4 hb4
              go_wp2_with fail
              go_ret
              exact ⟨_, rfl, fun e => Bool.noConfusion e, B4.out⟩
            | true =>
              have P4 := Lib.hid (hp4 rfl)
              clear hp4 hb4
              go_wp2_with fail
              go_ret
              exact ⟨_, rfl, fun _ => binary_fine (by rw [E.out]; decide) P1.out KE.out P2.out P4.out, B4.out⟩
    · go_enter Tryz.func14, Tryz.ntmps14
      go_wp2_with fail
      refine (PLHN.out _ B.out).mono ?_
      rintro e w1 ⟨b1, rfl, hp1, hb1⟩
      have B1 := Lib.hid (B.out.trans (hb1.mono B.out.size))
      cases b1 with
      | true => exact (hl2 (hp1 rfl).2.2).elim
      | false =>
        clear hp1 hb1
        go_wp2_with fail
        go_ret
        exact ⟨_, rfl, fun e => Bool.noConfusion e, B1.out⟩

set_option maxHeartbeats 1000000 in
theorem classTemplate (d : Nat) (H : ∀ e, e < d → Known e) (t : Tree) (kv : Value) (w : World) (h : In w d t kv) (e1 : t.kind = kTemplate) :
    Calls Tryz.prog 14 #[.agg #[.string t.kind, .string t.text, .int .i64 t.num, kv]] w (Ans w (Fine d t)) := by
  cases d with
  | zero => exact h.kids.elim
  | succ d =>
    have HI := Lib.hid h
    obtain ⟨hk, ht, hwf, a, c, rfl, hl, hc, hkids⟩ := h.kids
    have HK := Lib.hid hkids
    have B := Lib.hid (below1 w (.cells #[.string t.kind, .string t.text, .int .i64 t.num, .slice a t.kids.length c] 24))
    have PL : ∀ w1 n, Below w.heap.size w w1 → Calls Tryz.prog 21 #[.agg #[.string t.kind, .string t.text, .int .i64 t.num, .slice a t.kids.length c], .int .i64 (n : Nat)] w1 (Ans w1 (PlainT t n)) := fun w1 n hb => plainC t _ n (d + 1) _ (h.kids.below hb)
    have PLH := Lib.hid PL
    clear hkids PL
    have HC := Lib.hid (H d (by omega)).cls
    have HT := Lib.hid (isTemplateC (d + 1) H)
    have k0 := kind_ne (a := t.kind) kName (by rw [e1]; decide) (l := [78, 97, 109, 101]) rfl
    have k1 := kind_ne (a := t.kind) kTaggedName (by rw [e1]; decide) (l := [84, 97, 103, 103, 101, 100, 78, 97, 109, 101]) rfl
    have k2 := kind_ne (a := t.kind) kQualified (by rw [e1]; decide) (l := [81, 117, 97, 108, 105, 102, 105, 101, 100]) rfl
    have k3 := kind_is (a := t.kind) kTemplate e1 (l := [84, 101, 109, 112, 108, 97, 116, 101]) rfl
    have E := Lib.hid e1
    clear e1 H h
    by_cases hl2 : 0 < t.kids.length
    · obtain ⟨x, b, o, xa, xc, hx0, hxm, rfl, hbl, ⟨x0, x1, x2, x3⟩, KX⟩ := kid0 HK.out hl2
      have HX := Lib.hid KX
      have HX0 := Lib.hid hx0
      clear KX hx0 hxm
      cases hkt : (x.kind.toList == [84, 101, 109, 112, 108, 97, 116, 101]) with
      | true =>
        go_enter Tryz.func14, Tryz.ntmps14
        go_wp2_with fail
        refine (HT.out t _ _ ⟨HI.out.tabs.below B.out, HI.out.kids.below B.out⟩).mono ?_
        rintro e w1 ⟨b1, rfl, hp1, hb1⟩
        have B1 := Lib.hid (B.out.trans (hb1.mono B.out.size))
        have z1 : w.heap.size < w1.heap.size := by have := hb1.size; simp at this; omega
        have q1 : b < w1.heap.size := by omega
        obtain ⟨hc1, hf1⟩ := bcell hb1
        cases b1 with
        | false =>
          clear hp1 hb1
          go_wp2_with fail
          go_ret
          exact ⟨_, rfl, fun e => Bool.noConfusion e, B1.out⟩
        | true =>
          have P1 := Lib.hid (hp1 rfl)
          clear hp1 hb1
          go_wp2_with fail
          refine (HC.out x _ _ ⟨HI.out.tabs.below B1.out, HX.out.below B1.out⟩).mono ?_
          rintro e w2 ⟨b2, rfl, hp2, hb2⟩
          have B2 := Lib.hid (B1.out.trans (hb2.mono B1.out.size))
          have z2 : w.heap.size < w2.heap.size := by have := hb2.size; omega
          have q2 : b < w2.heap.size := by omega
          obtain ⟨hc2, hf2⟩ := bcell hb2
          cases b2 with
          | false =>
            clear hp2 hb2
            go_wp2_with fail
            go_ret
            exact ⟨_, rfl, fun e => Bool.noConfusion e, B2.out⟩
          | true =>
            have P2 := Lib.hid (hp2 rfl)
            clear hp2 hb2
            go_wp2_with fail
            go_ret
            exact ⟨_, rfl, fun e => Bool.noConfusion e, B2.out⟩
      | false =>
        go_enter Tryz.func14, Tryz.ntmps14
        go_wp2_with fail
        refine (HT.out t _ _ ⟨HI.out.tabs.below B.out, HI.out.kids.below B.out⟩).mono ?_
        rintro e w1 ⟨b1, rfl, hp1, hb1⟩
        have B1 := Lib.hid (B.out.trans (hb1.mono B.out.size))
        have z1 : w.heap.size < w1.heap.size := by have := hb1.size; simp at this; omega
        have q1 : b < w1.heap.size := by omega
        obtain ⟨hc1, hf1⟩ := bcell hb1
        cases b1 with
        | false =>
          clear hp1 hb1
          go_wp2_with fail
          go_ret
          exact ⟨_, rfl, fun e => Bool.noConfusion e, B1.out⟩
        | true =>
          have P1 := Lib.hid (hp1 rfl)
          clear hp1 hb1
          go_wp2_with fail
          refine (HC.out x _ _ ⟨HI.out.tabs.below B1.out, HX.out.below B1.out⟩).mono ?_
          rintro e w2 ⟨b2, rfl, hp2, hb2⟩
          have B2 := Lib.hid (B1.out.trans (hb2.mono B1.out.size))
          have z2 : w.heap.size < w2.heap.size := by have := hb2.size; omega
          have q2 : b < w2.heap.size := by omega
          obtain ⟨hc2, hf2⟩ := bcell hb2
          cases b2 with
          | false =>
            clear hp2 hb2
            go_wp2_with fail
            go_ret
            exact ⟨_, rfl, fun e => Bool.noConfusion e, B2.out⟩
          | true =>
            have P2 := Lib.hid (hp2 rfl)
            clear hp2 hb2
            go_wp2_with fail
            refine (isStdC x _ d _ (HX.out.below B2.out)).mono ?_
            rintro e w3 ⟨b3, rfl, hp3, hb3⟩
            have B3 := Lib.hid (B2.out.trans (hb3.mono B2.out.size))
            have z3 : w.heap.size < w3.heap.size := by have := hb3.size; omega
            have q3 : b < w3.heap.size := by omega
            obtain ⟨hc3, hf3⟩ := bcell hb3
            cases b3 with
            | true =>
              clear hp3 hb3
              go_wp2_with fail
              go_ret
              exact ⟨_, rfl, fun e => Bool.noConfusion e, B3.out⟩
            | false =>
              clear hp3 hb3
              go_wp2_with fail
              go_ret
              exact ⟨_, rfl, fun _ => template_fine E.out P1.out (fun z hz => by rw [HX0.out] at hz; cases hz; exact P2.out), B3.out⟩
    · go_enter Tryz.func14, Tryz.ntmps14
      go_wp2_with fail
      refine (HT.out t _ _ ⟨HI.out.tabs.below B.out, HI.out.kids.below B.out⟩).mono ?_
      rintro e w1 ⟨b1, rfl, hp1, hb1⟩
      have B1 := Lib.hid (B.out.trans (hb1.mono B.out.size))
      cases b1 with
      | true =>
        obtain ⟨_, _, x, y, l, e, _⟩ := hp1 rfl
        exact (hl2 (by rw [e]; simp)).elim
      | false =>
        clear hp1 hb1
        go_wp2_with fail
        go_ret
        exact ⟨_, rfl, fun e => Bool.noConfusion e, B1.out⟩

theorem isClassC (d : Nat) (H : ∀ e, e < d → Known e) : Tests 14 d := by
  intro t kv w h
  by_cases e0 : t.kind = kName
  · exact className d H t kv w h e0
  · by_cases e1 : t.kind = kTaggedName
    · exact classTaggedName d H t kv w h e1
    · by_cases e2 : t.kind = kQualified
      · exact classQualified d H t kv w h e2
      · by_cases e3 : t.kind = kTemplate
        · exact classTemplate d H t kv w h e3
        · obtain ⟨a, c, rfl⟩ := h.kids.form
          have k0 := kind_ne (a := t.kind) kName e0 (l := [78, 97, 109, 101]) rfl
          have k1 := kind_ne (a := t.kind) kTaggedName e1 (l := [84, 97, 103, 103, 101, 100, 78, 97, 109, 101]) rfl
          have k2 := kind_ne (a := t.kind) kQualified e2 (l := [81, 117, 97, 108, 105, 102, 105, 101, 100]) rfl
          have k3 := kind_ne (a := t.kind) kTemplate e3 (l := [84, 101, 109, 112, 108, 97, 116, 101]) rfl
          clear e0 e1 e2 e3 h H
          go_enter Tryz.func14, Tryz.ntmps14
          go_wp2_with fail
          go_ret
          exact ⟨_, rfl, fun e => Bool.noConfusion e, below1 _ _⟩
end Go.Proofs.YtlfbmpenekiigaaGreatDoor
