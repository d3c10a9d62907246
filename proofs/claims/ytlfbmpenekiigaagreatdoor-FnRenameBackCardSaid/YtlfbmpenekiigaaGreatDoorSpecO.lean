/- Names of functions: operators, conversions, and the end of a class's name; conditions: the node reads as a tree, the tables hold texts. -/
import Derived.Test.YtlfbmpenekiigaaGreatDoorSpecN
namespace Go.Proofs.YtlfbmpenekiigaaGreatDoor
open Go.ChangeShapes Go.WideShapes Go.ChangeAt Go.RowKit
set_option linter.unusedVariables false

set_option maxRecDepth 100000 in
set_option maxHeartbeats 2000000 in
theorem isOperatorNameC (d : Nat) (t : Tree) (kv : Value) (w : World) (h : In w d t kv) :
    Calls Tryz.prog 42 #[.agg #[.string t.kind, .string t.text, .int .i64 t.num, kv]] w (Ans w (Fine d t)) := by
  cases d with
  | zero => exact h.kids.elim
  | succ d =>
    have HI := Lib.hid h
    obtain ⟨hk, ht, hwf, a, c, rfl, hl, hc, hkids⟩ := h.kids
    have HK := Lib.hid hkids
    have B := Lib.hid (below1 w (.cells #[.string t.kind, .string t.text, .int .i64 t.num, .slice a t.kids.length c] 24))
    have PL : ∀ w1 n, Below w.heap.size w w1 → Calls Tryz.prog 21 #[.agg #[.string t.kind, .string t.text, .int .i64 t.num, .slice a t.kids.length c], .int .i64 (n : Nat)] w1 (Ans w1 (PlainT t n)) := fun w1 n hb => plainC t _ n (d + 1) _ (h.kids.below hb)
    have PLH := Lib.hid PL
    clear hkids PL
    have PLHN : Hid (∀ w1, Below w.heap.size w w1 → Calls Tryz.prog 21 #[.agg #[.string t.kind, .string t.text, .int .i64 t.num, .slice a t.kids.length c], .int .i64 2] w1 (Ans w1 (PlainT t 2))) := fun w1 hb => PLH.out w1 2 hb
    have HC := Lib.hid (known d).cls
    clear h
    by_cases e0 : t.kind = kQualified
    · have k0 := kind_is (a := t.kind) kQualified e0 (l := [81, 117, 97, 108, 105, 102, 105, 101, 100]) rfl
      have E := Lib.hid e0
      clear e0
      by_cases hl2 : t.kids.length = 2
      · have HL2 := Lib.hid hl2
        obtain ⟨x, y, b, o, kx, ky, KE, rfl, hbl, hlen, ⟨x0, x1, x2, x3⟩, ⟨y0, y1, y2, y3⟩, KX, KY⟩ := kids2 HK.out hl2
        have HX := Lib.hid KX
        have HY := Lib.hid KY
        clear KX KY hl2
        go_enter Tryz.func42, Tryz.ntmps42
        go_wp2_with fail
        refine (isOperatorC t _ (d + 1) _ ⟨HI.out.tabs.below B.out, HI.out.kids.below B.out⟩).mono ?_
        rintro e w1 ⟨b1, rfl, hp1, hb1⟩
        have B1 := Lib.hid (B.out.trans (hb1.mono B.out.size))
        have z1 : w.heap.size < w1.heap.size := by have := hb1.size; simp at this; omega
        have q1 : b < w1.heap.size := by omega
        obtain ⟨hc1, hf1⟩ := bcell hb1
        cases b1 with
        | true =>
          have P1 := Lib.hid (hp1 rfl)
          clear hp1 hb1
          go_wp2_with fail
          go_ret
          exact ⟨_, rfl, fun _ => leaf_fine HI.out.kids P1.out (by decide), B1.out⟩
        | false =>
          clear hp1 hb1
          go_wp2_with fail
          refine (PLHN.out _ B1.out).mono ?_
          rintro e w2 ⟨b2, rfl, hp2, hb2⟩
          have B2 := Lib.hid (B1.out.trans (hb2.mono B1.out.size))
          have z2 : w.heap.size < w2.heap.size := by have := hb2.size; omega
          have q2 : b < w2.heap.size := by omega
          obtain ⟨hc2, hf2⟩ := bcell hb2
          cases b2 with
          | false =>
            clear hp2 hb2
            go_wp2_with fail
            go_ret
            exact ⟨_, rfl, fun e => Bool.noConfusion e, B2.out⟩
          | true =>
            have P2 := Lib.hid (hp2 rfl)
            clear hp2 hb2
            go_wp2_with fail
            refine (HC.out x kx _ ⟨HI.out.tabs.below B2.out, HX.out.below B2.out⟩).mono ?_
            rintro e w3 ⟨b3, rfl, hp3, hb3⟩
            have B3 := Lib.hid (B2.out.trans (hb3.mono B2.out.size))
            have z3 : w.heap.size < w3.heap.size := by have := hb3.size; omega
            have q3 : b < w3.heap.size := by omega
            obtain ⟨hc3, hf3⟩ := bcell hb3
            cases b3 with
            | false =>
              clear hp3 hb3
              go_wp2_with fail
              go_ret
              exact ⟨_, rfl, fun e => Bool.noConfusion e, B3.out⟩
            | true =>
              have P3 := Lib.hid (hp3 rfl)
              clear hp3 hb3
              go_wp2_with fail
              refine (isOperatorC y ky d _ ⟨HI.out.tabs.below B3.out, HY.out.below B3.out⟩).mono ?_
              rintro e w4 ⟨b4, rfl, hp4, hb4⟩
              have B4 := Lib.hid (B3.out.trans (hb4.mono B3.out.size))
              have z4 : w.heap.size < w4.heap.size := by have := hb4.size; omega
              have q4 : b < w4.heap.size := by omega
              obtain ⟨hc4, hf4⟩ := bcell hb4
              cases b4 with
              | false =>
                clear hp4 hb4
                go_wp2_with fail
                go_ret
                exact ⟨_, rfl, fun e => Bool.noConfusion e, B4.out⟩
              | true =>
                have P4 := Lib.hid (hp4 rfl)
                clear hp4 hb4
                go_wp2_with fail
                go_ret
                exact ⟨_, rfl, fun _ => binary_fine (by rw [E.out]; decide) P2.out KE.out P3.out (leaf_fine HY.out P4.out (by decide)), B4.out⟩
      · go_enter Tryz.func42, Tryz.ntmps42
        go_wp2_with fail
        refine (isOperatorC t _ (d + 1) _ ⟨HI.out.tabs.below B.out, HI.out.kids.below B.out⟩).mono ?_
        rintro e w1 ⟨b1, rfl, hp1, hb1⟩
        have B1 := Lib.hid (B.out.trans (hb1.mono B.out.size))
        have z1 : w.heap.size < w1.heap.size := by have := hb1.size; simp at this; omega
        obtain ⟨hc1, hf1⟩ := bcell hb1
        cases b1 with
        | true =>
          have P1 := Lib.hid (hp1 rfl)
          clear hp1 hb1
          go_wp2_with fail
          go_ret
          exact ⟨_, rfl, fun _ => leaf_fine HI.out.kids P1.out (by decide), B1.out⟩
        | false =>
          clear hp1 hb1
          go_wp2_with fail
          refine (PLHN.out _ B1.out).mono ?_
          rintro e w2 ⟨b2, rfl, hp2, hb2⟩
          have B2 := Lib.hid (B1.out.trans (hb2.mono B1.out.size))
          cases b2 with
          | true => exact (hl2 (hp2 rfl).2.2).elim
          | false =>
            clear hp2 hb2
            go_wp2_with fail
            go_ret
            exact ⟨_, rfl, fun e => Bool.noConfusion e, B2.out⟩
    · have k0 := kind_ne (a := t.kind) kQualified e0 (l := [81, 117, 97, 108, 105, 102, 105, 101, 100]) rfl
      clear e0
      go_enter Tryz.func42, Tryz.ntmps42
      go_wp2_with fail
      refine (isOperatorC t _ (d + 1) _ ⟨HI.out.tabs.below B.out, HI.out.kids.below B.out⟩).mono ?_
      rintro e w1 ⟨b1, rfl, hp1, hb1⟩
      have B1 := Lib.hid (B.out.trans (hb1.mono B.out.size))
      have z1 : w.heap.size < w1.heap.size := by have := hb1.size; simp at this; omega
      obtain ⟨hc1, hf1⟩ := bcell hb1
      cases b1 with
      | false =>
        clear hp1 hb1
        go_wp2_with fail
        go_ret
        exact ⟨_, rfl, fun e => Bool.noConfusion e, B1.out⟩
      | true =>
        have P1 := Lib.hid (hp1 rfl)
        clear hp1 hb1
        go_wp2_with fail
        go_ret
        exact ⟨_, rfl, fun _ => leaf_fine HI.out.kids P1.out (by decide), B1.out⟩

set_option maxRecDepth 100000 in
set_option maxHeartbeats 2000000 in
theorem tailC (d : Nat) (t : Tree) (kv : Value) (w : World) (h : KidsAt w d t kv) (hf : Fine d t) :
    Calls Tryz.prog 54 #[.agg #[.string t.kind, .string t.text, .int .i64 t.num, kv]] w (fun e w' => ∃ k u a c, e = .returned (.agg #[.string u.kind, .string u.text, .int .i64 u.num, .slice a u.kids.length c]) ∧ KidsAt w k u (.slice a u.kids.length c) ∧ Below w.heap.size w w') := by
  cases d with
  | zero => exact h.elim
  | succ d =>
    have HI := Lib.hid h
    obtain ⟨hk, ht, hwf, a, c, rfl, hl, hc, hkids⟩ := h
    by_cases e0 : t.kind = kTemplate
    · have k0 := kind_is (a := t.kind) kTemplate e0 (l := [84, 101, 109, 112, 108, 97, 116, 101]) rfl
      obtain ⟨x, l, ex, fx⟩ := fine_template hf e0
      have hlen : 0 < t.kids.length := by rw [ex]; simp
      obtain ⟨x', b, o, xa, xc, hx0, _, rfl, hbl, ⟨x0, x1, x2, x3⟩, KX⟩ := kid0 hkids hlen
      obtain rfl : x = x' := by rw [ex] at hx0; simpa using hx0
      have HX := Lib.hid KX
      by_cases e1 : x.kind = kQualified
      · have k1 := kind_is (a := x.kind) kQualified e1 (l := [81, 117, 97, 108, 105, 102, 105, 101, 100]) rfl
        cases d with
        | zero => exact KX.elim
        | succ d =>
          obtain ⟨_, _, _, xa', xc', exa, _, _, hxk⟩ := KX
          obtain ⟨rfl, rfl⟩ : xa = xa' ∧ xc = xc' := by simpa using exa
          obtain ⟨u, v, eu, fu, fv⟩ := fine_binary fx (by rw [e1]; decide)
          obtain ⟨u', v', b', o', ku, kw, KE, rfl, hbl', hlen', _, ⟨y0, y1, y2, y3⟩, KU, KV⟩ := kids2 hxk (by rw [eu]; rfl)
          obtain ⟨va, vc, rfl⟩ := KV.form
          have HV := Lib.hid KV
          clear hkids hxk KU KV fx fu fv eu ex hx0 hf e0 e1 exa
          go_enter Tryz.func54, Tryz.ntmps54
          go_wp2_with fail
          refine bodyPost_ret (v := .agg #[.string v'.kind, .string v'.text, .int .i64 v'.num, .slice va v'.kids.length vc]) (by simp [results, Tryz.results54, go_sem]) rfl ⟨_, v', va, vc, rfl, HV.out, ?_⟩
          exact ((Below.refl _ _).alloc (Nat.le_refl _) _).alloc (by simp) _
      · have k1 := kind_ne (a := x.kind) kQualified e1 (l := [81, 117, 97, 108, 105, 102, 105, 101, 100]) rfl
        clear hkids KX fx ex hx0 hf e0 e1
        go_enter Tryz.func54, Tryz.ntmps54
        go_wp2_with fail
        refine bodyPost_ret (v := .agg #[.string x.kind, .string x.text, .int .i64 x.num, .slice xa x.kids.length xc]) (by simp [results, Tryz.results54, go_sem]) rfl ⟨_, x, xa, xc, rfl, HX.out, ?_⟩
        exact ((Below.refl _ _).alloc (Nat.le_refl _) _).alloc (by simp) _
    · have k0 := kind_ne (a := t.kind) kTemplate e0 (l := [84, 101, 109, 112, 108, 97, 116, 101]) rfl
      by_cases e1 : t.kind = kQualified
      · have k1 := kind_is (a := t.kind) kQualified e1 (l := [81, 117, 97, 108, 105, 102, 105, 101, 100]) rfl
        obtain ⟨u, v, eu, fu, fv⟩ := fine_binary hf (by rw [e1]; decide)
        obtain ⟨u', v', b', o', ku, kw, KE, rfl, hbl', hlen', _, ⟨y0, y1, y2, y3⟩, KU, KV⟩ := kids2 hkids (by rw [eu]; rfl)
        obtain ⟨va, vc, rfl⟩ := KV.form
        have HV := Lib.hid KV
        clear hkids KU KV fu fv eu hf e0 e1
        go_enter Tryz.func54, Tryz.ntmps54
        go_wp2_with fail
        refine bodyPost_ret (v := .agg #[.string v'.kind, .string v'.text, .int .i64 v'.num, .slice va v'.kids.length vc]) (by simp [results, Tryz.results54, go_sem]) rfl ⟨_, v', va, vc, rfl, HV.out, ?_⟩
        exact ((Below.refl _ _).alloc (Nat.le_refl _) _).alloc (by simp) _
      · have k1 := kind_ne (a := t.kind) kQualified e1 (l := [81, 117, 97, 108, 105, 102, 105, 101, 100]) rfl
        clear hkids hf e0 e1
        go_enter Tryz.func54, Tryz.ntmps54
        go_wp2_with fail
        refine bodyPost_ret (v := .agg #[.string t.kind, .string t.text, .int .i64 t.num, .slice a t.kids.length c]) (by simp [results, Tryz.results54, go_sem]) rfl ⟨_, t, a, c, rfl, HI.out, ?_⟩
        exact ((Below.refl _ _).alloc (Nat.le_refl _) _).alloc (by simp) _

end Go.Proofs.YtlfbmpenekiigaaGreatDoor
