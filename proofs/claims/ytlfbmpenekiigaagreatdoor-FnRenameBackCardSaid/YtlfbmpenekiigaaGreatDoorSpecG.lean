/- The tests on types beside IsType: floating-point types, objects, types that may have qualifiers, types of functions, methods, members; conditions: the node reads as a tree, the tables hold texts, IsType is known. -/
import Derived.Test.YtlfbmpenekiigaaGreatDoorSpecL
import Derived.Test.YtlfbmpenekiigaaGreatDoorSpecQ
import Derived.Test.YtlfbmpenekiigaaGreatDoorSpecF
namespace Go.Proofs.YtlfbmpenekiigaaGreatDoor
open Go.ChangeShapes Go.WideShapes Go.ChangeAt Go.RowKit
set_option linter.unusedVariables false

/-- If the answer is yes, then P. -/
def IfT (b : Bool) (P : Prop) : Prop := b = true → P
theorem IfT.out {P : Prop} (h : IfT true P) : P := h rfl

set_option maxHeartbeats 2000000 in
theorem isFloatingC (d : Nat) (K : Tests 45 d) : Tests 59 d := by
  intro t kv w h
  have HI := Lib.hid h
  have HY := Lib.hid K
  obtain ⟨hk, ht, a, c, rfl, hl, hc⟩ := h.kids.parts
  have B := Lib.hid (below1 w (.cells #[.string t.kind, .string t.text, .int .i64 t.num, .slice a t.kids.length c] 24))
  clear h K
  go_enter Tryz.func59, Tryz.ntmps59
  go_wp2_with (go_at_call 45; refine (HY.out t _ _ (HI.out.below B.out)).mono ?_; rintro e w1 ⟨b1, rfl, hp1, hb1⟩; have B1 := Lib.hid (B.out.trans (hb1.mono B.out.size)); have z1 : w.heap.size < w1.heap.size := (by have := hb1.size; simp at this; omega); obtain ⟨hc1, hf1⟩ := bcell hb1; have P1 : IfT b1 _ := hp1; clear hp1 hb1; cases b1)
  all_goals go_ret
  all_goals first | exact ⟨_, rfl, fun e => Bool.noConfusion e, B.out⟩ | exact ⟨_, rfl, fun e => Bool.noConfusion e, B1.out⟩ | exact ⟨_, rfl, fun _ => P1.out, B1.out⟩

set_option maxHeartbeats 2000000 in
theorem isQualifiedC (d : Nat) (K : Tests 45 d) : Tests 58 d := by
  intro t kv w h
  have HI := Lib.hid h
  have HY := Lib.hid K
  obtain ⟨hk, ht, a, c, rfl, hl, hc⟩ := h.kids.parts
  have B := Lib.hid (below1 w (.cells #[.string t.kind, .string t.text, .int .i64 t.num, .slice a t.kids.length c] 24))
  clear h K
  go_enter Tryz.func58, Tryz.ntmps58
  go_wp2_with (go_at_call 45; refine (HY.out t _ _ (HI.out.below B.out)).mono ?_; rintro e w1 ⟨b1, rfl, hp1, hb1⟩; have B1 := Lib.hid (B.out.trans (hb1.mono B.out.size)); have z1 : w.heap.size < w1.heap.size := (by have := hb1.size; simp at this; omega); obtain ⟨hc1, hf1⟩ := bcell hb1; have P1 : IfT b1 _ := hp1; clear hp1 hb1; cases b1)
  all_goals go_ret
  all_goals first | exact ⟨_, rfl, fun e => Bool.noConfusion e, B.out⟩ | exact ⟨_, rfl, fun e => Bool.noConfusion e, B1.out⟩ | exact ⟨_, rfl, fun _ => P1.out, B1.out⟩

set_option maxHeartbeats 2000000 in
theorem isObjectC (d : Nat) (K : Tests 45 d) : Tests 62 d := by
  intro t kv w h
  have HI := Lib.hid h
  have HY := Lib.hid K
  obtain ⟨hk, ht, a, c, rfl, hl, hc⟩ := h.kids.parts
  have B := Lib.hid (below1 w (.cells #[.string t.kind, .string t.text, .int .i64 t.num, .slice a t.kids.length c] 24))
  clear h K
  go_enter Tryz.func62, Tryz.ntmps62
  go_wp2_with (first | (go_at_call 45; refine (HY.out t _ _ (HI.out.below B.out)).mono ?_; rintro e w1 ⟨b1, rfl, hp1, hb1⟩; have B1 := Lib.hid (B.out.trans (hb1.mono B.out.size)); have z1 : w.heap.size < w1.heap.size := (by have := hb1.size; simp at this; omega); obtain ⟨hc1, hf1⟩ := bcell hb1; have P1 : IfT b1 _ := hp1; clear hp1 hb1; cases b1) | (go_at_call 55; refine (isReferenceC t _ d _ (HI.out.kids.below B1.out)).mono ?_; rintro e w2 ⟨b2, rfl, _, hb2⟩; have B2 := Lib.hid (B1.out.trans (hb2.mono B1.out.size)); have z2 : w.heap.size < w2.heap.size := (by have := hb2.size; omega); obtain ⟨hc2, hf2⟩ := bcell hb2; clear hb2; cases b2) | (go_at_call 57; refine (isVoidC t _ d _ (HI.out.kids.below B2.out)).mono ?_; rintro e w3 ⟨b3, rfl, _, hb3⟩; have B3 := Lib.hid (B2.out.trans (hb3.mono B2.out.size)); clear hb3; cases b3))
  all_goals go_ret
  all_goals first | exact ⟨_, rfl, fun e => Bool.noConfusion e, B.out⟩ | exact ⟨_, rfl, fun e => Bool.noConfusion e, B1.out⟩ | exact ⟨_, rfl, fun e => Bool.noConfusion e, B2.out⟩ | exact ⟨_, rfl, fun e => Bool.noConfusion e, B3.out⟩ | exact ⟨_, rfl, fun _ => P1.out, B3.out⟩

theorem function_fine {d : Nat} {t x : Tree} {l : List Tree} (hk : t.kind = kFunctionType) (ht : t.text = ByteArray.empty) (hn : t.num = 0) (e : t.kids = x :: l) (hx : All Good d x) (hl : ∀ y ∈ l, Fine d y) : Fine (d + 1) t := by
  refine .mk (.inr (.inr (.inr (.inr (.inr (.inr (.inr (.inr (.inr (.inr ⟨hk, ht, hn, x, l, e, fun y hy => (hl y hy).kind⟩)))))))))) ?_
  rw [e]
  intro z hz
  rcases List.mem_cons.1 hz with rfl | hz
  · exact hx
  · exact (hl z hz).1

theorem cons_of_len {l : List Tree} (h : 0 < l.length) : ∃ x r, l = x :: r := by
  cases l with
  | nil => simp at h
  | cons x r => exact ⟨x, r, rfl⟩

set_option maxRecDepth 100000 in
set_option maxHeartbeats 2000000 in
theorem isFunctionTypeC (d : Nat) (H : ∀ e, e < d → Known e) : Tests 60 d := by
  intro t kv w h
  cases d with
  | zero => exact h.kids.elim
  | succ d =>
    have HI := Lib.hid h
    have HR := Lib.hid (isReturnC d (H d (by omega)).typ)
    have HP := Lib.hid (areParamsC d (H d (by omega)).typ)
    obtain ⟨hk, ht, hwf, a, c, rfl, hl, hc, hkids⟩ := h.kids
    have HK := Lib.hid hkids
    have B := Lib.hid (below1 w (.cells #[.string t.kind, .string t.text, .int .i64 t.num, .slice a t.kids.length c] 24))
    clear hkids h H
    by_cases hlen : 0 < t.kids.length
    · obtain ⟨x, b, o, xa, xc, hx0, _, rfl, hbl, ⟨x0, x1, x2, x3⟩, KX⟩ := kid0 HK.out hlen
      obtain ⟨y, l, ek⟩ := cons_of_len hlen
      obtain rfl : y = x := by rw [ek] at hx0; simpa using hx0
      have EK := Lib.hid ek
      have HX := Lib.hid KX
      have HLL : Hid (t.kids.length - 1 = l.length) := by show _ - 1 = _; rw [ek]; simp
      have HT := Lib.hid (kids_tail HK.out ek)
      clear ek KX hx0
      by_cases hkind : t.kind = kFunctionType
      · have hkb := kind_is (a := t.kind) kFunctionType hkind (l := [70, 117, 110, 99, 116, 105, 111, 110, 84, 121, 112, 101]) rfl
        have HKI := Lib.hid hkind
        clear hkind
        by_cases htx : t.text = ByteArray.empty
        · have ht0 : t.text.toList = [] := by rw [htx, Lib.toList_data]; rfl
          have HTX := Lib.hid htx
          clear htx
          by_cases hnum : t.num = 0
          · have hn : (t.num == 0) = true := by simp [hnum]
            have HN := Lib.hid hnum
            clear hnum
            by_cases hcc : 1 < c
            · have HPC : Hid (∀ w1, Below w.heap.size w w1 → Calls Tryz.prog 23 #[.slice (some ⟨b, o + 4, none⟩) (t.kids.length - 1) (c - 1)] w1 (Ans w1 (∀ x ∈ l, Fine d x))) := fun w1 hb =>
                HP.out l _ w1 ⟨HI.out.tabs.below hb, some ⟨b, o + 4, none⟩, c - 1, by rw [HLL.out], by rw [← HLL.out]; omega, by omega, fun i z hz => by
                  obtain ⟨b', o', kv', e1, g0, g1, g2, g3, g4⟩ := HT.out i z hz
                  have hcb := cells_below hb
                  exact ⟨b', o', kv', e1, hcb _ _ _ g0, hcb _ _ _ g1, hcb _ _ _ g2, hcb _ _ _ g3, g4.below hb⟩⟩
              go_enter Tryz.func60, Tryz.ntmps60
              go_wp2_with (first | (go_at_call 25; refine (HR.out y _ _ ⟨HI.out.tabs.below B.out, HX.out.below B.out⟩).mono ?_; rintro e w1 ⟨b1, rfl, hp1, hb1⟩; have B1 := Lib.hid (B.out.trans (hb1.mono B.out.size)); have z1 : w.heap.size < w1.heap.size := (by have := hb1.size; simp at this; omega); obtain ⟨hc1, hf1⟩ := bcell hb1; have P1 : IfT b1 _ := hp1; clear hp1 hb1; cases b1) | (go_at_call 23; (with_reducible refine (HPC.out _ B1.out).mono ?_); rintro e w2 ⟨b2, rfl, hp2, hb2⟩; have B2 := Lib.hid (B1.out.trans (hb2.mono B1.out.size)); have P2 : IfT b2 _ := hp2; clear hp2 hb2; cases b2))
              all_goals go_ret
              all_goals first | exact ⟨_, rfl, fun e => Bool.noConfusion e, B.out⟩ | exact ⟨_, rfl, fun e => Bool.noConfusion e, below1 _ _⟩ | exact ⟨_, rfl, fun e => Bool.noConfusion e, B1.out⟩ | exact ⟨_, rfl, fun e => Bool.noConfusion e, B2.out⟩ | exact ⟨_, rfl, fun _ => function_fine HKI.out HTX.out HN.out EK.out P1.out.1 P2.out, B2.out⟩
            · obtain rfl : c = 1 := by omega
              have HL0 : Hid (l = []) := List.eq_nil_of_length_eq_zero (by have := HLL.out; omega)
              have HPC : Hid (∀ w1, Below w.heap.size w w1 → Calls Tryz.prog 23 #[.slice (some ⟨b, o, none⟩) 0 0] w1 (Ans w1 (∀ x ∈ l, Fine d x))) := fun w1 hb =>
                HP.out l _ w1 ⟨HI.out.tabs.below hb, some ⟨b, o, none⟩, 0, by rw [HL0.out]; rfl, by rw [HL0.out]; simp, by omega, fun i z hz => by rw [HL0.out] at hz; simp at hz⟩
              go_enter Tryz.func60, Tryz.ntmps60
              go_wp2_with (first | (go_at_call 25; refine (HR.out y _ _ ⟨HI.out.tabs.below B.out, HX.out.below B.out⟩).mono ?_; rintro e w1 ⟨b1, rfl, hp1, hb1⟩; have B1 := Lib.hid (B.out.trans (hb1.mono B.out.size)); have z1 : w.heap.size < w1.heap.size := (by have := hb1.size; simp at this; omega); obtain ⟨hc1, hf1⟩ := bcell hb1; have P1 : IfT b1 _ := hp1; clear hp1 hb1; cases b1) | (go_at_call 23; (with_reducible refine (HPC.out _ B1.out).mono ?_); rintro e w2 ⟨b2, rfl, hp2, hb2⟩; have B2 := Lib.hid (B1.out.trans (hb2.mono B1.out.size)); have P2 : IfT b2 _ := hp2; clear hp2 hb2; cases b2))
              all_goals go_ret
              all_goals first | exact ⟨_, rfl, fun e => Bool.noConfusion e, B.out⟩ | exact ⟨_, rfl, fun e => Bool.noConfusion e, below1 _ _⟩ | exact ⟨_, rfl, fun e => Bool.noConfusion e, B1.out⟩ | exact ⟨_, rfl, fun e => Bool.noConfusion e, B2.out⟩ | exact ⟨_, rfl, fun _ => function_fine HKI.out HTX.out HN.out EK.out P1.out.1 P2.out, B2.out⟩
          · have hn : (t.num == 0) = false := by simpa using hnum
            clear hnum
            go_enter Tryz.func60, Tryz.ntmps60
            go_wp2_with fail
            all_goals go_ret
            all_goals first | exact ⟨_, rfl, fun e => Bool.noConfusion e, B.out⟩ | exact ⟨_, rfl, fun e => Bool.noConfusion e, below1 _ _⟩
        · have ht0 : t.text.toList.isEmpty = false := by
            cases he : t.text.toList with
            | nil => exact (htx (empty_of_nil he)).elim
            | cons _ _ => rfl
          clear htx
          go_enter Tryz.func60, Tryz.ntmps60
          go_wp2_with fail
          all_goals go_ret
          all_goals first | exact ⟨_, rfl, fun e => Bool.noConfusion e, B.out⟩ | exact ⟨_, rfl, fun e => Bool.noConfusion e, below1 _ _⟩
      · have hkb := kind_ne (a := t.kind) kFunctionType hkind (l := [70, 117, 110, 99, 116, 105, 111, 110, 84, 121, 112, 101]) rfl
        clear hkind
        go_enter Tryz.func60, Tryz.ntmps60
        go_wp2_with fail
        all_goals go_ret
        all_goals first | exact ⟨_, rfl, fun e => Bool.noConfusion e, B.out⟩ | exact ⟨_, rfl, fun e => Bool.noConfusion e, below1 _ _⟩
    · go_enter Tryz.func60, Tryz.ntmps60
      go_wp2_with fail
      all_goals go_ret
      all_goals first | exact ⟨_, rfl, fun e => Bool.noConfusion e, B.out⟩ | exact ⟨_, rfl, fun e => Bool.noConfusion e, below1 _ _⟩
end Go.Proofs.YtlfbmpenekiigaaGreatDoor
