/- Methods with qualifiers, and what a pointer to a member leads to; conditions: the node reads as a tree, the tables hold texts, smaller ones are known. -/
import Derived.Test.YtlfbmpenekiigaaGreatDoorSpecG
namespace Go.Proofs.YtlfbmpenekiigaaGreatDoor
open Go.ChangeShapes Go.WideShapes Go.ChangeAt Go.RowKit

/-- What isMethod's yes tells. -/
def MethT (d : Nat) (t : Tree) : Prop := t.kind = kMethodWithQualifiers ∧ t.num = 0 ∧ ∃ x y, t.kids = [x, y] ∧ All Good (d - 1) y

theorem nil_kids (w : World) : KidsAt w 1 Tree.nil (.slice none 0 0) := ⟨by decide, by decide, by decide, none, 0, rfl, by decide, by omega, fun i x hx => by simp [Tree.nil] at hx⟩
theorem nil_good {d : Nat} : All Good (d + 1) Tree.nil := ⟨.inl rfl, fun x hx => by cases hx⟩

theorem method_fine {d : Nat} {t x y : Tree} (h : MethT (d + 1) t) (e : t.kids = [x, y]) (hx : Fine d x) : Fine (d + 1) t := by
  obtain ⟨hk, hn, x', y', e', hy⟩ := h
  rw [e] at e'
  obtain ⟨rfl, rfl⟩ : x = x' ∧ y = y' := by simpa using e'
  refine .mk (.inr (.inr (.inr (.inr (.inr (.inr (.inl ⟨hk, hn, x, y, e, hx.kind⟩))))))) ?_
  rw [e]
  intro z hz
  rcases List.mem_cons.1 hz with rfl | hz
  · exact hx.1
  · rcases List.mem_cons.1 hz with rfl | hz
    · exact hy
    · cases hz

set_option maxRecDepth 100000 in
set_option maxHeartbeats 2000000 in
theorem isMethodC (d : Nat) (t : Tree) (kv : Value) (w : World) (h : KidsAt w d t kv) :
    Calls Tryz.prog 27 #[.agg #[.string t.kind, .string t.text, .int .i64 t.num, kv]] w (Ans w (MethT d t)) := by
  cases d with
  | zero => exact h.elim
  | succ d =>
    have HI := Lib.hid h
    obtain ⟨hk, ht, hwf, a, c, rfl, hl, hc, hkids⟩ := h
    have HK := Lib.hid hkids
    have B := Lib.hid (below1 w (.cells #[.string t.kind, .string t.text, .int .i64 t.num, .slice a t.kids.length c] 24))
    clear hkids
    by_cases hkind : t.kind = kMethodWithQualifiers
    · have hkb := kind_is (a := t.kind) kMethodWithQualifiers hkind (l := [77, 101, 116, 104, 111, 100, 87, 105, 116, 104, 81, 117, 97, 108, 105, 102, 105, 101, 114, 115]) rfl
      have HKI := Lib.hid hkind
      clear hkind
      by_cases hnum : t.num = 0
      · have hn : (t.num != 0) = false := by simp [hnum]
        have HN := Lib.hid hnum
        clear hnum
        by_cases hl2 : t.kids.length = 2
        · have hln : ((t.kids.length : Int) != 2) = false := by simp [hl2]
          obtain ⟨x, y, b, o, kx, ky, KE, rfl, hbl, hlen, ⟨x0, x1, x2, x3⟩, ⟨y0, y1, y2, y3⟩, KX, KY⟩ := kids2 HK.out hl2
          have SM : Hid (∀ w1, Below w.heap.size w w1 → Calls Tryz.prog 10 #[.agg #[.string y.kind, .string y.text, .int .i64 y.num, ky], .agg #[.string ⟨#[]⟩, .string ⟨#[]⟩, .int .i64 0, .slice none 0 0]] w1 (Tells w1 (y = Tree.nil))) :=
            fun w1 hb => sameC d y Tree.nil 1 ky _ w1 (KY.below hb) (nil_kids w1)
          have QL : Hid (∀ w1, Below w.heap.size w w1 → Calls Tryz.prog 46 #[.agg #[.string y.kind, .string y.text, .int .i64 y.num, ky], .bool false] w1 (Ans w1 (Fine d y))) :=
            fun w1 hb => isQualifiersC d false y ky w1 (KY.below hb)
          have HD : Hid (∀ z, z = Tree.nil → All Good d z) := fun z e => by
            subst e
            cases d with
            | zero => exact KY.elim
            | succ d => exact nil_good
          clear KX KY hl2
          have hyk : (y.kind.toList = []) ∨ (y.kind.toList.isEmpty = false) := by cases y.kind.toList <;> simp
          have htx : (t.text.toList = []) ∨ (t.text.toList.isEmpty = false) := by cases t.text.toList <;> simp
          rcases hyk with hy | hy <;> rcases htx with htt | htt
          all_goals
            go_enter Tryz.func27, Tryz.ntmps27
            go_wp2_with (first | (go_at_call 10; (with_reducible refine (SM.out _ B.out).mono ?_); rintro e w1 ⟨b1, rfl, hp1, hb1⟩; have B1 := Lib.hid (B.out.trans (hb1.mono B.out.size)); have P1 : IfT b1 (y = Tree.nil) := hp1.1; clear hp1 hb1; cases b1) | (go_at_call 46; (with_reducible refine (QL.out _ B.out).mono ?_); rintro e w1 ⟨b1, rfl, hp1, hb1⟩; have B1 := Lib.hid (B.out.trans (hb1.mono B.out.size)); have P2 : IfT b1 (Fine d y) := hp1; clear hp1 hb1; cases b1))
            all_goals go_ret
            all_goals first | exact ⟨_, rfl, fun e => Bool.noConfusion e, B.out⟩ | exact ⟨_, rfl, fun e => Bool.noConfusion e, B1.out⟩ | exact ⟨_, rfl, fun _ => ⟨HKI.out, HN.out, x, y, KE.out, HD.out y P1.out⟩, B1.out⟩ | exact ⟨_, rfl, fun _ => ⟨HKI.out, HN.out, x, y, KE.out, P2.out.1⟩, B1.out⟩
        · have hln : ((t.kids.length : Int) != 2) = true := by simp; omega
          clear hl2
          go_enter Tryz.func27, Tryz.ntmps27
          go_wp2_with fail
          all_goals go_ret
          all_goals first | exact ⟨_, rfl, fun e => Bool.noConfusion e, B.out⟩ | exact ⟨_, rfl, fun e => Bool.noConfusion e, below1 _ _⟩
      · have hn : (t.num != 0) = true := by simpa using hnum
        clear hnum
        go_enter Tryz.func27, Tryz.ntmps27
        go_wp2_with fail
        all_goals go_ret
        all_goals first | exact ⟨_, rfl, fun e => Bool.noConfusion e, B.out⟩ | exact ⟨_, rfl, fun e => Bool.noConfusion e, below1 _ _⟩
    · have hkb := kind_ne (a := t.kind) kMethodWithQualifiers hkind (l := [77, 101, 116, 104, 111, 100, 87, 105, 116, 104, 81, 117, 97, 108, 105, 102, 105, 101, 114, 115]) rfl
      clear hkind
      go_enter Tryz.func27, Tryz.ntmps27
      go_wp2_with fail
      all_goals go_ret
      all_goals first | exact ⟨_, rfl, fun e => Bool.noConfusion e, B.out⟩ | exact ⟨_, rfl, fun e => Bool.noConfusion e, below1 _ _⟩

set_option maxHeartbeats 2000000 in
theorem isMemberC (d : Nat) (H : ∀ e, e ≤ d → Known e) : Tests 63 d := by
  intro t kv w h
  cases d with
  | zero => exact h.kids.elim
  | succ d =>
    have HI := Lib.hid h
    have HO := Lib.hid (isObjectC (d + 1) (H (d + 1) (Nat.le_refl _)).typ)
    have HF := Lib.hid (isFunctionTypeC (d + 1) (fun e he => H e (by omega)))
    have HG := Lib.hid (isFunctionTypeC d (fun e he => H e (by omega)))
    obtain ⟨hk, ht, hwf, a, c, rfl, hl, hc, hkids⟩ := h.kids
    have HK := Lib.hid hkids
    have B := Lib.hid (below1 w (.cells #[.string t.kind, .string t.text, .int .i64 t.num, .slice a t.kids.length c] 24))
    clear hkids h H
    by_cases hkind : t.kind = kMethodWithQualifiers
    · have hkb := kind_is (a := t.kind) kMethodWithQualifiers hkind (l := [77, 101, 116, 104, 111, 100, 87, 105, 116, 104, 81, 117, 97, 108, 105, 102, 105, 101, 114, 115]) rfl
      clear hkind
      by_cases hl2 : t.kids.length = 2
      · obtain ⟨x, y, b, o, kx, ky, KE, rfl, hbl, hlen, ⟨x0, x1, x2, x3⟩, ⟨y0, y1, y2, y3⟩, KX, KY⟩ := kids2 HK.out hl2
        have HX := Lib.hid KX
        clear KX KY hl2
        go_enter Tryz.func63, Tryz.ntmps63
        go_wp2_with fail
        refine (isMethodC (d + 1) t _ _ (HI.out.kids.below B.out)).mono ?_
        rintro e w1 ⟨b1, rfl, hp1, hb1⟩
        have B1 := Lib.hid (B.out.trans (hb1.mono B.out.size))
        have z1 : w.heap.size < w1.heap.size := by have := hb1.size; simp at this; omega
        have q1 : b < w1.heap.size := by omega
        obtain ⟨hc1, hf1⟩ := bcell hb1
        cases b1 with
        | false =>
          clear hp1 hb1
          go_wp2_with fail
          go_ret
          exact ⟨_, rfl, fun e => Bool.noConfusion e, B1.out⟩
        | true =>
          have P1 := Lib.hid (hp1 rfl)
          clear hp1 hb1
          go_wp2_with fail
          refine (HG.out x kx _ ⟨HI.out.tabs.below B1.out, HX.out.below B1.out⟩).mono ?_
          rintro e w2 ⟨b2, rfl, hp2, hb2⟩
          have B2 := Lib.hid (B1.out.trans (hb2.mono B1.out.size))
          have z2 : w.heap.size < w2.heap.size := by have := hb2.size; omega
          have q2 : b < w2.heap.size := by omega
          obtain ⟨hc2, hf2⟩ := bcell hb2
          cases b2 with
          | false =>
            clear hp2 hb2
            go_wp2_with fail
            go_ret
            exact ⟨_, rfl, fun e => Bool.noConfusion e, B2.out⟩
          | true =>
            have P2 := Lib.hid (hp2 rfl)
            clear hp2 hb2
            go_wp2_with fail
            go_ret
            exact ⟨_, rfl, fun _ => method_fine P1.out KE.out P2.out, B2.out⟩
      · go_enter Tryz.func63, Tryz.ntmps63
        go_wp2_with fail
        refine (isMethodC (d + 1) t _ _ (HI.out.kids.below B.out)).mono ?_
        rintro e w1 ⟨b1, rfl, hp1, hb1⟩
        have B1 := Lib.hid (B.out.trans (hb1.mono B.out.size))
        cases b1 with
        | true =>
          obtain ⟨_, _, x, y, e, _⟩ := hp1 rfl
          exact (hl2 (by rw [e]; rfl)).elim
        | false =>
          clear hp1 hb1
          go_wp2_with fail
          go_ret
          exact ⟨_, rfl, fun e => Bool.noConfusion e, B1.out⟩
    · have hkb := kind_ne (a := t.kind) kMethodWithQualifiers hkind (l := [77, 101, 116, 104, 111, 100, 87, 105, 116, 104, 81, 117, 97, 108, 105, 102, 105, 101, 114, 115]) rfl
      clear hkind
      go_enter Tryz.func63, Tryz.ntmps63
      go_wp2_with fail
      refine (HF.out t _ _ (HI.out.below B.out)).mono ?_
      rintro e w1 ⟨b1, rfl, hp1, hb1⟩
      have B1 := Lib.hid (B.out.trans (hb1.mono B.out.size))
      have z1 : w.heap.size < w1.heap.size := by have := hb1.size; simp at this; omega
      obtain ⟨hc1, hf1⟩ := bcell hb1
      cases b1 with
      | true =>
        have P1 := Lib.hid (hp1 rfl)
        clear hp1 hb1
        go_wp2_with fail
        go_ret
        exact ⟨_, rfl, fun _ => P1.out, B1.out⟩
      | false =>
        clear hp1 hb1
        go_wp2_with fail
        refine (HO.out t _ _ (HI.out.below B1.out)).mono ?_
        rintro e w2 ⟨b2, rfl, hp2, hb2⟩
        have B2 := Lib.hid (B1.out.trans (hb2.mono B1.out.size))
        have z2 : w.heap.size < w2.heap.size := by have := hb2.size; omega
        obtain ⟨hc2, hf2⟩ := bcell hb2
        cases b2 with
        | false =>
          clear hp2 hb2
          go_wp2_with fail
          go_ret
          exact ⟨_, rfl, fun e => Bool.noConfusion e, B2.out⟩
        | true =>
          have P2 := Lib.hid (hp2 rfl)
          clear hp2 hb2
          go_wp2_with fail
          go_ret
          exact ⟨_, rfl, fun _ => P2.out, B2.out⟩
end Go.Proofs.YtlfbmpenekiigaaGreatDoor
