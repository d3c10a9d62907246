/- IsType, literals and arguments: known at every depth; conditions: the node reads as a tree, the tables hold texts. -/
import Derived.Test.YtlfbmpenekiigaaGreatDoorSpecT
import Derived.Test.YtlfbmpenekiigaaGreatDoorSpecU
namespace Go.Proofs.YtlfbmpenekiigaaGreatDoor
open Go.ChangeShapes Go.WideShapes Go.ChangeAt Go.RowKit
set_option linter.unusedVariables false

theorem literal_fine {d : Nat} {t x : Tree} (hk : t.kind = kLiteral) (hn : t.num = 0 ∨ t.num = 1) (e : t.kids = [x]) (hx : Fine d x) : Fine (d + 1) t :=
  .mk (.inr (.inr (.inr (.inr (.inl ⟨hk, hn, x, e, hx.kind⟩))))) (by
    rw [e]; intro z hz
    rcases List.mem_cons.1 hz with rfl | hz
    · exact hx.1
    · cases hz)

theorem pack_fine {d : Nat} {t : Tree} (hk : t.kind = kArgumentPack) (ht : t.text = ByteArray.empty) (hn : t.num = 0) (h : ∀ x ∈ t.kids, Fine d x) : Fine (d + 1) t :=
  .mk (.inr (.inr (.inr (.inr (.inr (.inr (.inr (.inl ⟨.inr hk, ht, hn, fun x hx => (h x hx).kind⟩)))))))) (fun x hx => (h x hx).1)

set_option maxRecDepth 100000 in
set_option maxHeartbeats 4000000 in
theorem isLiteralC (d : Nat) (H : ∀ e, e < d → Known e) (t : Tree) (kv : Value) (w : World) (h : In w d t kv) (e1 : t.kind = kLiteral) :
    Calls Tryz.prog 65 #[.agg #[.string t.kind, .string t.text, .int .i64 t.num, kv]] w (Ans w (Fine d t)) := by
  cases d with
  | zero => exact h.kids.elim
  | succ d =>
    have HI := Lib.hid h
    obtain ⟨hk, ht, hwf, a, c, rfl, hl, hc, hkids⟩ := h.kids
    have HK := Lib.hid hkids
    have B := Lib.hid (below1 w (.cells #[.string t.kind, .string t.text, .int .i64 t.num, .slice a t.kids.length c] 24))
    have HC := Lib.hid (H d (by omega)).cls
    have HT := Lib.hid (H d (by omega)).typ
    have E := Lib.hid e1
    clear hkids h H e1
    by_cases hl2 : t.kids.length = 1
    · have hln : ((t.kids.length : Int) != 1) = false := by simp [hl2]
      obtain ⟨x, b, o, xa, xc, hx0, _, rfl, hbl, ⟨x0, x1, x2, x3⟩, KX⟩ := kid0 HK.out (by omega)
      obtain ⟨x', ek⟩ := one_of_len hl2
      obtain rfl : x' = x := by rw [ek] at hx0; simpa using hx0
      have KE := Lib.hid ek
      have HX := Lib.hid KX
      have hlen : 0 < t.kids.length := by omega
      clear KX ek hx0 hl2
      by_cases hn0 : 0 ≤ t.num
      · by_cases hn1 : t.num ≤ 1
        · have HN : Hid (t.num = 0 ∨ t.num = 1) := by show _ ∨ _; omega
          have B0 := Lib.hid (B.out.trans ((below1 _ (.cells #[.string x'.kind, .string x'.text, .int .i64 x'.num, .slice xa x'.kids.length xc] 24)).mono B.out.size))
          cases hxb : (x'.kind.toList == [66, 117, 105, 108, 116, 105, 110, 84, 121, 112, 101])
          all_goals
            go_enter Tryz.func65, Tryz.ntmps65
            go_wp2_with (first | (go_at_call 68; refine (digitsC _ _ ht).mono ?_; rintro e w' ⟨b1, rfl, rfl⟩; cases b1) | (go_at_call 14; (refine (HC.out x' _ _ ⟨HI.out.tabs.below B0.out, HX.out.below B0.out⟩).mono ?_); rintro e w1 ⟨b1, rfl, hp1, hb1⟩; have B1 := Lib.hid (B0.out.trans (hb1.mono B0.out.size)); have z1 : w.heap.size + 1 < w1.heap.size := (by have := hb1.size; simp at this; omega); obtain ⟨hc1, hf1⟩ := bcell hb1; have P1 : IfT b1 (Fine d x') := hp1; clear hp1 hb1; cases b1) | (go_at_call 15; (refine (hasC _ d x' _ _ (HX.out.below B1.out)).mono ?_); rintro e w2 ⟨b2, rfl, _, hb2⟩; have B2 := Lib.hid (B1.out.trans (hb2.mono B1.out.size)); clear hb2; cases b2) | (go_at_call 45; (refine (HT.out x' _ _ ⟨HI.out.tabs.below B0.out, HX.out.below B0.out⟩).mono ?_); rintro e w1 ⟨b1, rfl, hp1, hb1⟩; have B1 := Lib.hid (B0.out.trans (hb1.mono B0.out.size)); have z1 : w.heap.size < w1.heap.size := (by have := hb1.size; simp at this; omega); obtain ⟨hc1, hf1⟩ := bcell hb1; have P1 : IfT b1 (Fine d x') := hp1; clear hp1 hb1; cases b1))
            all_goals go_ret
            all_goals first | exact ⟨_, rfl, fun e => Bool.noConfusion e, B.out⟩ | exact ⟨_, rfl, fun e => Bool.noConfusion e, B0.out⟩ | exact ⟨_, rfl, fun e => Bool.noConfusion e, B1.out⟩ | exact ⟨_, rfl, fun e => Bool.noConfusion e, B2.out⟩ | exact ⟨_, rfl, fun _ => literal_fine E.out HN.out KE.out P1.out, B2.out⟩ | exact ⟨_, rfl, fun _ => literal_fine E.out HN.out KE.out P1.out, B1.out⟩
        · go_enter Tryz.func65, Tryz.ntmps65
          go_wp2_with (go_at_call 68; refine (digitsC _ _ ht).mono ?_; rintro e w' ⟨b1, rfl, rfl⟩; cases b1)
          all_goals go_ret
          all_goals exact ⟨_, rfl, fun e => Bool.noConfusion e, B.out⟩
      · go_enter Tryz.func65, Tryz.ntmps65
        go_wp2_with (go_at_call 68; refine (digitsC _ _ ht).mono ?_; rintro e w' ⟨b1, rfl, rfl⟩; cases b1)
        all_goals go_ret
        all_goals exact ⟨_, rfl, fun e => Bool.noConfusion e, B.out⟩
    · have hln : ((t.kids.length : Int) != 1) = true := by simp; omega
      clear hl2
      go_enter Tryz.func65, Tryz.ntmps65
      go_wp2_with fail
      all_goals go_ret
      all_goals exact ⟨_, rfl, fun e => Bool.noConfusion e, B.out⟩
set_option maxRecDepth 100000 in
set_option maxHeartbeats 1000000 in
theorem isTypeC (d : Nat) (H : ∀ e, e < d → Known e) : Tests 45 d := by
  intro t kv w h
  by_cases e0 : t.kind = kName
  · exact typeName d H t kv w h e0
  by_cases e1 : t.kind = kTaggedName
  · exact typeTaggedName d H t kv w h e1
  by_cases e2 : t.kind = kQualified
  · exact typeQualified d H t kv w h e2
  by_cases e3 : t.kind = kTemplate
  · exact typeTemplate d H t kv w h e3
  by_cases e4 : t.kind = kBuiltinType
  · exact typeBuiltinType d H t kv w h e4
  by_cases e5 : t.kind = kPointerType
  · exact typePointerType d H t kv w h e5
  by_cases e6 : t.kind = kReferenceType
  · exact typeReferenceType d H t kv w h e6
  by_cases e7 : t.kind = kRvalueReferenceType
  · exact typeRvalueReferenceType d H t kv w h e7
  by_cases e8 : t.kind = kTypeWithQualifiers
  · exact typeTypeWithQualifiers d H t kv w h e8
  by_cases e9 : t.kind = kComplexType
  · exact typeComplexType d H t kv w h e9
  by_cases e10 : t.kind = kImaginaryType
  · exact typeImaginaryType d H t kv w h e10
  by_cases e11 : t.kind = kFunctionType
  · exact typeFunctionType d H t kv w h e11
  by_cases e12 : t.kind = kArrayType
  · exact typeArrayType d H t kv w h e12
  by_cases e13 : t.kind = kPtrMem
  · exact typePtrMem d H t kv w h e13
  by_cases e14 : t.kind = kVectorType
  · exact typeVectorType d H t kv w h e14
  by_cases e15 : t.kind = kVendorQualifier
  · exact typeVendorQualifier d H t kv w h e15
  obtain ⟨a, c, rfl⟩ := h.kids.form
  have k0 := kind_ne (a := t.kind) kName e0 (l := [78, 97, 109, 101]) rfl
  have k1 := kind_ne (a := t.kind) kTaggedName e1 (l := [84, 97, 103, 103, 101, 100, 78, 97, 109, 101]) rfl
  have k2 := kind_ne (a := t.kind) kQualified e2 (l := [81, 117, 97, 108, 105, 102, 105, 101, 100]) rfl
  have k3 := kind_ne (a := t.kind) kTemplate e3 (l := [84, 101, 109, 112, 108, 97, 116, 101]) rfl
  have k4 := kind_ne (a := t.kind) kBuiltinType e4 (l := [66, 117, 105, 108, 116, 105, 110, 84, 121, 112, 101]) rfl
  have k5 := kind_ne (a := t.kind) kPointerType e5 (l := [80, 111, 105, 110, 116, 101, 114, 84, 121, 112, 101]) rfl
  have k6 := kind_ne (a := t.kind) kReferenceType e6 (l := [82, 101, 102, 101, 114, 101, 110, 99, 101, 84, 121, 112, 101]) rfl
  have k7 := kind_ne (a := t.kind) kRvalueReferenceType e7 (l := [82, 118, 97, 108, 117, 101, 82, 101, 102, 101, 114, 101, 110, 99, 101, 84, 121, 112, 101]) rfl
  have k8 := kind_ne (a := t.kind) kTypeWithQualifiers e8 (l := [84, 121, 112, 101, 87, 105, 116, 104, 81, 117, 97, 108, 105, 102, 105, 101, 114, 115]) rfl
  have k9 := kind_ne (a := t.kind) kComplexType e9 (l := [67, 111, 109, 112, 108, 101, 120, 84, 121, 112, 101]) rfl
  have k10 := kind_ne (a := t.kind) kImaginaryType e10 (l := [73, 109, 97, 103, 105, 110, 97, 114, 121, 84, 121, 112, 101]) rfl
  have k11 := kind_ne (a := t.kind) kFunctionType e11 (l := [70, 117, 110, 99, 116, 105, 111, 110, 84, 121, 112, 101]) rfl
  have k12 := kind_ne (a := t.kind) kArrayType e12 (l := [65, 114, 114, 97, 121, 84, 121, 112, 101]) rfl
  have k13 := kind_ne (a := t.kind) kPtrMem e13 (l := [80, 116, 114, 77, 101, 109]) rfl
  have k14 := kind_ne (a := t.kind) kVectorType e14 (l := [86, 101, 99, 116, 111, 114, 84, 121, 112, 101]) rfl
  have k15 := kind_ne (a := t.kind) kVendorQualifier e15 (l := [86, 101, 110, 100, 111, 114, 81, 117, 97, 108, 105, 102, 105, 101, 114]) rfl
  clear e0 e1 e2 e3 e4 e5 e6 e7 e8 e9 e10 e11 e12 e13 e14 e15 h H
  go_enter Tryz.func45, Tryz.ntmps45
  go_wp2_with fail
  go_ret
  exact ⟨_, rfl, fun e => Bool.noConfusion e, below1 _ _⟩

set_option maxRecDepth 100000 in
set_option maxHeartbeats 2000000 in
theorem isArgC (d : Nat) (H : ∀ e, e < d → Known e) (K : Tests 45 d) : Tests 49 d := by
  intro t kv w h
  cases d with
  | zero => exact h.kids.elim
  | succ d =>
    have HI := Lib.hid h
    obtain ⟨hk, ht, hwf, a, c, rfl, hl, hc, hkids⟩ := h.kids
    have HK := Lib.hid hkids
    have B := Lib.hid (below1 w (.cells #[.string t.kind, .string t.text, .int .i64 t.num, .slice a t.kids.length c] 24))
    have HY := Lib.hid K
    have HA := Lib.hid (H d (by omega)).arg
    by_cases e0 : t.kind = kLiteral
    · have HL := Lib.hid (isLiteralC (d + 1) H)
      have k0 := kind_is (a := t.kind) kLiteral e0 (l := [76, 105, 116, 101, 114, 97, 108]) rfl
      have E := Lib.hid e0
      clear hkids h H e0 K
      go_enter Tryz.func49, Tryz.ntmps49
      go_wp2_with fail
      refine (HL.out t _ _ (HI.out.below B.out) E.out).mono ?_
      rintro e w1 ⟨b1, rfl, hp1, hb1⟩
      have B1 := Lib.hid (B.out.trans (hb1.mono B.out.size))
      have P1 : IfT b1 (Fine (d + 1) t) := hp1
      clear hp1 hb1
      go_wp2_with fail
      go_ret
      exact ⟨_, rfl, P1, B1.out⟩
    · have k0 := kind_ne (a := t.kind) kLiteral e0 (l := [76, 105, 116, 101, 114, 97, 108]) rfl
      by_cases e1 : t.kind = kArgumentPack
      · have k1 := kind_is (a := t.kind) kArgumentPack e1 (l := [65, 114, 103, 117, 109, 101, 110, 116, 80, 97, 99, 107]) rfl
        have E := Lib.hid e1
        clear hkids h H e0 e1 K
        by_cases htx : t.text = ByteArray.empty
        · have ht0 : t.text.toList = [] := by rw [htx, Lib.toList_data]; rfl
          have HTX := Lib.hid htx
          clear htx
          by_cases hnum : t.num = 0
          · have hn : (t.num != 0) = false := by simp [hnum]
            have HNUM := Lib.hid hnum
            clear hnum
            go_enter Tryz.func49, Tryz.ntmps49
            go_wp2_with fail
            go_loopw [24] (fun i wr => Round w wr t.kids (Fine d) i) (fun i _ => t.kids.length - (intOf i).toNat)
            case atStart => exact ⟨0, Nat.zero_le _, rfl, B.out, Upto.zero _ _⟩
            case round =>
              obtain ⟨j, hj, rfl, hb, hup⟩ := hrel
              have HB := Lib.hid hb
              have HU := Lib.hid hup
              have hsz := hb.size
              by_cases hlt : j < t.kids.length
              · obtain ⟨x, b, o, xa, xc, hx, hm, rfl, hbl, ⟨x0, x1, x2, x3⟩, KX⟩ := kid_at HK.out hlt
                have HX := Lib.hid hx
                have HKX := Lib.hid KX
                obtain ⟨hc1, hf1⟩ := bcell hb
                have q1 : b < wr.heap.size := by omega
                have B0 := Lib.hid (HB.out.trans ((below1 wr (.cells #[.string x.kind, .string x.text, .int .i64 x.num, .slice xa x.kids.length xc] 24)).mono hsz))
                clear hb hup hx KX hm
                cases hxp : (x.kind.toList == [65, 114, 103, 117, 109, 101, 110, 116, 80, 97, 99, 107])
                · go_wp2_with fail
                  refine (HA.out x _ _ ⟨HI.out.tabs.below B0.out, HKX.out.below B0.out⟩).mono ?_
                  rintro e w1 ⟨b1, rfl, hp1, hb1⟩
                  have B1 := Lib.hid (B0.out.trans (hb1.mono B0.out.size))
                  cases b1
                  · clear hp1 hb1
                    go_wp2_with fail
                    go_ret
                    exact ⟨_, rfl, fun e => Bool.noConfusion e, B1.out⟩
                  · have P1 := Lib.hid (hp1 rfl)
                    clear hp1 hb1
                    go_wp2_with fail
                    go_roundw
                    case rel => exact ⟨j + 1, by omega, by go_num, B1.out, HU.out.succ HX.out P1.out⟩
                    case measure => simp [intOf]; omega
                · go_wp2_with fail
                  go_ret
                  exact ⟨_, rfl, fun e => Bool.noConfusion e, B0.out⟩
              · have HE : Hid (j = t.kids.length) := by show j = _; omega
                clear hb hup
                go_wp2_with fail
                go_ret
                exact ⟨_, rfl, fun _ => pack_fine E.out HTX.out HNUM.out (HE.out ▸ HU.out).all, HB.out⟩
          · have hn : (t.num != 0) = true := by simpa using hnum
            clear hnum
            go_enter Tryz.func49, Tryz.ntmps49
            go_wp2_with fail
            go_ret
            exact ⟨_, rfl, fun e => Bool.noConfusion e, B.out⟩
        · have ht0 : t.text.toList.isEmpty = false := by
            cases he : t.text.toList with
            | nil => exact (htx (empty_of_nil he)).elim
            | cons _ _ => rfl
          clear htx
          go_enter Tryz.func49, Tryz.ntmps49
          go_wp2_with fail
          go_ret
          exact ⟨_, rfl, fun e => Bool.noConfusion e, B.out⟩
      · have k1 := kind_ne (a := t.kind) kArgumentPack e1 (l := [65, 114, 103, 117, 109, 101, 110, 116, 80, 97, 99, 107]) rfl
        clear hkids h H e0 e1 K
        go_enter Tryz.func49, Tryz.ntmps49
        go_wp2_with fail
        refine (HY.out t _ _ (HI.out.below B.out)).mono ?_
        rintro e w1 ⟨b1, rfl, hp1, hb1⟩
        have B1 := Lib.hid (B.out.trans (hb1.mono B.out.size))
        have P1 : IfT b1 (Fine (d + 1) t) := hp1
        clear hp1 hb1
        go_wp2_with fail
        go_ret
        exact ⟨_, rfl, P1, B1.out⟩

/-- The three tests at every depth. -/
theorem known : ∀ d, Known d := by
  intro d
  induction d using Nat.strongRecOn with
  | _ d ih => exact ⟨isClassC d ih, isTypeC d ih, isArgC d ih (isTypeC d ih)⟩
end Go.Proofs.YtlfbmpenekiigaaGreatDoor
