/- IsType at types with qualifiers; conditions: the node reads as a tree, the tables hold texts, smaller ones are known. -/
import Derived.Test.YtlfbmpenekiigaaGreatDoorSpecM
import Derived.Deep.RegionWith
import Derived.Outline
namespace Go.Proofs.YtlfbmpenekiigaaGreatDoor
open Go.ChangeShapes Go.WideShapes Go.ChangeAt Go.RowKit
set_option linter.unusedVariables false

set_option maxRecDepth 100000 in
set_option maxHeartbeats 16000000 in
theorem typeTypeWithQualifiers (d : Nat) (H : ∀ e, e < d → Known e) (t : Tree) (kv : Value) (w : World) (h : In w d t kv) (e1 : t.kind = kTypeWithQualifiers) :
    Calls Tryz.prog 45 #[.agg #[.string t.kind, .string t.text, .int .i64 t.num, kv]] w (Ans w (Fine d t)) := by
  cases d with
  | zero => exact h.kids.elim
  | succ d =>
    have HI := Lib.hid h
    obtain ⟨hk, ht, hwf, a, c, rfl, hl, hc, hkids⟩ := h.kids
    have HK := Lib.hid hkids
    have B := Lib.hid (below1 w (.cells #[.string t.kind, .string t.text, .int .i64 t.num, .slice a t.kids.length c] 24))
    have HQ := Lib.hid (isQualifiedC d (H d (by omega)).typ)
    have k0 := kind_ne (a := t.kind) kName (by rw [e1]; decide) (l := [78, 97, 109, 101]) rfl
    have k1 := kind_ne (a := t.kind) kTaggedName (by rw [e1]; decide) (l := [84, 97, 103, 103, 101, 100, 78, 97, 109, 101]) rfl
    have k2 := kind_ne (a := t.kind) kQualified (by rw [e1]; decide) (l := [81, 117, 97, 108, 105, 102, 105, 101, 100]) rfl
    have k3 := kind_ne (a := t.kind) kTemplate (by rw [e1]; decide) (l := [84, 101, 109, 112, 108, 97, 116, 101]) rfl
    have k4 := kind_ne (a := t.kind) kBuiltinType (by rw [e1]; decide) (l := [66, 117, 105, 108, 116, 105, 110, 84, 121, 112, 101]) rfl
    have k5 := kind_ne (a := t.kind) kPointerType (by rw [e1]; decide) (l := [80, 111, 105, 110, 116, 101, 114, 84, 121, 112, 101]) rfl
    have k6 := kind_ne (a := t.kind) kReferenceType (by rw [e1]; decide) (l := [82, 101, 102, 101, 114, 101, 110, 99, 101, 84, 121, 112, 101]) rfl
    have k7 := kind_ne (a := t.kind) kRvalueReferenceType (by rw [e1]; decide) (l := [82, 118, 97, 108, 117, 101, 82, 101, 102, 101, 114, 101, 110, 99, 101, 84, 121, 112, 101]) rfl
    have k8 := kind_is (a := t.kind) kTypeWithQualifiers e1 (l := [84, 121, 112, 101, 87, 105, 116, 104, 81, 117, 97, 108, 105, 102, 105, 101, 114, 115]) rfl
    have E := Lib.hid e1
    have PLHN : Hid (∀ w1, Below w.heap.size w w1 → Calls Tryz.prog 21 #[.agg #[.string t.kind, .string t.text, .int .i64 t.num, .slice a t.kids.length c], .int .i64 2] w1 (Ans w1 (PlainT t 2))) := fun w1 hb => plainC t _ 2 (d + 1) _ (h.kids.below hb)
    clear hkids h H e1
    by_cases hl2 : t.kids.length = 2
    · have HL2 := Lib.hid hl2
      obtain ⟨x, y, b, o, kx, ky, KE, rfl, hbl, hlen, ⟨x0, x1, x2, x3⟩, ⟨y0, y1, y2, y3⟩, KX, KY⟩ := kids2 HK.out hl2
      have HX := Lib.hid KX
      have hl0 : 0 < t.kids.length := by omega
      have hl1 : (1 : Int) < (t.kids.length : Int) := by omega
      have HY := Lib.hid KY
      have BD := Lib.hid (Below.drew B.out)
      have QL : Hid (∀ r w1, Below w.heap.size w w1 → Calls Tryz.prog 46 #[.agg #[.string y.kind, .string y.text, .int .i64 y.num, ky], .bool r] w1 (Ans w1 (Fine d y))) :=
        fun r w1 hb => isQualifiersC d r y ky w1 (KY.below hb)
      clear KX KY hl2
      cases hxp : (x.kind.toList == [80, 111, 105, 110, 116, 101, 114, 84, 121, 112, 101])
      · go_enter Tryz.func45, Tryz.ntmps45
        go_wp2_with fail
        refine wp_region_any (by kernel_rfl) ?_
        change wpAny _ _ _ _ _ _ _ (World.drew _)
        refine wpAny_ready (rs := [0]) (by kernel_rfl) (by simp) ?_
        refine AllReady.cons rfl (fun K hK => ?_) AllReady.nil
        go_simp
        refine hK _ _ ?_
        clear hK K
        refine wpAny_ready (rs := [1]) (by kernel_rfl) (by simp) ?_
        refine AllReady.cons rfl (fun K hK => ?_) AllReady.nil
        go_simp
        refine (PLHN.out _ BD.out).mono ?_
        rintro e w1 ⟨b1, rfl, hp1, hb1⟩
        have B1 := Lib.hid (BD.out.trans (hb1.mono BD.out.size))
        have z1 : w.heap.size < w1.heap.size := by have := hb1.size; simp at this; omega
        have q1 : b < w1.heap.size := by omega
        obtain ⟨hc1, hf1⟩ := bcell hb1
        have P1 : IfT b1 (PlainT t 2) := hp1
        clear hp1 hb1
        cases b1
        · refine hK _ _ ?_
          clear hK K
          refine wpAny_take (i := 2) (v := ?va1) rfl (by kernel_rfl) (by kernel_rfl) (by kernel_rfl) (fun _ _ _ h => h) (Or.inl ⟨by kernel_rfl, ?ya1⟩) ?za1
          case ya1 => (intro w; go_simp; try with_reducible rfl)
          refine wpAny_take (i := 3) (v := undef) rfl (by kernel_rfl) (by kernel_rfl) (by kernel_rfl) (fun _ _ _ h => h) (Or.inr ⟨by kernel_rfl, rfl⟩) ?_
          refine wpAny_take (i := 4) (v := undef) rfl (by kernel_rfl) (by kernel_rfl) (by kernel_rfl) (fun _ _ _ h => h) (Or.inr ⟨by kernel_rfl, rfl⟩) ?_
          refine wpAny_take (i := 5) (v := undef) rfl (by kernel_rfl) (by kernel_rfl) (by kernel_rfl) (fun _ _ _ h => h) (Or.inr ⟨by kernel_rfl, rfl⟩) ?_
          refine wpAny_take (i := 6) (v := undef) rfl (by kernel_rfl) (by kernel_rfl) (by kernel_rfl) (fun _ _ _ h => h) (Or.inr ⟨by kernel_rfl, rfl⟩) ?_
          refine wpAny_take (i := 7) (v := undef) rfl (by kernel_rfl) (by kernel_rfl) (by kernel_rfl) (fun _ _ _ h => h) (Or.inr ⟨by kernel_rfl, rfl⟩) ?_
          refine wpAny_take (i := 8) (v := ?va2) rfl (by kernel_rfl) (by kernel_rfl) (by kernel_rfl) (fun _ _ _ h => h) (Or.inl ⟨by kernel_rfl, ?ya2⟩) ?za2
          case ya2 => (intro w; go_simp; try with_reducible rfl)
          refine wpAny_take (i := 9) (v := ?va3) rfl (by kernel_rfl) (by kernel_rfl) (by kernel_rfl) (fun _ _ _ h => h) (Or.inl ⟨by kernel_rfl, ?ya3⟩) ?za3
          case ya3 => (intro w; go_simp; try with_reducible rfl)
          refine wpAny_take (i := 10) (v := undef) rfl (by kernel_rfl) (by kernel_rfl) (by kernel_rfl) (fun _ _ _ h => h) (Or.inr ⟨by kernel_rfl, rfl⟩) ?_
          refine wpAny_take (i := 11) (v := undef) rfl (by kernel_rfl) (by kernel_rfl) (by kernel_rfl) (fun _ _ _ h => h) (Or.inr ⟨by kernel_rfl, rfl⟩) ?_
          refine wpAny_take (i := 12) (v := undef) rfl (by kernel_rfl) (by kernel_rfl) (by kernel_rfl) (fun _ _ _ h => h) (Or.inr ⟨by kernel_rfl, rfl⟩) ?_
          refine wpAny_take (i := 13) (v := undef) rfl (by kernel_rfl) (by kernel_rfl) (by kernel_rfl) (fun _ _ _ h => h) (Or.inr ⟨by kernel_rfl, rfl⟩) ?_
          refine wpAny_take (i := 14) (v := undef) rfl (by kernel_rfl) (by kernel_rfl) (by kernel_rfl) (fun _ _ _ h => h) (Or.inr ⟨by kernel_rfl, rfl⟩) ?_
          refine wpAny_take (i := 15) (v := undef) rfl (by kernel_rfl) (by kernel_rfl) (by kernel_rfl) (fun _ _ _ h => h) (Or.inr ⟨by kernel_rfl, rfl⟩) ?_
          refine wpAny_take (i := 16) (v := undef) rfl (by kernel_rfl) (by kernel_rfl) (by kernel_rfl) (fun _ _ _ h => h) (Or.inr ⟨by kernel_rfl, rfl⟩) ?_
          refine wpAny_take (i := 17) (v := undef) rfl (by kernel_rfl) (by kernel_rfl) (by kernel_rfl) (fun _ _ _ h => h) (Or.inr ⟨by kernel_rfl, rfl⟩) ?_
          refine wpAny_take (i := 18) (v := undef) rfl (by kernel_rfl) (by kernel_rfl) (by kernel_rfl) (fun _ _ _ h => h) (Or.inr ⟨by kernel_rfl, rfl⟩) ?_
          refine wpAny_take (i := 19) (v := undef) rfl (by kernel_rfl) (by kernel_rfl) (by kernel_rfl) (fun _ _ _ h => h) (Or.inr ⟨by kernel_rfl, rfl⟩) ?_
          refine wpAny_take (i := 20) (v := undef) rfl (by kernel_rfl) (by kernel_rfl) (by kernel_rfl) (fun _ _ _ h => h) (Or.inr ⟨by kernel_rfl, rfl⟩) ?_
          refine wpAny_take (i := 21) (v := ?va4) rfl (by kernel_rfl) (by kernel_rfl) (by kernel_rfl) (fun _ _ _ h => h) (Or.inl ⟨by kernel_rfl, ?ya4⟩) ?za4
          case ya4 => (intro w; go_simp; try with_reducible rfl)
          refine wpAny_take (i := 22) (v := ?va5) rfl (by kernel_rfl) (by kernel_rfl) (by kernel_rfl) (fun _ _ _ h => h) (Or.inl ⟨by kernel_rfl, ?ya5⟩) ?za5
          case ya5 => (intro w; go_simp; try with_reducible rfl)
          refine wpAny_done (by kernel_rfl) ?_ _
          go_simp
          go_wp2
          go_ret
          first | exact ⟨_, rfl, fun e => Bool.noConfusion e, B3.out⟩ | exact ⟨_, rfl, fun e => Bool.noConfusion e, B2.out⟩ | exact ⟨_, rfl, fun e => Bool.noConfusion e, B1.out⟩ | exact ⟨_, rfl, fun _ => binary_fine (by rw [E.out]; decide) P1.out KE.out P2.out P3.out, B3.out⟩
        · refine hK _ _ ?_
          clear hK K
          refine wpAny_take (i := 2) (v := ?va6) rfl (by kernel_rfl) (by kernel_rfl) (by kernel_rfl) (fun _ _ _ h => h) (Or.inl ⟨by kernel_rfl, ?ya6⟩) ?za6
          case ya6 => (intro w; go_simp; try with_reducible rfl)
          refine wpAny_take (i := 3) (v := ?va7) rfl (by kernel_rfl) (by kernel_rfl) (by kernel_rfl) (fun _ _ _ h => h) (Or.inl ⟨by kernel_rfl, ?ya7⟩) ?za7
          case ya7 => (intro w; go_simp; try with_reducible rfl)
          refine wpAny_ready (rs := [4]) (by kernel_rfl) (by simp) ?_
          refine AllReady.cons rfl (fun K hK => ?_) AllReady.nil
          go_simp
          refine hK _ _ ?_
          clear hK K
          refine wpAny_take (i := 5) (v := ?va8) rfl (by kernel_rfl) (by kernel_rfl) (by kernel_rfl) (fun _ _ _ h => h) (Or.inl ⟨by kernel_rfl, ?ya8⟩) ?za8
          case ya8 => (intro w; go_simp; try with_reducible rfl)
          refine wpAny_ready (rs := [6]) (by kernel_rfl) (by simp) ?_
          refine AllReady.cons rfl (fun K hK => ?_) AllReady.nil
          go_simp
          refine hK _ _ ?_
          clear hK K
          refine wpAny_ready (rs := [7]) (by kernel_rfl) (by simp) ?_
          refine AllReady.cons rfl (fun K hK => ?_) AllReady.nil
          go_simp
          refine (HQ.out x kx _ ⟨HI.out.tabs.below B1.out, HX.out.below B1.out⟩).mono ?_
          rintro e w2 ⟨b2, rfl, hp2, hb2⟩
          have B2 := Lib.hid (B1.out.trans (hb2.mono B1.out.size))
          have z2 : w.heap.size < w2.heap.size := by have := hb2.size; omega
          have q2 : b < w2.heap.size := by omega
          obtain ⟨hc2, hf2⟩ := bcell hb2
          have P2 : IfT b2 (Fine d x) := hp2
          clear hp2 hb2
          cases b2
          · refine hK _ _ ?_
            clear hK K
            refine wpAny_take (i := 8) (v := ?va9) rfl (by kernel_rfl) (by kernel_rfl) (by kernel_rfl) (fun _ _ _ h => h) (Or.inl ⟨by kernel_rfl, ?ya9⟩) ?za9
            case ya9 => (intro w; go_simp; try with_reducible rfl)
            refine wpAny_take (i := 9) (v := ?va10) rfl (by kernel_rfl) (by kernel_rfl) (by kernel_rfl) (fun _ _ _ h => h) (Or.inl ⟨by kernel_rfl, ?ya10⟩) ?za10
            case ya10 => (intro w; go_simp; try with_reducible rfl)
            refine wpAny_take (i := 10) (v := undef) rfl (by kernel_rfl) (by kernel_rfl) (by kernel_rfl) (fun _ _ _ h => h) (Or.inr ⟨by kernel_rfl, rfl⟩) ?_
            refine wpAny_take (i := 11) (v := undef) rfl (by kernel_rfl) (by kernel_rfl) (by kernel_rfl) (fun _ _ _ h => h) (Or.inr ⟨by kernel_rfl, rfl⟩) ?_
            refine wpAny_take (i := 12) (v := undef) rfl (by kernel_rfl) (by kernel_rfl) (by kernel_rfl) (fun _ _ _ h => h) (Or.inr ⟨by kernel_rfl, rfl⟩) ?_
            refine wpAny_take (i := 13) (v := undef) rfl (by kernel_rfl) (by kernel_rfl) (by kernel_rfl) (fun _ _ _ h => h) (Or.inr ⟨by kernel_rfl, rfl⟩) ?_
            refine wpAny_take (i := 14) (v := undef) rfl (by kernel_rfl) (by kernel_rfl) (by kernel_rfl) (fun _ _ _ h => h) (Or.inr ⟨by kernel_rfl, rfl⟩) ?_
            refine wpAny_take (i := 15) (v := undef) rfl (by kernel_rfl) (by kernel_rfl) (by kernel_rfl) (fun _ _ _ h => h) (Or.inr ⟨by kernel_rfl, rfl⟩) ?_
            refine wpAny_take (i := 16) (v := undef) rfl (by kernel_rfl) (by kernel_rfl) (by kernel_rfl) (fun _ _ _ h => h) (Or.inr ⟨by kernel_rfl, rfl⟩) ?_
            refine wpAny_take (i := 17) (v := undef) rfl (by kernel_rfl) (by kernel_rfl) (by kernel_rfl) (fun _ _ _ h => h) (Or.inr ⟨by kernel_rfl, rfl⟩) ?_
            refine wpAny_take (i := 18) (v := undef) rfl (by kernel_rfl) (by kernel_rfl) (by kernel_rfl) (fun _ _ _ h => h) (Or.inr ⟨by kernel_rfl, rfl⟩) ?_
            refine wpAny_take (i := 19) (v := undef) rfl (by kernel_rfl) (by kernel_rfl) (by kernel_rfl) (fun _ _ _ h => h) (Or.inr ⟨by kernel_rfl, rfl⟩) ?_
            refine wpAny_take (i := 20) (v := undef) rfl (by kernel_rfl) (by kernel_rfl) (by kernel_rfl) (fun _ _ _ h => h) (Or.inr ⟨by kernel_rfl, rfl⟩) ?_
            refine wpAny_take (i := 21) (v := ?va11) rfl (by kernel_rfl) (by kernel_rfl) (by kernel_rfl) (fun _ _ _ h => h) (Or.inl ⟨by kernel_rfl, ?ya11⟩) ?za11
            case ya11 => (intro w; go_simp; try with_reducible rfl)
            refine wpAny_take (i := 22) (v := ?va12) rfl (by kernel_rfl) (by kernel_rfl) (by kernel_rfl) (fun _ _ _ h => h) (Or.inl ⟨by kernel_rfl, ?ya12⟩) ?za12
            case ya12 => (intro w; go_simp; try with_reducible rfl)
            refine wpAny_done (by kernel_rfl) ?_ _
            go_simp
            go_wp2
            go_ret
            first | exact ⟨_, rfl, fun e => Bool.noConfusion e, B3.out⟩ | exact ⟨_, rfl, fun e => Bool.noConfusion e, B2.out⟩ | exact ⟨_, rfl, fun e => Bool.noConfusion e, B1.out⟩ | exact ⟨_, rfl, fun _ => binary_fine (by rw [E.out]; decide) P1.out KE.out P2.out P3.out, B3.out⟩
          · refine hK _ _ ?_
            clear hK K
            refine wpAny_take (i := 8) (v := ?va13) rfl (by kernel_rfl) (by kernel_rfl) (by kernel_rfl) (fun _ _ _ h => h) (Or.inl ⟨by kernel_rfl, ?ya13⟩) ?za13
            case ya13 => (intro w; go_simp; try with_reducible rfl)
            refine wpAny_take (i := 9) (v := ?va14) rfl (by kernel_rfl) (by kernel_rfl) (by kernel_rfl) (fun _ _ _ h => h) (Or.inl ⟨by kernel_rfl, ?ya14⟩) ?za14
            case ya14 => (intro w; go_simp; try with_reducible rfl)
            refine wpAny_take (i := 10) (v := ?va15) rfl (by kernel_rfl) (by kernel_rfl) (by kernel_rfl) (fun _ _ _ h => h) (Or.inl ⟨by kernel_rfl, ?ya15⟩) ?za15
            case ya15 => (intro w; go_simp; try with_reducible rfl)
            refine wpAny_take (i := 14) (v := ?va16) rfl (by kernel_rfl) (by kernel_rfl) (by kernel_rfl) (fun _ _ _ h => h) (Or.inl ⟨by kernel_rfl, ?ya16⟩) ?za16
            case ya16 => (intro w; go_simp; try with_reducible rfl)
            refine wpAny_ready (rs := [11, 15]) (by kernel_rfl) (by simp) ?_
            refine AllReady.cons rfl (fun K hK => ?_) ?_
            · go_simp
              refine hK _ _ ?_
              clear hK K
              refine wpAny_take (i := 12) (v := ?va17) rfl (by kernel_rfl) (by kernel_rfl) (by kernel_rfl) (fun _ _ _ h => h) (Or.inl ⟨by kernel_rfl, ?ya17⟩) ?za17
              case ya17 => (intro w; go_simp; try with_reducible rfl)
              refine wpAny_ready (rs := [13, 15]) (by kernel_rfl) (by simp) ?_
              refine AllReady.cons rfl (fun K hK => ?_) ?_
              · go_simp
                refine hK _ _ ?_
                clear hK K
                refine wpAny_ready (rs := [15]) (by kernel_rfl) (by simp) ?_
                refine AllReady.cons rfl (fun K hK => ?_) AllReady.nil
                go_simp
                refine hK _ _ ?_
                clear hK K
                refine wpAny_take (i := 16) (v := ?va18) rfl (by kernel_rfl) (by kernel_rfl) (by kernel_rfl) (fun _ _ _ h => h) (Or.inl ⟨by kernel_rfl, ?ya18⟩) ?za18
                case ya18 => (intro w; go_simp; try with_reducible rfl)
                refine wpAny_take (i := 17) (v := ?va19) rfl (by kernel_rfl) (by kernel_rfl) (by kernel_rfl) (fun _ _ _ h => h) (Or.inl ⟨by kernel_rfl, ?ya19⟩) ?za19
                case ya19 => (intro w; go_simp; try with_reducible rfl)
                refine wpAny_ready (rs := [18]) (by kernel_rfl) (by simp) ?_
                refine AllReady.cons rfl (fun K hK => ?_) AllReady.nil
                go_simp
                refine hK _ _ ?_
                clear hK K
                refine wpAny_take (i := 19) (v := ?va20) rfl (by kernel_rfl) (by kernel_rfl) (by kernel_rfl) (fun _ _ _ h => h) (Or.inl ⟨by kernel_rfl, ?ya20⟩) ?za20
                case ya20 => (intro w; go_simp; try with_reducible rfl)
                refine wpAny_ready (rs := [20]) (by kernel_rfl) (by simp) ?_
                refine AllReady.cons rfl (fun K hK => ?_) AllReady.nil
                go_simp
                refine (QL.out _ _ B2.out).mono ?_
                rintro e w3 ⟨b3, rfl, hp3, hb3⟩
                have B3 := Lib.hid (B2.out.trans (hb3.mono B2.out.size))
                have P3 : IfT b3 (Fine d y) := hp3
                clear hp3 hb3
                cases b3
                · refine hK _ _ ?_
                  clear hK K
                  refine wpAny_take (i := 21) (v := ?va21) rfl (by kernel_rfl) (by kernel_rfl) (by kernel_rfl) (fun _ _ _ h => h) (Or.inl ⟨by kernel_rfl, ?ya21⟩) ?za21
                  case ya21 => (intro w; go_simp; try with_reducible rfl)
                  refine wpAny_take (i := 22) (v := ?va22) rfl (by kernel_rfl) (by kernel_rfl) (by kernel_rfl) (fun _ _ _ h => h) (Or.inl ⟨by kernel_rfl, ?ya22⟩) ?za22
                  case ya22 => (intro w; go_simp; try with_reducible rfl)
                  refine wpAny_done (by kernel_rfl) ?_ _
                  go_simp
                  go_wp2
                  go_ret
                  first | exact ⟨_, rfl, fun e => Bool.noConfusion e, B3.out⟩ | exact ⟨_, rfl, fun e => Bool.noConfusion e, B2.out⟩ | exact ⟨_, rfl, fun e => Bool.noConfusion e, B1.out⟩ | exact ⟨_, rfl, fun _ => binary_fine (by rw [E.out]; decide) P1.out KE.out P2.out P3.out, B3.out⟩
                · refine hK _ _ ?_
                  clear hK K
                  refine wpAny_take (i := 21) (v := ?va23) rfl (by kernel_rfl) (by kernel_rfl) (by kernel_rfl) (fun _ _ _ h => h) (Or.inl ⟨by kernel_rfl, ?ya23⟩) ?za23
                  case ya23 => (intro w; go_simp; try with_reducible rfl)
                  refine wpAny_take (i := 22) (v := ?va24) rfl (by kernel_rfl) (by kernel_rfl) (by kernel_rfl) (fun _ _ _ h => h) (Or.inl ⟨by kernel_rfl, ?ya24⟩) ?za24
                  case ya24 => (intro w; go_simp; try with_reducible rfl)
                  refine wpAny_done (by kernel_rfl) ?_ _
                  go_simp
                  go_wp2
                  go_ret
                  first | exact ⟨_, rfl, fun e => Bool.noConfusion e, B3.out⟩ | exact ⟨_, rfl, fun e => Bool.noConfusion e, B2.out⟩ | exact ⟨_, rfl, fun e => Bool.noConfusion e, B1.out⟩ | exact ⟨_, rfl, fun _ => binary_fine (by rw [E.out]; decide) P1.out KE.out P2.out P3.out, B3.out⟩
              refine AllReady.cons rfl (fun K hK => ?_) ?_
              · go_simp
                refine hK _ _ ?_
                clear hK K
                refine wpAny_take (i := 16) (v := ?va25) rfl (by kernel_rfl) (by kernel_rfl) (by kernel_rfl) (fun _ _ _ h => h) (Or.inl ⟨by kernel_rfl, ?ya25⟩) ?za25
                case ya25 => (intro w; go_simp; try with_reducible rfl)
                refine wpAny_take (i := 17) (v := ?va26) rfl (by kernel_rfl) (by kernel_rfl) (by kernel_rfl) (fun _ _ _ h => h) (Or.inl ⟨by kernel_rfl, ?ya26⟩) ?za26
                case ya26 => (intro w; go_simp; try with_reducible rfl)
                refine wpAny_ready (rs := [13, 18]) (by kernel_rfl) (by simp) ?_
                refine AllReady.cons rfl (fun K hK => ?_) ?_
                · go_simp
                  refine hK _ _ ?_
                  clear hK K
                  refine wpAny_ready (rs := [18]) (by kernel_rfl) (by simp) ?_
                  refine AllReady.cons rfl (fun K hK => ?_) AllReady.nil
                  go_simp
                  refine hK _ _ ?_
                  clear hK K
                  refine wpAny_take (i := 19) (v := ?va27) rfl (by kernel_rfl) (by kernel_rfl) (by kernel_rfl) (fun _ _ _ h => h) (Or.inl ⟨by kernel_rfl, ?ya27⟩) ?za27
                  case ya27 => (intro w; go_simp; try with_reducible rfl)
                  refine wpAny_ready (rs := [20]) (by kernel_rfl) (by simp) ?_
                  refine AllReady.cons rfl (fun K hK => ?_) AllReady.nil
                  go_simp
                  refine (QL.out _ _ B2.out).mono ?_
                  rintro e w3 ⟨b3, rfl, hp3, hb3⟩
                  have B3 := Lib.hid (B2.out.trans (hb3.mono B2.out.size))
                  have P3 : IfT b3 (Fine d y) := hp3
                  clear hp3 hb3
                  cases b3
                  · refine hK _ _ ?_
                    clear hK K
                    refine wpAny_take (i := 21) (v := ?va28) rfl (by kernel_rfl) (by kernel_rfl) (by kernel_rfl) (fun _ _ _ h => h) (Or.inl ⟨by kernel_rfl, ?ya28⟩) ?za28
                    case ya28 => (intro w; go_simp; try with_reducible rfl)
                    refine wpAny_take (i := 22) (v := ?va29) rfl (by kernel_rfl) (by kernel_rfl) (by kernel_rfl) (fun _ _ _ h => h) (Or.inl ⟨by kernel_rfl, ?ya29⟩) ?za29
                    case ya29 => (intro w; go_simp; try with_reducible rfl)
                    refine wpAny_done (by kernel_rfl) ?_ _
                    go_simp
                    go_wp2
                    go_ret
                    first | exact ⟨_, rfl, fun e => Bool.noConfusion e, B3.out⟩ | exact ⟨_, rfl, fun e => Bool.noConfusion e, B2.out⟩ | exact ⟨_, rfl, fun e => Bool.noConfusion e, B1.out⟩ | exact ⟨_, rfl, fun _ => binary_fine (by rw [E.out]; decide) P1.out KE.out P2.out P3.out, B3.out⟩
                  · refine hK _ _ ?_
                    clear hK K
                    refine wpAny_take (i := 21) (v := ?va30) rfl (by kernel_rfl) (by kernel_rfl) (by kernel_rfl) (fun _ _ _ h => h) (Or.inl ⟨by kernel_rfl, ?ya30⟩) ?za30
                    case ya30 => (intro w; go_simp; try with_reducible rfl)
                    refine wpAny_take (i := 22) (v := ?va31) rfl (by kernel_rfl) (by kernel_rfl) (by kernel_rfl) (fun _ _ _ h => h) (Or.inl ⟨by kernel_rfl, ?ya31⟩) ?za31
                    case ya31 => (intro w; go_simp; try with_reducible rfl)
                    refine wpAny_done (by kernel_rfl) ?_ _
                    go_simp
                    go_wp2
                    go_ret
                    first | exact ⟨_, rfl, fun e => Bool.noConfusion e, B3.out⟩ | exact ⟨_, rfl, fun e => Bool.noConfusion e, B2.out⟩ | exact ⟨_, rfl, fun e => Bool.noConfusion e, B1.out⟩ | exact ⟨_, rfl, fun _ => binary_fine (by rw [E.out]; decide) P1.out KE.out P2.out P3.out, B3.out⟩
                refine AllReady.cons rfl (fun K hK => ?_) ?_
                · go_simp
                  refine hK _ _ ?_
                  clear hK K
                  refine wpAny_take (i := 19) (v := ?va32) rfl (by kernel_rfl) (by kernel_rfl) (by kernel_rfl) (fun _ _ _ h => h) (Or.inl ⟨by kernel_rfl, ?ya32⟩) ?za32
                  case ya32 => (intro w; go_simp; try with_reducible rfl)
                  refine wpAny_ready (rs := [13]) (by kernel_rfl) (by simp) ?_
                  refine AllReady.cons rfl (fun K hK => ?_) AllReady.nil
                  go_simp
                  refine hK _ _ ?_
                  clear hK K
                  refine wpAny_ready (rs := [20]) (by kernel_rfl) (by simp) ?_
                  refine AllReady.cons rfl (fun K hK => ?_) AllReady.nil
                  go_simp
                  refine (QL.out _ _ B2.out).mono ?_
                  rintro e w3 ⟨b3, rfl, hp3, hb3⟩
                  have B3 := Lib.hid (B2.out.trans (hb3.mono B2.out.size))
                  have P3 : IfT b3 (Fine d y) := hp3
                  clear hp3 hb3
                  cases b3
                  · refine hK _ _ ?_
                    clear hK K
                    refine wpAny_take (i := 21) (v := ?va33) rfl (by kernel_rfl) (by kernel_rfl) (by kernel_rfl) (fun _ _ _ h => h) (Or.inl ⟨by kernel_rfl, ?ya33⟩) ?za33
                    case ya33 => (intro w; go_simp; try with_reducible rfl)
                    refine wpAny_take (i := 22) (v := ?va34) rfl (by kernel_rfl) (by kernel_rfl) (by kernel_rfl) (fun _ _ _ h => h) (Or.inl ⟨by kernel_rfl, ?ya34⟩) ?za34
                    case ya34 => (intro w; go_simp; try with_reducible rfl)
                    refine wpAny_done (by kernel_rfl) ?_ _
                    go_simp
                    go_wp2
                    go_ret
                    first | exact ⟨_, rfl, fun e => Bool.noConfusion e, B3.out⟩ | exact ⟨_, rfl, fun e => Bool.noConfusion e, B2.out⟩ | exact ⟨_, rfl, fun e => Bool.noConfusion e, B1.out⟩ | exact ⟨_, rfl, fun _ => binary_fine (by rw [E.out]; decide) P1.out KE.out P2.out P3.out, B3.out⟩
                  · refine hK _ _ ?_
                    clear hK K
                    refine wpAny_take (i := 21) (v := ?va35) rfl (by kernel_rfl) (by kernel_rfl) (by kernel_rfl) (fun _ _ _ h => h) (Or.inl ⟨by kernel_rfl, ?ya35⟩) ?za35
                    case ya35 => (intro w; go_simp; try with_reducible rfl)
                    refine wpAny_take (i := 22) (v := ?va36) rfl (by kernel_rfl) (by kernel_rfl) (by kernel_rfl) (fun _ _ _ h => h) (Or.inl ⟨by kernel_rfl, ?ya36⟩) ?za36
                    case ya36 => (intro w; go_simp; try with_reducible rfl)
                    refine wpAny_done (by kernel_rfl) ?_ _
                    go_simp
                    go_wp2
                    go_ret
                    first | exact ⟨_, rfl, fun e => Bool.noConfusion e, B3.out⟩ | exact ⟨_, rfl, fun e => Bool.noConfusion e, B2.out⟩ | exact ⟨_, rfl, fun e => Bool.noConfusion e, B1.out⟩ | exact ⟨_, rfl, fun _ => binary_fine (by rw [E.out]; decide) P1.out KE.out P2.out P3.out, B3.out⟩
                exact AllReady.nil
              exact AllReady.nil
            refine AllReady.cons rfl (fun K hK => ?_) ?_
            · go_simp
              refine hK _ _ ?_
              clear hK K
              refine wpAny_take (i := 16) (v := ?va37) rfl (by kernel_rfl) (by kernel_rfl) (by kernel_rfl) (fun _ _ _ h => h) (Or.inl ⟨by kernel_rfl, ?ya37⟩) ?za37
              case ya37 => (intro w; go_simp; try with_reducible rfl)
              refine wpAny_take (i := 17) (v := ?va38) rfl (by kernel_rfl) (by kernel_rfl) (by kernel_rfl) (fun _ _ _ h => h) (Or.inl ⟨by kernel_rfl, ?ya38⟩) ?za38
              case ya38 => (intro w; go_simp; try with_reducible rfl)
              refine wpAny_ready (rs := [11, 18]) (by kernel_rfl) (by simp) ?_
              refine AllReady.cons rfl (fun K hK => ?_) ?_
              · go_simp
                refine hK _ _ ?_
                clear hK K
                refine wpAny_take (i := 12) (v := ?va39) rfl (by kernel_rfl) (by kernel_rfl) (by kernel_rfl) (fun _ _ _ h => h) (Or.inl ⟨by kernel_rfl, ?ya39⟩) ?za39
                case ya39 => (intro w; go_simp; try with_reducible rfl)
                refine wpAny_ready (rs := [13, 18]) (by kernel_rfl) (by simp) ?_
                refine AllReady.cons rfl (fun K hK => ?_) ?_
                · go_simp
                  refine hK _ _ ?_
                  clear hK K
                  refine wpAny_ready (rs := [18]) (by kernel_rfl) (by simp) ?_
                  refine AllReady.cons rfl (fun K hK => ?_) AllReady.nil
                  go_simp
                  refine hK _ _ ?_
                  clear hK K
                  refine wpAny_take (i := 19) (v := ?va40) rfl (by kernel_rfl) (by kernel_rfl) (by kernel_rfl) (fun _ _ _ h => h) (Or.inl ⟨by kernel_rfl, ?ya40⟩) ?za40
                  case ya40 => (intro w; go_simp; try with_reducible rfl)
                  refine wpAny_ready (rs := [20]) (by kernel_rfl) (by simp) ?_
                  refine AllReady.cons rfl (fun K hK => ?_) AllReady.nil
                  go_simp
                  refine (QL.out _ _ B2.out).mono ?_
                  rintro e w3 ⟨b3, rfl, hp3, hb3⟩
                  have B3 := Lib.hid (B2.out.trans (hb3.mono B2.out.size))
                  have P3 : IfT b3 (Fine d y) := hp3
                  clear hp3 hb3
                  cases b3
                  · refine hK _ _ ?_
                    clear hK K
                    refine wpAny_take (i := 21) (v := ?va41) rfl (by kernel_rfl) (by kernel_rfl) (by kernel_rfl) (fun _ _ _ h => h) (Or.inl ⟨by kernel_rfl, ?ya41⟩) ?za41
                    case ya41 => (intro w; go_simp; try with_reducible rfl)
                    refine wpAny_take (i := 22) (v := ?va42) rfl (by kernel_rfl) (by kernel_rfl) (by kernel_rfl) (fun _ _ _ h => h) (Or.inl ⟨by kernel_rfl, ?ya42⟩) ?za42
                    case ya42 => (intro w; go_simp; try with_reducible rfl)
                    refine wpAny_done (by kernel_rfl) ?_ _
                    go_simp
                    go_wp2
                    go_ret
                    first | exact ⟨_, rfl, fun e => Bool.noConfusion e, B3.out⟩ | exact ⟨_, rfl, fun e => Bool.noConfusion e, B2.out⟩ | exact ⟨_, rfl, fun e => Bool.noConfusion e, B1.out⟩ | exact ⟨_, rfl, fun _ => binary_fine (by rw [E.out]; decide) P1.out KE.out P2.out P3.out, B3.out⟩
                  · refine hK _ _ ?_
                    clear hK K
                    refine wpAny_take (i := 21) (v := ?va43) rfl (by kernel_rfl) (by kernel_rfl) (by kernel_rfl) (fun _ _ _ h => h) (Or.inl ⟨by kernel_rfl, ?ya43⟩) ?za43
                    case ya43 => (intro w; go_simp; try with_reducible rfl)
                    refine wpAny_take (i := 22) (v := ?va44) rfl (by kernel_rfl) (by kernel_rfl) (by kernel_rfl) (fun _ _ _ h => h) (Or.inl ⟨by kernel_rfl, ?ya44⟩) ?za44
                    case ya44 => (intro w; go_simp; try with_reducible rfl)
                    refine wpAny_done (by kernel_rfl) ?_ _
                    go_simp
                    go_wp2
                    go_ret
                    first | exact ⟨_, rfl, fun e => Bool.noConfusion e, B3.out⟩ | exact ⟨_, rfl, fun e => Bool.noConfusion e, B2.out⟩ | exact ⟨_, rfl, fun e => Bool.noConfusion e, B1.out⟩ | exact ⟨_, rfl, fun _ => binary_fine (by rw [E.out]; decide) P1.out KE.out P2.out P3.out, B3.out⟩
                refine AllReady.cons rfl (fun K hK => ?_) ?_
                · go_simp
                  refine hK _ _ ?_
                  clear hK K
                  refine wpAny_take (i := 19) (v := ?va45) rfl (by kernel_rfl) (by kernel_rfl) (by kernel_rfl) (fun _ _ _ h => h) (Or.inl ⟨by kernel_rfl, ?ya45⟩) ?za45
                  case ya45 => (intro w; go_simp; try with_reducible rfl)
                  refine wpAny_ready (rs := [13]) (by kernel_rfl) (by simp) ?_
                  refine AllReady.cons rfl (fun K hK => ?_) AllReady.nil
                  go_simp
                  refine hK _ _ ?_
                  clear hK K
                  refine wpAny_ready (rs := [20]) (by kernel_rfl) (by simp) ?_
                  refine AllReady.cons rfl (fun K hK => ?_) AllReady.nil
                  go_simp
                  refine (QL.out _ _ B2.out).mono ?_
                  rintro e w3 ⟨b3, rfl, hp3, hb3⟩
                  have B3 := Lib.hid (B2.out.trans (hb3.mono B2.out.size))
                  have P3 : IfT b3 (Fine d y) := hp3
                  clear hp3 hb3
                  cases b3
                  · refine hK _ _ ?_
                    clear hK K
                    refine wpAny_take (i := 21) (v := ?va46) rfl (by kernel_rfl) (by kernel_rfl) (by kernel_rfl) (fun _ _ _ h => h) (Or.inl ⟨by kernel_rfl, ?ya46⟩) ?za46
                    case ya46 => (intro w; go_simp; try with_reducible rfl)
                    refine wpAny_take (i := 22) (v := ?va47) rfl (by kernel_rfl) (by kernel_rfl) (by kernel_rfl) (fun _ _ _ h => h) (Or.inl ⟨by kernel_rfl, ?ya47⟩) ?za47
                    case ya47 => (intro w; go_simp; try with_reducible rfl)
                    refine wpAny_done (by kernel_rfl) ?_ _
                    go_simp
                    go_wp2
                    go_ret
                    first | exact ⟨_, rfl, fun e => Bool.noConfusion e, B3.out⟩ | exact ⟨_, rfl, fun e => Bool.noConfusion e, B2.out⟩ | exact ⟨_, rfl, fun e => Bool.noConfusion e, B1.out⟩ | exact ⟨_, rfl, fun _ => binary_fine (by rw [E.out]; decide) P1.out KE.out P2.out P3.out, B3.out⟩
                  · refine hK _ _ ?_
                    clear hK K
                    refine wpAny_take (i := 21) (v := ?va48) rfl (by kernel_rfl) (by kernel_rfl) (by kernel_rfl) (fun _ _ _ h => h) (Or.inl ⟨by kernel_rfl, ?ya48⟩) ?za48
                    case ya48 => (intro w; go_simp; try with_reducible rfl)
                    refine wpAny_take (i := 22) (v := ?va49) rfl (by kernel_rfl) (by kernel_rfl) (by kernel_rfl) (fun _ _ _ h => h) (Or.inl ⟨by kernel_rfl, ?ya49⟩) ?za49
                    case ya49 => (intro w; go_simp; try with_reducible rfl)
                    refine wpAny_done (by kernel_rfl) ?_ _
                    go_simp
                    go_wp2
                    go_ret
                    first | exact ⟨_, rfl, fun e => Bool.noConfusion e, B3.out⟩ | exact ⟨_, rfl, fun e => Bool.noConfusion e, B2.out⟩ | exact ⟨_, rfl, fun e => Bool.noConfusion e, B1.out⟩ | exact ⟨_, rfl, fun _ => binary_fine (by rw [E.out]; decide) P1.out KE.out P2.out P3.out, B3.out⟩
                exact AllReady.nil
              refine AllReady.cons rfl (fun K hK => ?_) ?_
              · go_simp
                refine hK _ _ ?_
                clear hK K
                refine wpAny_take (i := 19) (v := ?va50) rfl (by kernel_rfl) (by kernel_rfl) (by kernel_rfl) (fun _ _ _ h => h) (Or.inl ⟨by kernel_rfl, ?ya50⟩) ?za50
                case ya50 => (intro w; go_simp; try with_reducible rfl)
                refine wpAny_ready (rs := [11]) (by kernel_rfl) (by simp) ?_
                refine AllReady.cons rfl (fun K hK => ?_) AllReady.nil
                go_simp
                refine hK _ _ ?_
                clear hK K
                refine wpAny_take (i := 12) (v := ?va51) rfl (by kernel_rfl) (by kernel_rfl) (by kernel_rfl) (fun _ _ _ h => h) (Or.inl ⟨by kernel_rfl, ?ya51⟩) ?za51
                case ya51 => (intro w; go_simp; try with_reducible rfl)
                refine wpAny_ready (rs := [13]) (by kernel_rfl) (by simp) ?_
                refine AllReady.cons rfl (fun K hK => ?_) AllReady.nil
                go_simp
                refine hK _ _ ?_
                clear hK K
                refine wpAny_ready (rs := [20]) (by kernel_rfl) (by simp) ?_
                refine AllReady.cons rfl (fun K hK => ?_) AllReady.nil
                go_simp
                refine (QL.out _ _ B2.out).mono ?_
                rintro e w3 ⟨b3, rfl, hp3, hb3⟩
                have B3 := Lib.hid (B2.out.trans (hb3.mono B2.out.size))
                have P3 : IfT b3 (Fine d y) := hp3
                clear hp3 hb3
                cases b3
                · refine hK _ _ ?_
                  clear hK K
                  refine wpAny_take (i := 21) (v := ?va52) rfl (by kernel_rfl) (by kernel_rfl) (by kernel_rfl) (fun _ _ _ h => h) (Or.inl ⟨by kernel_rfl, ?ya52⟩) ?za52
                  case ya52 => (intro w; go_simp; try with_reducible rfl)
                  refine wpAny_take (i := 22) (v := ?va53) rfl (by kernel_rfl) (by kernel_rfl) (by kernel_rfl) (fun _ _ _ h => h) (Or.inl ⟨by kernel_rfl, ?ya53⟩) ?za53
                  case ya53 => (intro w; go_simp; try with_reducible rfl)
                  refine wpAny_done (by kernel_rfl) ?_ _
                  go_simp
                  go_wp2
                  go_ret
                  first | exact ⟨_, rfl, fun e => Bool.noConfusion e, B3.out⟩ | exact ⟨_, rfl, fun e => Bool.noConfusion e, B2.out⟩ | exact ⟨_, rfl, fun e => Bool.noConfusion e, B1.out⟩ | exact ⟨_, rfl, fun _ => binary_fine (by rw [E.out]; decide) P1.out KE.out P2.out P3.out, B3.out⟩
                · refine hK _ _ ?_
                  clear hK K
                  refine wpAny_take (i := 21) (v := ?va54) rfl (by kernel_rfl) (by kernel_rfl) (by kernel_rfl) (fun _ _ _ h => h) (Or.inl ⟨by kernel_rfl, ?ya54⟩) ?za54
                  case ya54 => (intro w; go_simp; try with_reducible rfl)
                  refine wpAny_take (i := 22) (v := ?va55) rfl (by kernel_rfl) (by kernel_rfl) (by kernel_rfl) (fun _ _ _ h => h) (Or.inl ⟨by kernel_rfl, ?ya55⟩) ?za55
                  case ya55 => (intro w; go_simp; try with_reducible rfl)
                  refine wpAny_done (by kernel_rfl) ?_ _
                  go_simp
                  go_wp2
                  go_ret
                  first | exact ⟨_, rfl, fun e => Bool.noConfusion e, B3.out⟩ | exact ⟨_, rfl, fun e => Bool.noConfusion e, B2.out⟩ | exact ⟨_, rfl, fun e => Bool.noConfusion e, B1.out⟩ | exact ⟨_, rfl, fun _ => binary_fine (by rw [E.out]; decide) P1.out KE.out P2.out P3.out, B3.out⟩
              exact AllReady.nil
            exact AllReady.nil
      · go_enter Tryz.func45, Tryz.ntmps45
        go_wp2_with fail
        refine wp_region_any (by kernel_rfl) ?_
        change wpAny _ _ _ _ _ _ _ (World.drew _)
        refine wpAny_ready (rs := [0]) (by kernel_rfl) (by simp) ?_
        refine AllReady.cons rfl (fun K hK => ?_) AllReady.nil
        go_simp
        refine hK _ _ ?_
        clear hK K
        refine wpAny_ready (rs := [1]) (by kernel_rfl) (by simp) ?_
        refine AllReady.cons rfl (fun K hK => ?_) AllReady.nil
        go_simp
        refine (PLHN.out _ BD.out).mono ?_
        rintro e w1 ⟨b1, rfl, hp1, hb1⟩
        have B1 := Lib.hid (BD.out.trans (hb1.mono BD.out.size))
        have z1 : w.heap.size < w1.heap.size := by have := hb1.size; simp at this; omega
        have q1 : b < w1.heap.size := by omega
        obtain ⟨hc1, hf1⟩ := bcell hb1
        have P1 : IfT b1 (PlainT t 2) := hp1
        clear hp1 hb1
        cases b1
        · refine hK _ _ ?_
          clear hK K
          refine wpAny_take (i := 2) (v := ?va56) rfl (by kernel_rfl) (by kernel_rfl) (by kernel_rfl) (fun _ _ _ h => h) (Or.inl ⟨by kernel_rfl, ?ya56⟩) ?za56
          case ya56 => (intro w; go_simp; try with_reducible rfl)
          refine wpAny_take (i := 3) (v := undef) rfl (by kernel_rfl) (by kernel_rfl) (by kernel_rfl) (fun _ _ _ h => h) (Or.inr ⟨by kernel_rfl, rfl⟩) ?_
          refine wpAny_take (i := 4) (v := undef) rfl (by kernel_rfl) (by kernel_rfl) (by kernel_rfl) (fun _ _ _ h => h) (Or.inr ⟨by kernel_rfl, rfl⟩) ?_
          refine wpAny_take (i := 5) (v := undef) rfl (by kernel_rfl) (by kernel_rfl) (by kernel_rfl) (fun _ _ _ h => h) (Or.inr ⟨by kernel_rfl, rfl⟩) ?_
          refine wpAny_take (i := 6) (v := undef) rfl (by kernel_rfl) (by kernel_rfl) (by kernel_rfl) (fun _ _ _ h => h) (Or.inr ⟨by kernel_rfl, rfl⟩) ?_
          refine wpAny_take (i := 7) (v := undef) rfl (by kernel_rfl) (by kernel_rfl) (by kernel_rfl) (fun _ _ _ h => h) (Or.inr ⟨by kernel_rfl, rfl⟩) ?_
          refine wpAny_take (i := 8) (v := ?va57) rfl (by kernel_rfl) (by kernel_rfl) (by kernel_rfl) (fun _ _ _ h => h) (Or.inl ⟨by kernel_rfl, ?ya57⟩) ?za57
          case ya57 => (intro w; go_simp; try with_reducible rfl)
          refine wpAny_take (i := 9) (v := ?va58) rfl (by kernel_rfl) (by kernel_rfl) (by kernel_rfl) (fun _ _ _ h => h) (Or.inl ⟨by kernel_rfl, ?ya58⟩) ?za58
          case ya58 => (intro w; go_simp; try with_reducible rfl)
          refine wpAny_take (i := 10) (v := undef) rfl (by kernel_rfl) (by kernel_rfl) (by kernel_rfl) (fun _ _ _ h => h) (Or.inr ⟨by kernel_rfl, rfl⟩) ?_
          refine wpAny_take (i := 11) (v := undef) rfl (by kernel_rfl) (by kernel_rfl) (by kernel_rfl) (fun _ _ _ h => h) (Or.inr ⟨by kernel_rfl, rfl⟩) ?_
          refine wpAny_take (i := 12) (v := undef) rfl (by kernel_rfl) (by kernel_rfl) (by kernel_rfl) (fun _ _ _ h => h) (Or.inr ⟨by kernel_rfl, rfl⟩) ?_
          refine wpAny_take (i := 13) (v := undef) rfl (by kernel_rfl) (by kernel_rfl) (by kernel_rfl) (fun _ _ _ h => h) (Or.inr ⟨by kernel_rfl, rfl⟩) ?_
          refine wpAny_take (i := 14) (v := undef) rfl (by kernel_rfl) (by kernel_rfl) (by kernel_rfl) (fun _ _ _ h => h) (Or.inr ⟨by kernel_rfl, rfl⟩) ?_
          refine wpAny_take (i := 15) (v := undef) rfl (by kernel_rfl) (by kernel_rfl) (by kernel_rfl) (fun _ _ _ h => h) (Or.inr ⟨by kernel_rfl, rfl⟩) ?_
          refine wpAny_take (i := 16) (v := undef) rfl (by kernel_rfl) (by kernel_rfl) (by kernel_rfl) (fun _ _ _ h => h) (Or.inr ⟨by kernel_rfl, rfl⟩) ?_
          refine wpAny_take (i := 17) (v := undef) rfl (by kernel_rfl) (by kernel_rfl) (by kernel_rfl) (fun _ _ _ h => h) (Or.inr ⟨by kernel_rfl, rfl⟩) ?_
          refine wpAny_take (i := 18) (v := undef) rfl (by kernel_rfl) (by kernel_rfl) (by kernel_rfl) (fun _ _ _ h => h) (Or.inr ⟨by kernel_rfl, rfl⟩) ?_
          refine wpAny_take (i := 19) (v := undef) rfl (by kernel_rfl) (by kernel_rfl) (by kernel_rfl) (fun _ _ _ h => h) (Or.inr ⟨by kernel_rfl, rfl⟩) ?_
          refine wpAny_take (i := 20) (v := undef) rfl (by kernel_rfl) (by kernel_rfl) (by kernel_rfl) (fun _ _ _ h => h) (Or.inr ⟨by kernel_rfl, rfl⟩) ?_
          refine wpAny_take (i := 21) (v := ?va59) rfl (by kernel_rfl) (by kernel_rfl) (by kernel_rfl) (fun _ _ _ h => h) (Or.inl ⟨by kernel_rfl, ?ya59⟩) ?za59
          case ya59 => (intro w; go_simp; try with_reducible rfl)
          refine wpAny_take (i := 22) (v := ?va60) rfl (by kernel_rfl) (by kernel_rfl) (by kernel_rfl) (fun _ _ _ h => h) (Or.inl ⟨by kernel_rfl, ?ya60⟩) ?za60
          case ya60 => (intro w; go_simp; try with_reducible rfl)
          refine wpAny_done (by kernel_rfl) ?_ _
          go_simp
          go_wp2
          go_ret
          first | exact ⟨_, rfl, fun e => Bool.noConfusion e, B3.out⟩ | exact ⟨_, rfl, fun e => Bool.noConfusion e, B2.out⟩ | exact ⟨_, rfl, fun e => Bool.noConfusion e, B1.out⟩ | exact ⟨_, rfl, fun _ => binary_fine (by rw [E.out]; decide) P1.out KE.out P2.out P3.out, B3.out⟩
        · refine hK _ _ ?_
          clear hK K
          refine wpAny_take (i := 2) (v := ?va61) rfl (by kernel_rfl) (by kernel_rfl) (by kernel_rfl) (fun _ _ _ h => h) (Or.inl ⟨by kernel_rfl, ?ya61⟩) ?za61
          case ya61 => (intro w; go_simp; try with_reducible rfl)
          refine wpAny_take (i := 3) (v := ?va62) rfl (by kernel_rfl) (by kernel_rfl) (by kernel_rfl) (fun _ _ _ h => h) (Or.inl ⟨by kernel_rfl, ?ya62⟩) ?za62
          case ya62 => (intro w; go_simp; try with_reducible rfl)
          refine wpAny_ready (rs := [4]) (by kernel_rfl) (by simp) ?_
          refine AllReady.cons rfl (fun K hK => ?_) AllReady.nil
          go_simp
          refine hK _ _ ?_
          clear hK K
          refine wpAny_take (i := 5) (v := ?va63) rfl (by kernel_rfl) (by kernel_rfl) (by kernel_rfl) (fun _ _ _ h => h) (Or.inl ⟨by kernel_rfl, ?ya63⟩) ?za63
          case ya63 => (intro w; go_simp; try with_reducible rfl)
          refine wpAny_ready (rs := [6]) (by kernel_rfl) (by simp) ?_
          refine AllReady.cons rfl (fun K hK => ?_) AllReady.nil
          go_simp
          refine hK _ _ ?_
          clear hK K
          refine wpAny_ready (rs := [7]) (by kernel_rfl) (by simp) ?_
          refine AllReady.cons rfl (fun K hK => ?_) AllReady.nil
          go_simp
          refine (HQ.out x kx _ ⟨HI.out.tabs.below B1.out, HX.out.below B1.out⟩).mono ?_
          rintro e w2 ⟨b2, rfl, hp2, hb2⟩
          have B2 := Lib.hid (B1.out.trans (hb2.mono B1.out.size))
          have z2 : w.heap.size < w2.heap.size := by have := hb2.size; omega
          have q2 : b < w2.heap.size := by omega
          obtain ⟨hc2, hf2⟩ := bcell hb2
          have P2 : IfT b2 (Fine d x) := hp2
          clear hp2 hb2
          cases b2
          · refine hK _ _ ?_
            clear hK K
            refine wpAny_take (i := 8) (v := ?va64) rfl (by kernel_rfl) (by kernel_rfl) (by kernel_rfl) (fun _ _ _ h => h) (Or.inl ⟨by kernel_rfl, ?ya64⟩) ?za64
            case ya64 => (intro w; go_simp; try with_reducible rfl)
            refine wpAny_take (i := 9) (v := ?va65) rfl (by kernel_rfl) (by kernel_rfl) (by kernel_rfl) (fun _ _ _ h => h) (Or.inl ⟨by kernel_rfl, ?ya65⟩) ?za65
            case ya65 => (intro w; go_simp; try with_reducible rfl)
            refine wpAny_take (i := 10) (v := undef) rfl (by kernel_rfl) (by kernel_rfl) (by kernel_rfl) (fun _ _ _ h => h) (Or.inr ⟨by kernel_rfl, rfl⟩) ?_
            refine wpAny_take (i := 11) (v := undef) rfl (by kernel_rfl) (by kernel_rfl) (by kernel_rfl) (fun _ _ _ h => h) (Or.inr ⟨by kernel_rfl, rfl⟩) ?_
            refine wpAny_take (i := 12) (v := undef) rfl (by kernel_rfl) (by kernel_rfl) (by kernel_rfl) (fun _ _ _ h => h) (Or.inr ⟨by kernel_rfl, rfl⟩) ?_
            refine wpAny_take (i := 13) (v := undef) rfl (by kernel_rfl) (by kernel_rfl) (by kernel_rfl) (fun _ _ _ h => h) (Or.inr ⟨by kernel_rfl, rfl⟩) ?_
            refine wpAny_take (i := 14) (v := undef) rfl (by kernel_rfl) (by kernel_rfl) (by kernel_rfl) (fun _ _ _ h => h) (Or.inr ⟨by kernel_rfl, rfl⟩) ?_
            refine wpAny_take (i := 15) (v := undef) rfl (by kernel_rfl) (by kernel_rfl) (by kernel_rfl) (fun _ _ _ h => h) (Or.inr ⟨by kernel_rfl, rfl⟩) ?_
            refine wpAny_take (i := 16) (v := undef) rfl (by kernel_rfl) (by kernel_rfl) (by kernel_rfl) (fun _ _ _ h => h) (Or.inr ⟨by kernel_rfl, rfl⟩) ?_
            refine wpAny_take (i := 17) (v := undef) rfl (by kernel_rfl) (by kernel_rfl) (by kernel_rfl) (fun _ _ _ h => h) (Or.inr ⟨by kernel_rfl, rfl⟩) ?_
            refine wpAny_take (i := 18) (v := undef) rfl (by kernel_rfl) (by kernel_rfl) (by kernel_rfl) (fun _ _ _ h => h) (Or.inr ⟨by kernel_rfl, rfl⟩) ?_
            refine wpAny_take (i := 19) (v := undef) rfl (by kernel_rfl) (by kernel_rfl) (by kernel_rfl) (fun _ _ _ h => h) (Or.inr ⟨by kernel_rfl, rfl⟩) ?_
            refine wpAny_take (i := 20) (v := undef) rfl (by kernel_rfl) (by kernel_rfl) (by kernel_rfl) (fun _ _ _ h => h) (Or.inr ⟨by kernel_rfl, rfl⟩) ?_
            refine wpAny_take (i := 21) (v := ?va66) rfl (by kernel_rfl) (by kernel_rfl) (by kernel_rfl) (fun _ _ _ h => h) (Or.inl ⟨by kernel_rfl, ?ya66⟩) ?za66
            case ya66 => (intro w; go_simp; try with_reducible rfl)
            refine wpAny_take (i := 22) (v := ?va67) rfl (by kernel_rfl) (by kernel_rfl) (by kernel_rfl) (fun _ _ _ h => h) (Or.inl ⟨by kernel_rfl, ?ya67⟩) ?za67
            case ya67 => (intro w; go_simp; try with_reducible rfl)
            refine wpAny_done (by kernel_rfl) ?_ _
            go_simp
            go_wp2
            go_ret
            first | exact ⟨_, rfl, fun e => Bool.noConfusion e, B3.out⟩ | exact ⟨_, rfl, fun e => Bool.noConfusion e, B2.out⟩ | exact ⟨_, rfl, fun e => Bool.noConfusion e, B1.out⟩ | exact ⟨_, rfl, fun _ => binary_fine (by rw [E.out]; decide) P1.out KE.out P2.out P3.out, B3.out⟩
          · refine hK _ _ ?_
            clear hK K
            refine wpAny_take (i := 8) (v := ?va68) rfl (by kernel_rfl) (by kernel_rfl) (by kernel_rfl) (fun _ _ _ h => h) (Or.inl ⟨by kernel_rfl, ?ya68⟩) ?za68
            case ya68 => (intro w; go_simp; try with_reducible rfl)
            refine wpAny_take (i := 9) (v := ?va69) rfl (by kernel_rfl) (by kernel_rfl) (by kernel_rfl) (fun _ _ _ h => h) (Or.inl ⟨by kernel_rfl, ?ya69⟩) ?za69
            case ya69 => (intro w; go_simp; try with_reducible rfl)
            refine wpAny_take (i := 10) (v := ?va70) rfl (by kernel_rfl) (by kernel_rfl) (by kernel_rfl) (fun _ _ _ h => h) (Or.inl ⟨by kernel_rfl, ?ya70⟩) ?za70
            case ya70 => (intro w; go_simp; try with_reducible rfl)
            refine wpAny_take (i := 14) (v := ?va71) rfl (by kernel_rfl) (by kernel_rfl) (by kernel_rfl) (fun _ _ _ h => h) (Or.inl ⟨by kernel_rfl, ?ya71⟩) ?za71
            case ya71 => (intro w; go_simp; try with_reducible rfl)
            refine wpAny_ready (rs := [11, 15]) (by kernel_rfl) (by simp) ?_
            refine AllReady.cons rfl (fun K hK => ?_) ?_
            · go_simp
              refine hK _ _ ?_
              clear hK K
              refine wpAny_take (i := 12) (v := ?va72) rfl (by kernel_rfl) (by kernel_rfl) (by kernel_rfl) (fun _ _ _ h => h) (Or.inl ⟨by kernel_rfl, ?ya72⟩) ?za72
              case ya72 => (intro w; go_simp; try with_reducible rfl)
              refine wpAny_ready (rs := [13, 15]) (by kernel_rfl) (by simp) ?_
              refine AllReady.cons rfl (fun K hK => ?_) ?_
              · go_simp
                refine hK _ _ ?_
                clear hK K
                refine wpAny_ready (rs := [15]) (by kernel_rfl) (by simp) ?_
                refine AllReady.cons rfl (fun K hK => ?_) AllReady.nil
                go_simp
                refine hK _ _ ?_
                clear hK K
                refine wpAny_take (i := 16) (v := ?va73) rfl (by kernel_rfl) (by kernel_rfl) (by kernel_rfl) (fun _ _ _ h => h) (Or.inl ⟨by kernel_rfl, ?ya73⟩) ?za73
                case ya73 => (intro w; go_simp; try with_reducible rfl)
                refine wpAny_take (i := 17) (v := ?va74) rfl (by kernel_rfl) (by kernel_rfl) (by kernel_rfl) (fun _ _ _ h => h) (Or.inl ⟨by kernel_rfl, ?ya74⟩) ?za74
                case ya74 => (intro w; go_simp; try with_reducible rfl)
                refine wpAny_ready (rs := [18]) (by kernel_rfl) (by simp) ?_
                refine AllReady.cons rfl (fun K hK => ?_) AllReady.nil
                go_simp
                refine hK _ _ ?_
                clear hK K
                refine wpAny_take (i := 19) (v := ?va75) rfl (by kernel_rfl) (by kernel_rfl) (by kernel_rfl) (fun _ _ _ h => h) (Or.inl ⟨by kernel_rfl, ?ya75⟩) ?za75
                case ya75 => (intro w; go_simp; try with_reducible rfl)
                refine wpAny_ready (rs := [20]) (by kernel_rfl) (by simp) ?_
                refine AllReady.cons rfl (fun K hK => ?_) AllReady.nil
                go_simp
                refine (QL.out _ _ B2.out).mono ?_
                rintro e w3 ⟨b3, rfl, hp3, hb3⟩
                have B3 := Lib.hid (B2.out.trans (hb3.mono B2.out.size))
                have P3 : IfT b3 (Fine d y) := hp3
                clear hp3 hb3
                cases b3
                · refine hK _ _ ?_
                  clear hK K
                  refine wpAny_take (i := 21) (v := ?va76) rfl (by kernel_rfl) (by kernel_rfl) (by kernel_rfl) (fun _ _ _ h => h) (Or.inl ⟨by kernel_rfl, ?ya76⟩) ?za76
                  case ya76 => (intro w; go_simp; try with_reducible rfl)
                  refine wpAny_take (i := 22) (v := ?va77) rfl (by kernel_rfl) (by kernel_rfl) (by kernel_rfl) (fun _ _ _ h => h) (Or.inl ⟨by kernel_rfl, ?ya77⟩) ?za77
                  case ya77 => (intro w; go_simp; try with_reducible rfl)
                  refine wpAny_done (by kernel_rfl) ?_ _
                  go_simp
                  go_wp2
                  go_ret
                  first | exact ⟨_, rfl, fun e => Bool.noConfusion e, B3.out⟩ | exact ⟨_, rfl, fun e => Bool.noConfusion e, B2.out⟩ | exact ⟨_, rfl, fun e => Bool.noConfusion e, B1.out⟩ | exact ⟨_, rfl, fun _ => binary_fine (by rw [E.out]; decide) P1.out KE.out P2.out P3.out, B3.out⟩
                · refine hK _ _ ?_
                  clear hK K
                  refine wpAny_take (i := 21) (v := ?va78) rfl (by kernel_rfl) (by kernel_rfl) (by kernel_rfl) (fun _ _ _ h => h) (Or.inl ⟨by kernel_rfl, ?ya78⟩) ?za78
                  case ya78 => (intro w; go_simp; try with_reducible rfl)
                  refine wpAny_take (i := 22) (v := ?va79) rfl (by kernel_rfl) (by kernel_rfl) (by kernel_rfl) (fun _ _ _ h => h) (Or.inl ⟨by kernel_rfl, ?ya79⟩) ?za79
                  case ya79 => (intro w; go_simp; try with_reducible rfl)
                  refine wpAny_done (by kernel_rfl) ?_ _
                  go_simp
                  go_wp2
                  go_ret
                  first | exact ⟨_, rfl, fun e => Bool.noConfusion e, B3.out⟩ | exact ⟨_, rfl, fun e => Bool.noConfusion e, B2.out⟩ | exact ⟨_, rfl, fun e => Bool.noConfusion e, B1.out⟩ | exact ⟨_, rfl, fun _ => binary_fine (by rw [E.out]; decide) P1.out KE.out P2.out P3.out, B3.out⟩
              refine AllReady.cons rfl (fun K hK => ?_) ?_
              · go_simp
                refine hK _ _ ?_
                clear hK K
                refine wpAny_take (i := 16) (v := ?va80) rfl (by kernel_rfl) (by kernel_rfl) (by kernel_rfl) (fun _ _ _ h => h) (Or.inl ⟨by kernel_rfl, ?ya80⟩) ?za80
                case ya80 => (intro w; go_simp; try with_reducible rfl)
                refine wpAny_take (i := 17) (v := ?va81) rfl (by kernel_rfl) (by kernel_rfl) (by kernel_rfl) (fun _ _ _ h => h) (Or.inl ⟨by kernel_rfl, ?ya81⟩) ?za81
                case ya81 => (intro w; go_simp; try with_reducible rfl)
                refine wpAny_ready (rs := [13, 18]) (by kernel_rfl) (by simp) ?_
                refine AllReady.cons rfl (fun K hK => ?_) ?_
                · go_simp
                  refine hK _ _ ?_
                  clear hK K
                  refine wpAny_ready (rs := [18]) (by kernel_rfl) (by simp) ?_
                  refine AllReady.cons rfl (fun K hK => ?_) AllReady.nil
                  go_simp
                  refine hK _ _ ?_
                  clear hK K
                  refine wpAny_take (i := 19) (v := ?va82) rfl (by kernel_rfl) (by kernel_rfl) (by kernel_rfl) (fun _ _ _ h => h) (Or.inl ⟨by kernel_rfl, ?ya82⟩) ?za82
                  case ya82 => (intro w; go_simp; try with_reducible rfl)
                  refine wpAny_ready (rs := [20]) (by kernel_rfl) (by simp) ?_
                  refine AllReady.cons rfl (fun K hK => ?_) AllReady.nil
                  go_simp
                  refine (QL.out _ _ B2.out).mono ?_
                  rintro e w3 ⟨b3, rfl, hp3, hb3⟩
                  have B3 := Lib.hid (B2.out.trans (hb3.mono B2.out.size))
                  have P3 : IfT b3 (Fine d y) := hp3
                  clear hp3 hb3
                  cases b3
                  · refine hK _ _ ?_
                    clear hK K
                    refine wpAny_take (i := 21) (v := ?va83) rfl (by kernel_rfl) (by kernel_rfl) (by kernel_rfl) (fun _ _ _ h => h) (Or.inl ⟨by kernel_rfl, ?ya83⟩) ?za83
                    case ya83 => (intro w; go_simp; try with_reducible rfl)
                    refine wpAny_take (i := 22) (v := ?va84) rfl (by kernel_rfl) (by kernel_rfl) (by kernel_rfl) (fun _ _ _ h => h) (Or.inl ⟨by kernel_rfl, ?ya84⟩) ?za84
                    case ya84 => (intro w; go_simp; try with_reducible rfl)
                    refine wpAny_done (by kernel_rfl) ?_ _
                    go_simp
                    go_wp2
                    go_ret
                    first | exact ⟨_, rfl, fun e => Bool.noConfusion e, B3.out⟩ | exact ⟨_, rfl, fun e => Bool.noConfusion e, B2.out⟩ | exact ⟨_, rfl, fun e => Bool.noConfusion e, B1.out⟩ | exact ⟨_, rfl, fun _ => binary_fine (by rw [E.out]; decide) P1.out KE.out P2.out P3.out, B3.out⟩
                  · refine hK _ _ ?_
                    clear hK K
                    refine wpAny_take (i := 21) (v := ?va85) rfl (by kernel_rfl) (by kernel_rfl) (by kernel_rfl) (fun _ _ _ h => h) (Or.inl ⟨by kernel_rfl, ?ya85⟩) ?za85
                    case ya85 => (intro w; go_simp; try with_reducible rfl)
                    refine wpAny_take (i := 22) (v := ?va86) rfl (by kernel_rfl) (by kernel_rfl) (by kernel_rfl) (fun _ _ _ h => h) (Or.inl ⟨by kernel_rfl, ?ya86⟩) ?za86
                    case ya86 => (intro w; go_simp; try with_reducible rfl)
                    refine wpAny_done (by kernel_rfl) ?_ _
                    go_simp
                    go_wp2
                    go_ret
                    first | exact ⟨_, rfl, fun e => Bool.noConfusion e, B3.out⟩ | exact ⟨_, rfl, fun e => Bool.noConfusion e, B2.out⟩ | exact ⟨_, rfl, fun e => Bool.noConfusion e, B1.out⟩ | exact ⟨_, rfl, fun _ => binary_fine (by rw [E.out]; decide) P1.out KE.out P2.out P3.out, B3.out⟩
                refine AllReady.cons rfl (fun K hK => ?_) ?_
                · go_simp
                  refine hK _ _ ?_
                  clear hK K
                  refine wpAny_take (i := 19) (v := ?va87) rfl (by kernel_rfl) (by kernel_rfl) (by kernel_rfl) (fun _ _ _ h => h) (Or.inl ⟨by kernel_rfl, ?ya87⟩) ?za87
                  case ya87 => (intro w; go_simp; try with_reducible rfl)
                  refine wpAny_ready (rs := [13]) (by kernel_rfl) (by simp) ?_
                  refine AllReady.cons rfl (fun K hK => ?_) AllReady.nil
                  go_simp
                  refine hK _ _ ?_
                  clear hK K
                  refine wpAny_ready (rs := [20]) (by kernel_rfl) (by simp) ?_
                  refine AllReady.cons rfl (fun K hK => ?_) AllReady.nil
                  go_simp
                  refine (QL.out _ _ B2.out).mono ?_
                  rintro e w3 ⟨b3, rfl, hp3, hb3⟩
                  have B3 := Lib.hid (B2.out.trans (hb3.mono B2.out.size))
                  have P3 : IfT b3 (Fine d y) := hp3
                  clear hp3 hb3
                  cases b3
                  · refine hK _ _ ?_
                    clear hK K
                    refine wpAny_take (i := 21) (v := ?va88) rfl (by kernel_rfl) (by kernel_rfl) (by kernel_rfl) (fun _ _ _ h => h) (Or.inl ⟨by kernel_rfl, ?ya88⟩) ?za88
                    case ya88 => (intro w; go_simp; try with_reducible rfl)
                    refine wpAny_take (i := 22) (v := ?va89) rfl (by kernel_rfl) (by kernel_rfl) (by kernel_rfl) (fun _ _ _ h => h) (Or.inl ⟨by kernel_rfl, ?ya89⟩) ?za89
                    case ya89 => (intro w; go_simp; try with_reducible rfl)
                    refine wpAny_done (by kernel_rfl) ?_ _
                    go_simp
                    go_wp2
                    go_ret
                    first | exact ⟨_, rfl, fun e => Bool.noConfusion e, B3.out⟩ | exact ⟨_, rfl, fun e => Bool.noConfusion e, B2.out⟩ | exact ⟨_, rfl, fun e => Bool.noConfusion e, B1.out⟩ | exact ⟨_, rfl, fun _ => binary_fine (by rw [E.out]; decide) P1.out KE.out P2.out P3.out, B3.out⟩
                  · refine hK _ _ ?_
                    clear hK K
                    refine wpAny_take (i := 21) (v := ?va90) rfl (by kernel_rfl) (by kernel_rfl) (by kernel_rfl) (fun _ _ _ h => h) (Or.inl ⟨by kernel_rfl, ?ya90⟩) ?za90
                    case ya90 => (intro w; go_simp; try with_reducible rfl)
                    refine wpAny_take (i := 22) (v := ?va91) rfl (by kernel_rfl) (by kernel_rfl) (by kernel_rfl) (fun _ _ _ h => h) (Or.inl ⟨by kernel_rfl, ?ya91⟩) ?za91
                    case ya91 => (intro w; go_simp; try with_reducible rfl)
                    refine wpAny_done (by kernel_rfl) ?_ _
                    go_simp
                    go_wp2
                    go_ret
                    first | exact ⟨_, rfl, fun e => Bool.noConfusion e, B3.out⟩ | exact ⟨_, rfl, fun e => Bool.noConfusion e, B2.out⟩ | exact ⟨_, rfl, fun e => Bool.noConfusion e, B1.out⟩ | exact ⟨_, rfl, fun _ => binary_fine (by rw [E.out]; decide) P1.out KE.out P2.out P3.out, B3.out⟩
                exact AllReady.nil
              exact AllReady.nil
            refine AllReady.cons rfl (fun K hK => ?_) ?_
            · go_simp
              refine hK _ _ ?_
              clear hK K
              refine wpAny_take (i := 16) (v := ?va92) rfl (by kernel_rfl) (by kernel_rfl) (by kernel_rfl) (fun _ _ _ h => h) (Or.inl ⟨by kernel_rfl, ?ya92⟩) ?za92
              case ya92 => (intro w; go_simp; try with_reducible rfl)
              refine wpAny_take (i := 17) (v := ?va93) rfl (by kernel_rfl) (by kernel_rfl) (by kernel_rfl) (fun _ _ _ h => h) (Or.inl ⟨by kernel_rfl, ?ya93⟩) ?za93
              case ya93 => (intro w; go_simp; try with_reducible rfl)
              refine wpAny_ready (rs := [11, 18]) (by kernel_rfl) (by simp) ?_
              refine AllReady.cons rfl (fun K hK => ?_) ?_
              · go_simp
                refine hK _ _ ?_
                clear hK K
                refine wpAny_take (i := 12) (v := ?va94) rfl (by kernel_rfl) (by kernel_rfl) (by kernel_rfl) (fun _ _ _ h => h) (Or.inl ⟨by kernel_rfl, ?ya94⟩) ?za94
                case ya94 => (intro w; go_simp; try with_reducible rfl)
                refine wpAny_ready (rs := [13, 18]) (by kernel_rfl) (by simp) ?_
                refine AllReady.cons rfl (fun K hK => ?_) ?_
                · go_simp
                  refine hK _ _ ?_
                  clear hK K
                  refine wpAny_ready (rs := [18]) (by kernel_rfl) (by simp) ?_
                  refine AllReady.cons rfl (fun K hK => ?_) AllReady.nil
                  go_simp
                  refine hK _ _ ?_
                  clear hK K
                  refine wpAny_take (i := 19) (v := ?va95) rfl (by kernel_rfl) (by kernel_rfl) (by kernel_rfl) (fun _ _ _ h => h) (Or.inl ⟨by kernel_rfl, ?ya95⟩) ?za95
                  case ya95 => (intro w; go_simp; try with_reducible rfl)
                  refine wpAny_ready (rs := [20]) (by kernel_rfl) (by simp) ?_
                  refine AllReady.cons rfl (fun K hK => ?_) AllReady.nil
                  go_simp
                  refine (QL.out _ _ B2.out).mono ?_
                  rintro e w3 ⟨b3, rfl, hp3, hb3⟩
                  have B3 := Lib.hid (B2.out.trans (hb3.mono B2.out.size))
                  have P3 : IfT b3 (Fine d y) := hp3
                  clear hp3 hb3
                  cases b3
                  · refine hK _ _ ?_
                    clear hK K
                    refine wpAny_take (i := 21) (v := ?va96) rfl (by kernel_rfl) (by kernel_rfl) (by kernel_rfl) (fun _ _ _ h => h) (Or.inl ⟨by kernel_rfl, ?ya96⟩) ?za96
                    case ya96 => (intro w; go_simp; try with_reducible rfl)
                    refine wpAny_take (i := 22) (v := ?va97) rfl (by kernel_rfl) (by kernel_rfl) (by kernel_rfl) (fun _ _ _ h => h) (Or.inl ⟨by kernel_rfl, ?ya97⟩) ?za97
                    case ya97 => (intro w; go_simp; try with_reducible rfl)
                    refine wpAny_done (by kernel_rfl) ?_ _
                    go_simp
                    go_wp2
                    go_ret
                    first | exact ⟨_, rfl, fun e => Bool.noConfusion e, B3.out⟩ | exact ⟨_, rfl, fun e => Bool.noConfusion e, B2.out⟩ | exact ⟨_, rfl, fun e => Bool.noConfusion e, B1.out⟩ | exact ⟨_, rfl, fun _ => binary_fine (by rw [E.out]; decide) P1.out KE.out P2.out P3.out, B3.out⟩
                  · refine hK _ _ ?_
                    clear hK K
                    refine wpAny_take (i := 21) (v := ?va98) rfl (by kernel_rfl) (by kernel_rfl) (by kernel_rfl) (fun _ _ _ h => h) (Or.inl ⟨by kernel_rfl, ?ya98⟩) ?za98
                    case ya98 => (intro w; go_simp; try with_reducible rfl)
                    refine wpAny_take (i := 22) (v := ?va99) rfl (by kernel_rfl) (by kernel_rfl) (by kernel_rfl) (fun _ _ _ h => h) (Or.inl ⟨by kernel_rfl, ?ya99⟩) ?za99
                    case ya99 => (intro w; go_simp; try with_reducible rfl)
                    refine wpAny_done (by kernel_rfl) ?_ _
                    go_simp
                    go_wp2
                    go_ret
                    first | exact ⟨_, rfl, fun e => Bool.noConfusion e, B3.out⟩ | exact ⟨_, rfl, fun e => Bool.noConfusion e, B2.out⟩ | exact ⟨_, rfl, fun e => Bool.noConfusion e, B1.out⟩ | exact ⟨_, rfl, fun _ => binary_fine (by rw [E.out]; decide) P1.out KE.out P2.out P3.out, B3.out⟩
                refine AllReady.cons rfl (fun K hK => ?_) ?_
                · go_simp
                  refine hK _ _ ?_
                  clear hK K
                  refine wpAny_take (i := 19) (v := ?va100) rfl (by kernel_rfl) (by kernel_rfl) (by kernel_rfl) (fun _ _ _ h => h) (Or.inl ⟨by kernel_rfl, ?ya100⟩) ?za100
                  case ya100 => (intro w; go_simp; try with_reducible rfl)
                  refine wpAny_ready (rs := [13]) (by kernel_rfl) (by simp) ?_
                  refine AllReady.cons rfl (fun K hK => ?_) AllReady.nil
                  go_simp
                  refine hK _ _ ?_
                  clear hK K
                  refine wpAny_ready (rs := [20]) (by kernel_rfl) (by simp) ?_
                  refine AllReady.cons rfl (fun K hK => ?_) AllReady.nil
                  go_simp
                  refine (QL.out _ _ B2.out).mono ?_
                  rintro e w3 ⟨b3, rfl, hp3, hb3⟩
                  have B3 := Lib.hid (B2.out.trans (hb3.mono B2.out.size))
                  have P3 : IfT b3 (Fine d y) := hp3
                  clear hp3 hb3
                  cases b3
                  · refine hK _ _ ?_
                    clear hK K
                    refine wpAny_take (i := 21) (v := ?va101) rfl (by kernel_rfl) (by kernel_rfl) (by kernel_rfl) (fun _ _ _ h => h) (Or.inl ⟨by kernel_rfl, ?ya101⟩) ?za101
                    case ya101 => (intro w; go_simp; try with_reducible rfl)
                    refine wpAny_take (i := 22) (v := ?va102) rfl (by kernel_rfl) (by kernel_rfl) (by kernel_rfl) (fun _ _ _ h => h) (Or.inl ⟨by kernel_rfl, ?ya102⟩) ?za102
                    case ya102 => (intro w; go_simp; try with_reducible rfl)
                    refine wpAny_done (by kernel_rfl) ?_ _
                    go_simp
                    go_wp2
                    go_ret
                    first | exact ⟨_, rfl, fun e => Bool.noConfusion e, B3.out⟩ | exact ⟨_, rfl, fun e => Bool.noConfusion e, B2.out⟩ | exact ⟨_, rfl, fun e => Bool.noConfusion e, B1.out⟩ | exact ⟨_, rfl, fun _ => binary_fine (by rw [E.out]; decide) P1.out KE.out P2.out P3.out, B3.out⟩
                  · refine hK _ _ ?_
                    clear hK K
                    refine wpAny_take (i := 21) (v := ?va103) rfl (by kernel_rfl) (by kernel_rfl) (by kernel_rfl) (fun _ _ _ h => h) (Or.inl ⟨by kernel_rfl, ?ya103⟩) ?za103
                    case ya103 => (intro w; go_simp; try with_reducible rfl)
                    refine wpAny_take (i := 22) (v := ?va104) rfl (by kernel_rfl) (by kernel_rfl) (by kernel_rfl) (fun _ _ _ h => h) (Or.inl ⟨by kernel_rfl, ?ya104⟩) ?za104
                    case ya104 => (intro w; go_simp; try with_reducible rfl)
                    refine wpAny_done (by kernel_rfl) ?_ _
                    go_simp
                    go_wp2
                    go_ret
                    first | exact ⟨_, rfl, fun e => Bool.noConfusion e, B3.out⟩ | exact ⟨_, rfl, fun e => Bool.noConfusion e, B2.out⟩ | exact ⟨_, rfl, fun e => Bool.noConfusion e, B1.out⟩ | exact ⟨_, rfl, fun _ => binary_fine (by rw [E.out]; decide) P1.out KE.out P2.out P3.out, B3.out⟩
                exact AllReady.nil
              refine AllReady.cons rfl (fun K hK => ?_) ?_
              · go_simp
                refine hK _ _ ?_
                clear hK K
                refine wpAny_take (i := 19) (v := ?va105) rfl (by kernel_rfl) (by kernel_rfl) (by kernel_rfl) (fun _ _ _ h => h) (Or.inl ⟨by kernel_rfl, ?ya105⟩) ?za105
                case ya105 => (intro w; go_simp; try with_reducible rfl)
                refine wpAny_ready (rs := [11]) (by kernel_rfl) (by simp) ?_
                refine AllReady.cons rfl (fun K hK => ?_) AllReady.nil
                go_simp
                refine hK _ _ ?_
                clear hK K
                refine wpAny_take (i := 12) (v := ?va106) rfl (by kernel_rfl) (by kernel_rfl) (by kernel_rfl) (fun _ _ _ h => h) (Or.inl ⟨by kernel_rfl, ?ya106⟩) ?za106
                case ya106 => (intro w; go_simp; try with_reducible rfl)
                refine wpAny_ready (rs := [13]) (by kernel_rfl) (by simp) ?_
                refine AllReady.cons rfl (fun K hK => ?_) AllReady.nil
                go_simp
                refine hK _ _ ?_
                clear hK K
                refine wpAny_ready (rs := [20]) (by kernel_rfl) (by simp) ?_
                refine AllReady.cons rfl (fun K hK => ?_) AllReady.nil
                go_simp
                refine (QL.out _ _ B2.out).mono ?_
                rintro e w3 ⟨b3, rfl, hp3, hb3⟩
                have B3 := Lib.hid (B2.out.trans (hb3.mono B2.out.size))
                have P3 : IfT b3 (Fine d y) := hp3
                clear hp3 hb3
                cases b3
                · refine hK _ _ ?_
                  clear hK K
                  refine wpAny_take (i := 21) (v := ?va107) rfl (by kernel_rfl) (by kernel_rfl) (by kernel_rfl) (fun _ _ _ h => h) (Or.inl ⟨by kernel_rfl, ?ya107⟩) ?za107
                  case ya107 => (intro w; go_simp; try with_reducible rfl)
                  refine wpAny_take (i := 22) (v := ?va108) rfl (by kernel_rfl) (by kernel_rfl) (by kernel_rfl) (fun _ _ _ h => h) (Or.inl ⟨by kernel_rfl, ?ya108⟩) ?za108
                  case ya108 => (intro w; go_simp; try with_reducible rfl)
                  refine wpAny_done (by kernel_rfl) ?_ _
                  go_simp
                  go_wp2
                  go_ret
                  first | exact ⟨_, rfl, fun e => Bool.noConfusion e, B3.out⟩ | exact ⟨_, rfl, fun e => Bool.noConfusion e, B2.out⟩ | exact ⟨_, rfl, fun e => Bool.noConfusion e, B1.out⟩ | exact ⟨_, rfl, fun _ => binary_fine (by rw [E.out]; decide) P1.out KE.out P2.out P3.out, B3.out⟩
                · refine hK _ _ ?_
                  clear hK K
                  refine wpAny_take (i := 21) (v := ?va109) rfl (by kernel_rfl) (by kernel_rfl) (by kernel_rfl) (fun _ _ _ h => h) (Or.inl ⟨by kernel_rfl, ?ya109⟩) ?za109
                  case ya109 => (intro w; go_simp; try with_reducible rfl)
                  refine wpAny_take (i := 22) (v := ?va110) rfl (by kernel_rfl) (by kernel_rfl) (by kernel_rfl) (fun _ _ _ h => h) (Or.inl ⟨by kernel_rfl, ?ya110⟩) ?za110
                  case ya110 => (intro w; go_simp; try with_reducible rfl)
                  refine wpAny_done (by kernel_rfl) ?_ _
                  go_simp
                  go_wp2
                  go_ret
                  first | exact ⟨_, rfl, fun e => Bool.noConfusion e, B3.out⟩ | exact ⟨_, rfl, fun e => Bool.noConfusion e, B2.out⟩ | exact ⟨_, rfl, fun e => Bool.noConfusion e, B1.out⟩ | exact ⟨_, rfl, fun _ => binary_fine (by rw [E.out]; decide) P1.out KE.out P2.out P3.out, B3.out⟩
              exact AllReady.nil
            exact AllReady.nil
    · have BD := Lib.hid (Below.drew B.out)
      go_enter Tryz.func45, Tryz.ntmps45
      go_wp2_with fail
      refine wp_region_any (by kernel_rfl) ?_
      change wpAny _ _ _ _ _ _ _ (World.drew _)
      refine wpAny_ready (rs := [0]) (by kernel_rfl) (by simp) ?_
      refine AllReady.cons rfl (fun K hK => ?_) AllReady.nil
      go_simp
      refine hK _ _ ?_
      clear hK K
      refine wpAny_ready (rs := [1]) (by kernel_rfl) (by simp) ?_
      refine AllReady.cons rfl (fun K hK => ?_) AllReady.nil
      go_simp
      refine (PLHN.out _ BD.out).mono ?_
      rintro e w1 ⟨b1, rfl, hp1, hb1⟩
      have B1 := Lib.hid (BD.out.trans (hb1.mono BD.out.size))
      cases b1
      rotate_left
      exact (hl2 (hp1 rfl).2.2).elim
      clear hp1 hb1
      refine hK _ _ ?_
      clear hK K
      refine wpAny_take (i := 2) (v := ?va111) rfl (by kernel_rfl) (by kernel_rfl) (by kernel_rfl) (fun _ _ _ h => h) (Or.inl ⟨by kernel_rfl, ?ya111⟩) ?za111
      case ya111 => (intro w; go_simp; try with_reducible rfl)
      refine wpAny_take (i := 3) (v := undef) rfl (by kernel_rfl) (by kernel_rfl) (by kernel_rfl) (fun _ _ _ h => h) (Or.inr ⟨by kernel_rfl, rfl⟩) ?_
      refine wpAny_take (i := 4) (v := undef) rfl (by kernel_rfl) (by kernel_rfl) (by kernel_rfl) (fun _ _ _ h => h) (Or.inr ⟨by kernel_rfl, rfl⟩) ?_
      refine wpAny_take (i := 5) (v := undef) rfl (by kernel_rfl) (by kernel_rfl) (by kernel_rfl) (fun _ _ _ h => h) (Or.inr ⟨by kernel_rfl, rfl⟩) ?_
      refine wpAny_take (i := 6) (v := undef) rfl (by kernel_rfl) (by kernel_rfl) (by kernel_rfl) (fun _ _ _ h => h) (Or.inr ⟨by kernel_rfl, rfl⟩) ?_
      refine wpAny_take (i := 7) (v := undef) rfl (by kernel_rfl) (by kernel_rfl) (by kernel_rfl) (fun _ _ _ h => h) (Or.inr ⟨by kernel_rfl, rfl⟩) ?_
      refine wpAny_take (i := 8) (v := ?va112) rfl (by kernel_rfl) (by kernel_rfl) (by kernel_rfl) (fun _ _ _ h => h) (Or.inl ⟨by kernel_rfl, ?ya112⟩) ?za112
      case ya112 => (intro w; go_simp; try with_reducible rfl)
      refine wpAny_take (i := 9) (v := ?va113) rfl (by kernel_rfl) (by kernel_rfl) (by kernel_rfl) (fun _ _ _ h => h) (Or.inl ⟨by kernel_rfl, ?ya113⟩) ?za113
      case ya113 => (intro w; go_simp; try with_reducible rfl)
      refine wpAny_take (i := 10) (v := undef) rfl (by kernel_rfl) (by kernel_rfl) (by kernel_rfl) (fun _ _ _ h => h) (Or.inr ⟨by kernel_rfl, rfl⟩) ?_
      refine wpAny_take (i := 11) (v := undef) rfl (by kernel_rfl) (by kernel_rfl) (by kernel_rfl) (fun _ _ _ h => h) (Or.inr ⟨by kernel_rfl, rfl⟩) ?_
      refine wpAny_take (i := 12) (v := undef) rfl (by kernel_rfl) (by kernel_rfl) (by kernel_rfl) (fun _ _ _ h => h) (Or.inr ⟨by kernel_rfl, rfl⟩) ?_
      refine wpAny_take (i := 13) (v := undef) rfl (by kernel_rfl) (by kernel_rfl) (by kernel_rfl) (fun _ _ _ h => h) (Or.inr ⟨by kernel_rfl, rfl⟩) ?_
      refine wpAny_take (i := 14) (v := undef) rfl (by kernel_rfl) (by kernel_rfl) (by kernel_rfl) (fun _ _ _ h => h) (Or.inr ⟨by kernel_rfl, rfl⟩) ?_
      refine wpAny_take (i := 15) (v := undef) rfl (by kernel_rfl) (by kernel_rfl) (by kernel_rfl) (fun _ _ _ h => h) (Or.inr ⟨by kernel_rfl, rfl⟩) ?_
      refine wpAny_take (i := 16) (v := undef) rfl (by kernel_rfl) (by kernel_rfl) (by kernel_rfl) (fun _ _ _ h => h) (Or.inr ⟨by kernel_rfl, rfl⟩) ?_
      refine wpAny_take (i := 17) (v := undef) rfl (by kernel_rfl) (by kernel_rfl) (by kernel_rfl) (fun _ _ _ h => h) (Or.inr ⟨by kernel_rfl, rfl⟩) ?_
      refine wpAny_take (i := 18) (v := undef) rfl (by kernel_rfl) (by kernel_rfl) (by kernel_rfl) (fun _ _ _ h => h) (Or.inr ⟨by kernel_rfl, rfl⟩) ?_
      refine wpAny_take (i := 19) (v := undef) rfl (by kernel_rfl) (by kernel_rfl) (by kernel_rfl) (fun _ _ _ h => h) (Or.inr ⟨by kernel_rfl, rfl⟩) ?_
      refine wpAny_take (i := 20) (v := undef) rfl (by kernel_rfl) (by kernel_rfl) (by kernel_rfl) (fun _ _ _ h => h) (Or.inr ⟨by kernel_rfl, rfl⟩) ?_
      refine wpAny_take (i := 21) (v := ?va114) rfl (by kernel_rfl) (by kernel_rfl) (by kernel_rfl) (fun _ _ _ h => h) (Or.inl ⟨by kernel_rfl, ?ya114⟩) ?za114
      case ya114 => (intro w; go_simp; try with_reducible rfl)
      refine wpAny_take (i := 22) (v := ?va115) rfl (by kernel_rfl) (by kernel_rfl) (by kernel_rfl) (fun _ _ _ h => h) (Or.inl ⟨by kernel_rfl, ?ya115⟩) ?za115
      case ya115 => (intro w; go_simp; try with_reducible rfl)
      refine wpAny_done (by kernel_rfl) ?_ _
      go_simp
      go_wp2
      go_ret
      first | exact ⟨_, rfl, fun e => Bool.noConfusion e, B3.out⟩ | exact ⟨_, rfl, fun e => Bool.noConfusion e, B2.out⟩ | exact ⟨_, rfl, fun e => Bool.noConfusion e, B1.out⟩ | exact ⟨_, rfl, fun _ => binary_fine (by rw [E.out]; decide) P1.out KE.out P2.out P3.out, B3.out⟩
end Go.Proofs.YtlfbmpenekiigaaGreatDoor
