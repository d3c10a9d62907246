/- Parameters, unnamed types, arguments of templates, classes: what the tests tell of a node when they are known for smaller ones; conditions: the node reads as a tree, the tables hold texts. -/
import Derived.Test.YtlfbmpenekiigaaGreatDoorSpecB
namespace Go.Proofs.YtlfbmpenekiigaaGreatDoor
open Go.ChangeShapes Go.WideShapes Go.ChangeAt Go.RowKit

/-- What a test of a function's number tells of trees of a depth. -/
def Tests (k d : Nat) : Prop := ∀ (t : Tree) (kv : Value) (w : World), In w d t kv → Calls Tryz.prog k #[.agg #[.string t.kind, .string t.text, .int .i64 t.num, kv]] w (Ans w (Fine d t))

/-- The three tests that call each other, at a depth. -/
structure Known (d : Nat) : Prop where
  cls : Tests 14 d
  typ : Tests 45 d
  arg : Tests 49 d

def ListIn (w : World) (d : Nat) (l : List Tree) (v : Value) : Prop := Tabs w ∧ ListOf w (KidsAt w d) l v

set_option maxHeartbeats 1000000 in
theorem areParamsC (d : Nat) (K : Tests 45 d) (l : List Tree) (v : Value) (w : World) (h : ListIn w d l v) :
    Calls Tryz.prog 23 #[v] w (Ans w (∀ x ∈ l, Fine d x)) := by
  obtain ⟨ht, a, c, rfl, hl, hc, hkids⟩ := h
  have HT := Lib.hid ht
  have HK := Lib.hid hkids
  have HTY := Lib.hid K
  clear hkids ht K
  go_enter Tryz.func23, Tryz.ntmps23
  go_wp2_with fail
  go_loopw [7] (fun i wr => Round w wr l (Fine d) i) (fun i _ => l.length - (intOf i).toNat)
  case atStart => exact ⟨0, Nat.zero_le _, rfl, Below.refl _ _, Upto.zero _ _⟩
  case round =>
    obtain ⟨j, hj, rfl, hb, hup⟩ := hrel
    have HB := Lib.hid hb
    have HU := Lib.hid hup
    have hsz := hb.size
    by_cases hlt : j < l.length
    · obtain ⟨x, b, o, xa, xc, hx, hm, rfl, hbl, ⟨x0, x1, x2, x3⟩, KX⟩ := kid_at HK.out hlt
      have HX := Lib.hid hx
      have HKX := Lib.hid KX
      obtain ⟨hc1, hf1⟩ := bcell hb
      have q1 : b < wr.heap.size := by omega
      have B0 := Lib.hid (HB.out.trans ((below1 wr (.cells #[.string x.kind, .string x.text, .int .i64 x.num, .slice xa x.kids.length xc] 24)).mono hsz))
      clear hb hup hx KX hm
      have hcase : ((x.kind.toList == [66, 117, 105, 108, 116, 105, 110, 84, 121, 112, 101]) = true ∧ (x.text.toList == [46, 46, 46]) = true) ∨ ((x.kind.toList == [66, 117, 105, 108, 116, 105, 110, 84, 121, 112, 101]) = true ∧ (x.text.toList == [46, 46, 46]) = false) ∨ (x.kind.toList == [66, 117, 105, 108, 116, 105, 110, 84, 121, 112, 101]) = false := by
        cases (x.kind.toList == [66, 117, 105, 108, 116, 105, 110, 84, 121, 112, 101]) <;> cases (x.text.toList == [46, 46, 46]) <;> simp
      rcases hcase with ⟨h1, h2⟩ | ⟨h1, h2⟩ | h1
      · -- the dots at the end
        by_cases hn : x.num = 0
        · by_cases hk : x.kids.length = 0
          · have hfine := leaf_fine HKX.out (t := x) (k := kBuiltinType) ⟨bBuiltinType h1, hn, List.eq_nil_of_length_eq_zero hk⟩ (by decide)
            have HF := Lib.hid hfine
            have h5 : (x.num != 0) = false := by simp [hn]
            have h6 : ¬ 0 < x.kids.length := by omega
            clear hfine hn hk
            by_cases hlast : j < l.length - 1
            · go_wp2_with fail
              go_ret
              exact ⟨_, rfl, fun e => Bool.noConfusion e, B0.out⟩
            · go_wp2_with fail
              go_roundw
              case rel => exact ⟨j + 1, by omega, by go_num, B0.out, HU.out.succ HX.out HF.out⟩
              case measure => simp [intOf]; omega
          · have h6 : 0 < x.kids.length := by omega
            have h5 : (x.num != 0) = false := by simp [hn]
            clear hn hk
            go_wp2_with fail
            all_goals go_ret
            all_goals exact ⟨_, rfl, fun e => Bool.noConfusion e, B0.out⟩
        · have h5 : (x.num != 0) = true := by simpa using hn
          clear hn
          go_wp2_with fail
          all_goals go_ret
          all_goals exact ⟨_, rfl, fun e => Bool.noConfusion e, B0.out⟩
      all_goals
        go_wp2_with fail
        refine (HTY.out x _ _ ⟨HT.out.below B0.out, HKX.out.below B0.out⟩).mono ?_
        rintro e w1 ⟨b1, rfl, hp1, hb1⟩
        have B1 := Lib.hid (B0.out.trans (hb1.mono (by simp; omega)))
        have hz1 : wr.heap.size < w1.heap.size := by have := hb1.size; simp at this; omega
        obtain ⟨hc2, hf2⟩ := bcell hb1
        cases b1
        · go_wp2_with fail
          go_ret
          exact ⟨_, rfl, fun e => Bool.noConfusion e, B1.out⟩
        · have P1 := Lib.hid (hp1 rfl)
          clear hp1 hb1
          go_wp2_with fail
          all_goals first
            | (go_ret; exact ⟨_, rfl, fun e => Bool.noConfusion e, B1.out⟩)
            | (go_roundw
               case rel => exact ⟨j + 1, by omega, by go_num, B1.out, HU.out.succ HX.out P1.out⟩
               case measure => simp [intOf]; omega)
    · have HE : Hid (j = l.length) := by show j = _; omega
      clear hb hup
      go_wp2_with fail
      go_ret
      exact ⟨_, rfl, fun _ => (HE.out ▸ HU.out).all, HB.out⟩

set_option maxHeartbeats 1000000 in
theorem areStraightC (d : Nat) (K : Tests 45 d) (l : List Tree) (v : Value) (w : World) (h : ListIn w d l v) :
    Calls Tryz.prog 48 #[v] w (Ans w (∀ x ∈ l, Fine d x)) := by
  have HL := Lib.hid h
  obtain ⟨ht, a, c, rfl, hl, hc, hkids⟩ := h
  have HK := Lib.hid hkids
  have HTY := Lib.hid K
  clear hkids ht K
  go_enter Tryz.func48, Tryz.ntmps48
  go_wp2_with fail
  go_loopw [7] (fun i wr => Round w wr l (fun _ => True) i) (fun i _ => l.length - (intOf i).toNat)
  case atStart => exact ⟨0, Nat.zero_le _, rfl, Below.refl _ _, Upto.zero _ _⟩
  case round =>
    obtain ⟨j, hj, rfl, hb, hup⟩ := hrel
    have HB := Lib.hid hb
    have HU := Lib.hid hup
    have hsz := hb.size
    by_cases hlt : j < l.length
    · obtain ⟨x, b, o, xa, xc, hx, hm, rfl, hbl, ⟨x0, x1, x2, x3⟩, KX⟩ := kid_at HK.out hlt
      have HX := Lib.hid hx
      have HKX := Lib.hid KX
      obtain ⟨hc1, hf1⟩ := bcell hb
      have q1 : b < wr.heap.size := by omega
      have B0 := Lib.hid (HB.out.trans ((below1 wr (.cells #[.string x.kind, .string x.text, .int .i64 x.num, .slice xa x.kids.length xc] 24)).mono hsz))
      clear hb hup hx KX hm
      go_wp2_with fail
      refine (turnedC d x _ _ (HKX.out.below B0.out)).mono ?_
      rintro e w1 ⟨b1, rfl, hp1, hb1⟩
      have B1 := Lib.hid (B0.out.trans (hb1.mono (by simp; omega)))
      clear hb1 hp1
      cases b1
      · go_wp2_with fail
        go_roundw
        case rel => exact ⟨j + 1, by omega, by go_num, B1.out, HU.out.succ HX.out trivial⟩
        case measure => simp [intOf]; omega
      · go_wp2_with fail
        go_ret
        exact ⟨_, rfl, fun e => Bool.noConfusion e, B1.out⟩
    · clear hup hb
      go_wp2_with fail
      refine (areParamsC d HTY.out l _ wr ⟨HL.out.1.below HB.out, HL.out.2.below HB.out⟩).mono ?_
      rintro e w1 ⟨b1, rfl, hp1, hb1⟩
      have B1 := Lib.hid (HB.out.trans (hb1.mono HB.out.size))
      have P1 := Lib.hid hp1
      clear hp1 hb1
      go_wp2_with fail
      go_ret
      exact ⟨_, rfl, P1.out, B1.out⟩
end Go.Proofs.YtlfbmpenekiigaaGreatDoor
