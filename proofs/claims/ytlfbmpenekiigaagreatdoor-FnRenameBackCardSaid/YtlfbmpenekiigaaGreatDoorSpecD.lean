/- Unnamed types, arguments of templates, classes; conditions: the node reads as a tree, the tables hold texts, smaller ones are known. -/
import Derived.Test.YtlfbmpenekiigaaGreatDoorSpecC
namespace Go.Proofs.YtlfbmpenekiigaaGreatDoor
open Go.ChangeShapes Go.WideShapes Go.ChangeAt Go.RowKit

theorem unnamed_fine {d : Nat} {t : Tree} (hk : t.kind = kUnnamedType) (ht : t.text = ByteArray.empty) (e : t.kids = []) : Fine (d + 1) t :=
  .mk (.inr (.inl ⟨hk, ht, e⟩)) (by rw [e]; intro x hx; cases hx)
theorem closure_fine {d : Nat} {t : Tree} (hk : t.kind = kClosure) (ht : t.text = ByteArray.empty) (h : ∀ x ∈ t.kids, Fine d x) : Fine (d + 1) t :=
  .mk (.inr (.inr (.inr (.inr (.inr (.inr (.inr (.inr (.inl ⟨hk, ht, fun x hx => (h x hx).kind⟩))))))))) (fun x hx => (h x hx).1)

set_option maxHeartbeats 1000000 in
theorem isUnnamedC (d : Nat) (H : ∀ e, e < d → Known e) : Tests 30 d := by
  intro t kv w h
  cases d with
  | zero => exact h.kids.elim
  | succ d =>
    have HI := Lib.hid h
    have HY := Lib.hid (H d (by omega)).typ
    obtain ⟨hk, ht, hwf, a, c, rfl, hl, hc, hkids⟩ := h.kids
    have HL : Hid (ListOf w (KidsAt w d) t.kids (.slice a t.kids.length c)) := h.kids.2.2.2
    have B := Lib.hid (below1 w (.cells #[.string t.kind, .string t.text, .int .i64 t.num, .slice a t.kids.length c] 24))
    clear hkids h H
    have hkind : t.kind = kUnnamedType ∨ t.kind = kClosure ∨ (t.kind ≠ kUnnamedType ∧ t.kind ≠ kClosure) := by
      by_cases e1 : t.kind = kUnnamedType
      · exact .inl e1
      · by_cases e2 : t.kind = kClosure
        · exact .inr (.inl e2)
        · exact .inr (.inr ⟨e1, e2⟩)
    rcases hkind with e1 | e1 | ⟨e1, e2⟩
    · have k1 := kind_is _ e1 (l := [85, 110, 110, 97, 109, 101, 100, 84, 121, 112, 101]) rfl
      have E := Lib.hid e1
      clear e1
      go_enter Tryz.func30, Tryz.ntmps30
      go_wp2_with fail
      all_goals go_ret
      all_goals first | exact ⟨_, rfl, fun e => Bool.noConfusion e, B.out⟩ | exact ⟨_, rfl, fun e => unnamed_fine E.out (empty_of_nil (by assumption)) (by simpa using e), B.out⟩
    · have k1 := kind_ne (a := t.kind) kUnnamedType (by rw [e1]; decide) (l := [85, 110, 110, 97, 109, 101, 100, 84, 121, 112, 101]) rfl
      have k2 := kind_is _ e1 (l := [67, 108, 111, 115, 117, 114, 101]) rfl
      have E := Lib.hid e1
      clear e1
      go_enter Tryz.func30, Tryz.ntmps30
      go_wp2_with (go_at_call 48; refine (areStraightC d HY.out t.kids _ _ ⟨HI.out.tabs.below B.out, HL.out.below B.out⟩).mono ?_; rintro e w1 ⟨b1, rfl, hp1, hb1⟩; have B1 := Lib.hid (B.out.trans (hb1.mono (by simp))); have P1 := Lib.hid hp1; clear hp1 hb1)
      all_goals go_ret
      all_goals first | exact ⟨_, rfl, fun e => Bool.noConfusion e, B.out⟩ | exact ⟨_, rfl, fun e => closure_fine E.out (empty_of_nil (by assumption)) (P1.out e), B1.out⟩
    · have k1 := kind_ne (a := t.kind) kUnnamedType e1 (l := [85, 110, 110, 97, 109, 101, 100, 84, 121, 112, 101]) rfl
      have k2 := kind_ne (a := t.kind) kClosure e2 (l := [67, 108, 111, 115, 117, 114, 101]) rfl
      clear e1 e2
      go_enter Tryz.func30, Tryz.ntmps30
      go_wp2_with fail
      all_goals go_ret
      all_goals exact ⟨_, rfl, fun e => Bool.noConfusion e, B.out⟩

/-- What isTemplate's yes tells. -/
def TplT (d : Nat) (t : Tree) : Prop := t.text = ByteArray.empty ∧ t.num = 0 ∧ ∃ x y l, t.kids = x :: y :: l ∧ ∀ z ∈ y :: l, Fine (d - 1) z

theorem kids_tail {w : World} {d : Nat} {t : Tree} {b o : Nat}
    (h : ∀ i x, t.kids[i]? = some x → ∃ b' o' kv, (some ⟨b, o, none⟩ : Option Addr) = some ⟨b', o', none⟩ ∧ w.cell? ⟨b', o' + i * 4, none⟩ = some (.string x.kind) ∧ w.cell? ⟨b', o' + i * 4 + 1, none⟩ = some (.string x.text) ∧
      w.cell? ⟨b', o' + i * 4 + 2, none⟩ = some (.int .i64 x.num) ∧ w.cell? ⟨b', o' + i * 4 + 3, none⟩ = some kv ∧ KidsAt w d x kv) {x : Tree} {l : List Tree} (e : t.kids = x :: l) :
    ∀ i y, l[i]? = some y → ∃ b' o' kv, (some ⟨b, o + 4, none⟩ : Option Addr) = some ⟨b', o', none⟩ ∧ w.cell? ⟨b', o' + i * 4, none⟩ = some (.string y.kind) ∧ w.cell? ⟨b', o' + i * 4 + 1, none⟩ = some (.string y.text) ∧
      w.cell? ⟨b', o' + i * 4 + 2, none⟩ = some (.int .i64 y.num) ∧ w.cell? ⟨b', o' + i * 4 + 3, none⟩ = some kv ∧ KidsAt w d y kv := by
  intro i y hy
  obtain ⟨b', o', kv, e1, h0, h1, h2, h3, h4⟩ := h (i + 1) y (by rw [e]; simpa using hy)
  obtain ⟨rfl, rfl⟩ : b = b' ∧ o = o' := by simpa using e1
  have ea : o + (i + 1) * 4 = o + 4 + i * 4 := by omega
  rw [ea] at h0 h1 h2 h3
  exact ⟨b, o + 4, kv, rfl, h0, h1, h2, h3, h4⟩

set_option maxHeartbeats 1000000 in
theorem isTemplateC (d : Nat) (H : ∀ e, e < d → Known e) (t : Tree) (kv : Value) (w : World) (h : In w d t kv) :
    Calls Tryz.prog 31 #[.agg #[.string t.kind, .string t.text, .int .i64 t.num, kv]] w (Ans w (TplT d t)) := by
  cases d with
  | zero => exact h.kids.elim
  | succ d =>
    have HI := Lib.hid h
    have HY := Lib.hid (H d (by omega)).arg
    obtain ⟨hk, ht, hwf, a, c, rfl, hl, hc, hkids⟩ := h.kids
    have HK := Lib.hid hkids
    have B := Lib.hid (below1 w (.cells #[.string t.kind, .string t.text, .int .i64 t.num, .slice a t.kids.length c] 24))
    clear hkids h H
    by_cases hlen : 2 ≤ t.kids.length
    · obtain ⟨x, b, o, xa, xc, _, _, rfl, hbl, _, _⟩ := kid0 HK.out (by omega)
      obtain ⟨y0, y1, l, ek⟩ : ∃ y0 y1 l, t.kids = y0 :: y1 :: l := by
        rcases hkk : t.kids with _ | ⟨y0, _ | ⟨y1, l⟩⟩
        · rw [hkk] at hlen; simp at hlen
        · rw [hkk] at hlen; simp at hlen
        · exact ⟨y0, y1, l, rfl⟩
      have EK := Lib.hid ek
      have HT := Lib.hid (kids_tail HK.out ek)
      have hll : t.kids.length - 1 = (y1 :: l).length := by rw [ek]; simp
      have HLL := Lib.hid hll
      clear hll ek
      have hd : decide ((t.kids.length : Int) < 2) = false := by simp; omega
      by_cases htx : t.text = ByteArray.empty
      · by_cases hnum : t.num = 0
        · have hn : (t.num != 0) = false := by simp [hnum]
          have ht0 : t.text.toList = [] := by rw [htx, Lib.toList_data]; rfl
          have HTX := Lib.hid htx
          have HNUM := Lib.hid hnum
          clear htx hnum
          go_enter Tryz.func31, Tryz.ntmps31
          go_wp2_with fail
          go_loopw [23] (fun i wr => Round w wr (y1 :: l) (Fine d) i) (fun i _ => t.kids.length - 1 - (intOf i).toNat)
          case atStart => exact ⟨0, Nat.zero_le _, rfl, B.out, Upto.zero _ _⟩
          case round =>
            obtain ⟨j, hj, rfl, hb, hup⟩ := hrel
            have HB := Lib.hid hb
            have HU := Lib.hid hup
            have hsz := hb.size
            rw [← HLL.out] at hj
            by_cases hlt : j < t.kids.length - 1
            · obtain ⟨x, b', o', xa, xc, hx, hm, eb, hbl', ⟨x0, x1, x2, x3⟩, KX⟩ := kid_at HT.out (by rw [← HLL.out]; exact hlt)
              obtain ⟨rfl, rfl⟩ : b = b' ∧ o + 4 = o' := by simpa using eb
              have HX := Lib.hid hx
              have HKX := Lib.hid KX
              obtain ⟨hc1, hf1⟩ := bcell hb
              have q1 : b < wr.heap.size := by omega
              have B0 := Lib.hid (HB.out.trans ((below1 wr (.cells #[.string x.kind, .string x.text, .int .i64 x.num, .slice xa x.kids.length xc] 24)).mono hsz))
              clear hb hup hx KX hm eb
              go_wp2_with fail
              refine (HY.out x _ _ ⟨HI.out.tabs.below B0.out, HKX.out.below B0.out⟩).mono ?_
              rintro e w1 ⟨b1, rfl, hp1, hb1⟩
              have B1 := Lib.hid (B0.out.trans (hb1.mono (by simp; omega)))
              cases b1
              · clear hp1 hb1
                go_wp2_with fail
                go_ret
                exact ⟨_, rfl, fun e => Bool.noConfusion e, B1.out⟩
              · have P1 := Lib.hid (hp1 rfl)
                clear hp1 hb1
                go_wp2_with fail
                go_roundw
                case rel => exact ⟨j + 1, by rw [← HLL.out]; omega, by go_num, B1.out, HU.out.succ HX.out P1.out⟩
                case measure => simp [intOf]; omega
            · have HE : Hid (j = (y1 :: l).length) := by show j = _; rw [← HLL.out]; omega
              clear hb hup
              go_wp2_with fail
              go_ret
              exact ⟨_, rfl, fun _ => ⟨HTX.out, HNUM.out, y0, y1, l, EK.out, (HE.out ▸ HU.out).all⟩, HB.out⟩
        · have hn : (t.num != 0) = true := by simpa using hnum
          clear hnum htx
          go_enter Tryz.func31, Tryz.ntmps31
          go_wp2_with fail
          all_goals go_ret
          all_goals exact ⟨_, rfl, fun e => Bool.noConfusion e, below1 _ _⟩
      · have ht0 : (!t.text.toList.isEmpty) = true := by
          cases he : t.text.toList with
          | nil => exact (htx (empty_of_nil he)).elim
          | cons _ _ => rfl
        clear htx
        go_enter Tryz.func31, Tryz.ntmps31
        go_wp2_with fail
        all_goals first
          | (go_ret; exact ⟨_, rfl, fun e => Bool.noConfusion e, below1 _ _⟩)
          | (exfalso; have h9 : t.text.toList = [] := by assumption
             rw [h9] at ht0
             exact Bool.noConfusion ht0)
    · go_enter Tryz.func31, Tryz.ntmps31
      go_wp2_with fail
      all_goals go_ret
      all_goals exact ⟨_, rfl, fun e => Bool.noConfusion e, below1 _ _⟩

theorem template_fine {d : Nat} {t : Tree} (hk : t.kind = kTemplate) (h : TplT (d + 1) t) (hx : ∀ x, t.kids[0]? = some x → Fine d x) : Fine (d + 1) t := by
  obtain ⟨h1, h2, x, y, l, e, h3⟩ := h
  have fx := hx x (by rw [e]; rfl)
  refine .mk (.inr (.inr (.inr (.inr (.inr (.inr (.inr (.inr (.inr (.inl ⟨hk, h1, h2, x, y :: l, e, fx.kind, fun z hz => (h3 z hz).kind⟩)))))))))) ?_
  rw [e]
  intro z hz
  rcases List.mem_cons.1 hz with rfl | hz
  · exact fx.1
  · exact (h3 z hz).1
end Go.Proofs.YtlfbmpenekiigaaGreatDoor
