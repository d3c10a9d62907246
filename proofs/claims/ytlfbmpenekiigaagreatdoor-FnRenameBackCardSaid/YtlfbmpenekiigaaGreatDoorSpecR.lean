/- What the tests tell that go through a whole tree: Has, HasName, Same, Small, Turned; conditions: the nodes read as trees. -/
import Derived.Test.YtlfbmpenekiigaaGreatDoorSpecA
import Derived.Test.YtlfbmpenekiigaaGreatDoorRen
namespace Go.Proofs.YtlfbmpenekiigaaGreatDoor
open Go.ChangeShapes Go.WideShapes Go.ChangeAt Go.RowKit

/-- A test's answer: if it is no, then P; old memory stays. -/
def AnsNo (w : World) (P : Prop) (e : Ending) (w' : World) : Prop := ∃ b, e = .returned (.bool b) ∧ (b = false → P) ∧ Below w.heap.size w w'

theorem KidsAt.form {w : World} {d : Nat} {t : Tree} {kv : Value} (h : KidsAt w d t kv) : ∃ a c, kv = .slice a t.kids.length c := by
  cases d with
  | zero => exact h.elim
  | succ d =>
    obtain ⟨_, _, _, a, c, e, _⟩ := h
    exact ⟨a, c, e⟩

/-- A kid, and where it lies. -/
theorem kid_at {w : World} {d : Nat} {l : List Tree} {a : Option Addr}
    (h : ∀ i x, l[i]? = some x → ∃ b o kv, a = some ⟨b, o, none⟩ ∧ w.cell? ⟨b, o + i * 4, none⟩ = some (.string x.kind) ∧ w.cell? ⟨b, o + i * 4 + 1, none⟩ = some (.string x.text) ∧
      w.cell? ⟨b, o + i * 4 + 2, none⟩ = some (.int .i64 x.num) ∧ w.cell? ⟨b, o + i * 4 + 3, none⟩ = some kv ∧ KidsAt w d x kv) {j : Nat} (hj : j < l.length) :
    ∃ x b o xa xc, l[j]? = some x ∧ x ∈ l ∧ a = some ⟨b, o, none⟩ ∧ b < w.heap.size ∧
      (w.cell? ⟨b, o + j * 4, none⟩ = some (.string x.kind) ∧ w.cell? ⟨b, o + j * 4 + 1, none⟩ = some (.string x.text) ∧ w.cell? ⟨b, o + j * 4 + 2, none⟩ = some (.int .i64 x.num) ∧ w.cell? ⟨b, o + j * 4 + 3, none⟩ = some (.slice xa x.kids.length xc)) ∧
      KidsAt w d x (.slice xa x.kids.length xc) := by
  have hx : l[j]? = some l[j] := List.getElem?_eq_getElem hj
  obtain ⟨b, o, kv, e, h0, h1, h2, h3, h4⟩ := h j _ hx
  obtain ⟨xa, xc, rfl⟩ := h4.form
  exact ⟨_, b, o, xa, xc, hx, List.getElem_mem hj, e, World.block_lt_of_cell? w _ h0, ⟨h0, h1, h2, h3⟩, h4⟩

def Upto (l : List Tree) (P : Tree → Prop) (j : Nat) : Prop := ∀ i x, i < j → l[i]? = some x → P x
theorem Upto.zero (l : List Tree) (P : Tree → Prop) : Upto l P 0 := fun _ _ h => by omega
theorem Upto.succ {l : List Tree} {P : Tree → Prop} {j : Nat} {x : Tree} (h : Upto l P j) (hx : l[j]? = some x) (hp : P x) : Upto l P (j + 1) := by
  intro i y hi hy
  by_cases e : i = j
  · subst e
    rw [hx] at hy
    obtain rfl := Option.some.inj hy
    exact hp
  · exact h i y (by omega) hy
theorem Upto.all {l : List Tree} {P : Tree → Prop} (h : Upto l P l.length) : ∀ x ∈ l, P x := by
  intro x hx
  obtain ⟨i, hi, rfl⟩ := List.getElem_of_mem hx
  exact h i _ hi (List.getElem?_eq_getElem hi)

def Round (w wr : World) (l : List Tree) (P : Tree → Prop) (i : Value) : Prop := ∃ j : Nat, j ≤ l.length ∧ i = .int .i64 j ∧ Below w.heap.size w wr ∧ Upto l P j

set_option maxHeartbeats 1000000 in
theorem hasC (k : ByteArray) : ∀ (d : Nat) (t : Tree) (kv : Value) (w : World), KidsAt w d t kv →
    Calls Tryz.prog 15 #[.agg #[.string t.kind, .string t.text, .int .i64 t.num, kv], .string k] w (AnsNo w (All (fun x => x.kind ≠ k) d t)) := by
  intro d
  induction d with
  | zero => intro t kv w h; exact h.elim
  | succ d ih =>
    intro t kv w h
    obtain ⟨hkk, ht, _, a, c, rfl, hl, hc, hkids⟩ := h
    have HK := Lib.hid hkids
    clear hkids
    have B := Lib.hid (below1 w (.cells #[.string t.kind, .string t.text, .int .i64 t.num, .slice a t.kids.length c] 24))
    cases hkb : (t.kind.toList == k.toList)
    case true =>
      go_enter Tryz.func15, Tryz.ntmps15
      go_wp2_with fail
      go_ret
      exact ⟨_, rfl, fun e => Bool.noConfusion e, B.out⟩
    case false =>
      have hne : Hid (t.kind ≠ k) := by
        intro e
        rw [e] at hkb
        simp at hkb
      go_enter Tryz.func15, Tryz.ntmps15
      go_wp2_with fail
      go_loopw [14] (fun i wr => Round w wr t.kids (fun x => All (fun x => x.kind ≠ k) d x) i) (fun i _ => t.kids.length - (intOf i).toNat)
      case atStart => exact ⟨0, Nat.zero_le _, rfl, B.out, Upto.zero _ _⟩
      case round =>
        obtain ⟨j, hj, rfl, hb, hup⟩ := hrel
        have HB := Lib.hid hb
        have HU := Lib.hid hup
        have hsz := hb.size
        by_cases hlt : j < t.kids.length
        · obtain ⟨x, b, o, xa, xc, hx, hm, rfl, hbl, ⟨x0, x1, x2, x3⟩, KX⟩ := kid_at HK.out hlt
          have HX := Lib.hid hx
          have HKX := Lib.hid KX
          obtain ⟨hc1, hf1⟩ := bcell hb
          have q1 : b < wr.heap.size := by omega
          clear hb hup hx KX hm
          go_wp2_with fail
          refine (ih x _ _ (HKX.out.below (HB.out.trans ((below1 wr _).mono hsz)))).mono ?_
          rintro e w1 ⟨b1, rfl, hp1, hb1⟩
          have B1 := Lib.hid ((HB.out.trans ((below1 wr _).mono hsz)).trans (hb1.mono (by simp; omega)))
          cases b1
          · have P1 := Lib.hid (hp1 rfl)
            clear hp1 hb1
            go_wp2_with fail
            go_roundw
            case rel => exact ⟨j + 1, by omega, by go_num, B1.out, HU.out.succ HX.out P1.out⟩
            case measure => simp [intOf]; omega
          · clear hp1 hb1
            go_wp2_with fail
            go_ret
            exact ⟨_, rfl, fun e => Bool.noConfusion e, B1.out⟩
        · have HE : Hid (j = t.kids.length) := by show j = _; omega
          clear hb hup
          go_wp2_with fail
          go_ret
          exact ⟨_, rfl, fun _ => ⟨hne.out, (HE.out ▸ HU.out).all⟩, HB.out⟩

/-- Whether an element is there. -/
def Tells (w : World) (P : Prop) (e : Ending) (w' : World) : Prop := ∃ b, e = .returned (.bool b) ∧ (b = true ↔ P) ∧ Below w.heap.size w w'

theorem upto_none {l : List Tree} {P : Tree → Prop} (h : Upto l (fun x => ¬ P x) l.length) : ¬ ∃ x ∈ l, P x := fun ⟨x, hx, hp⟩ => h.all x hx hp

set_option maxHeartbeats 1000000 in
theorem hasNameC (k : ByteArray) : ∀ (d : Nat) (t : Tree) (kv : Value) (w : World), KidsAt w d t kv →
    Calls Tryz.prog 8 #[.agg #[.string t.kind, .string t.text, .int .i64 t.num, kv], .string k] w (Tells w (has k d t)) := by
  intro d
  induction d with
  | zero => intro t kv w h; exact h.elim
  | succ d ih =>
    intro t kv w h
    obtain ⟨hkk, ht, _, a, c, rfl, hl, hc, hkids⟩ := h
    have HK := Lib.hid hkids
    clear hkids
    have B := Lib.hid (below1 w (.cells #[.string t.kind, .string t.text, .int .i64 t.num, .slice a t.kids.length c] 24))
    by_cases hroot : t.kind = kName ∧ t.text = k
    · have h1 : (t.kind.toList == [78, 97, 109, 101]) = true := kind_is _ hroot.1 rfl
      have h2 : (t.text.toList == k.toList) = true := by rw [hroot.2]; simp
      have HR := Lib.hid hroot
      clear hroot
      go_enter Tryz.func8, Tryz.ntmps8
      go_wp2_with fail
      go_ret
      exact ⟨_, rfl, ⟨fun _ => .inl HR.out, fun _ => rfl⟩, B.out⟩
    · have HR := Lib.hid hroot
      have hcase : ((t.kind.toList == [78, 97, 109, 101]) = true ∧ (t.text.toList == k.toList) = false) ∨ (t.kind.toList == [78, 97, 109, 101]) = false := by
        cases h1 : (t.kind.toList == [78, 97, 109, 101])
        · exact .inr rfl
        · cases h2 : (t.text.toList == k.toList)
          · exact .inl ⟨rfl, rfl⟩
          · exact (hroot ⟨bName h1, bytes_of (by simpa using h2)⟩).elim
      clear hroot
      rcases hcase with ⟨h1, h2⟩ | h1
      all_goals
        go_enter Tryz.func8, Tryz.ntmps8
        go_wp2_with fail
        go_loopw [19] (fun i wr => Round w wr t.kids (fun x => ¬ has k d x) i) (fun i _ => t.kids.length - (intOf i).toNat)
        case atStart => exact ⟨0, Nat.zero_le _, rfl, B.out, Upto.zero _ _⟩
        case round =>
          obtain ⟨j, hj, rfl, hb, hup⟩ := hrel
          have HB := Lib.hid hb
          have HU := Lib.hid hup
          have hsz := hb.size
          by_cases hlt : j < t.kids.length
          · obtain ⟨x, b, o, xa, xc, hx, hm, rfl, hbl, ⟨x0, x1, x2, x3⟩, KX⟩ := kid_at HK.out hlt
            have HX := Lib.hid hx
            have HKX := Lib.hid KX
            have HM := Lib.hid hm
            obtain ⟨hc1, hf1⟩ := bcell hb
            have q1 : b < wr.heap.size := by omega
            clear hb hup hx KX hm
            go_wp2_with fail
            refine (ih x _ _ (HKX.out.below (HB.out.trans ((below1 wr _).mono hsz)))).mono ?_
            rintro e w1 ⟨b1, rfl, hp1, hb1⟩
            have B1 := Lib.hid ((HB.out.trans ((below1 wr _).mono hsz)).trans (hb1.mono (by simp; omega)))
            cases b1
            · have P1 := Lib.hid (fun e => Bool.noConfusion (hp1.2 e) : ¬ has k d x)
              clear hp1 hb1
              go_wp2_with fail
              go_roundw
              case rel => exact ⟨j + 1, by omega, by go_num, B1.out, HU.out.succ HX.out P1.out⟩
              case measure => simp [intOf]; omega
            · have P1 := Lib.hid (hp1.1 rfl)
              clear hp1 hb1
              go_wp2_with fail
              go_ret
              exact ⟨_, rfl, ⟨fun _ => .inr ⟨x, HM.out, P1.out⟩, fun _ => rfl⟩, B1.out⟩
          · have HE : Hid (j = t.kids.length) := by show j = _; omega
            clear hb hup
            go_wp2_with fail
            go_ret
            exact ⟨_, rfl, ⟨fun e => Bool.noConfusion e, fun e => (e.elim HR.out (upto_none (HE.out ▸ HU.out))).elim⟩, HB.out⟩

/-- Two rows of nodes: the first two elements. -/
theorem kid0 {w : World} {d : Nat} {l : List Tree} {a : Option Addr}
    (h : ∀ i x, l[i]? = some x → ∃ b o kv, a = some ⟨b, o, none⟩ ∧ w.cell? ⟨b, o + i * 4, none⟩ = some (.string x.kind) ∧ w.cell? ⟨b, o + i * 4 + 1, none⟩ = some (.string x.text) ∧
      w.cell? ⟨b, o + i * 4 + 2, none⟩ = some (.int .i64 x.num) ∧ w.cell? ⟨b, o + i * 4 + 3, none⟩ = some kv ∧ KidsAt w d x kv) (hj : 0 < l.length) :
    ∃ x b o xa xc, l[0]? = some x ∧ x ∈ l ∧ a = some ⟨b, o, none⟩ ∧ b < w.heap.size ∧
      (w.cell? ⟨b, o, none⟩ = some (.string x.kind) ∧ w.cell? ⟨b, o + 1, none⟩ = some (.string x.text) ∧ w.cell? ⟨b, o + 2, none⟩ = some (.int .i64 x.num) ∧ w.cell? ⟨b, o + 3, none⟩ = some (.slice xa x.kids.length xc)) ∧
      KidsAt w d x (.slice xa x.kids.length xc) := by
  obtain ⟨x, b, o, xa, xc, hx, hm, e, hb, ⟨h0, h1, h2, h3⟩, hk⟩ := kid_at h hj
  simp only [Nat.zero_mul, Nat.add_zero] at h0 h1 h2 h3
  exact ⟨x, b, o, xa, xc, hx, hm, e, hb, ⟨h0, h1, h2, h3⟩, hk⟩
theorem kid1 {w : World} {d : Nat} {l : List Tree} {b o : Nat}
    (h : ∀ i x, l[i]? = some x → ∃ b' o' kv, (some ⟨b, o, none⟩ : Option Addr) = some ⟨b', o', none⟩ ∧ w.cell? ⟨b', o' + i * 4, none⟩ = some (.string x.kind) ∧ w.cell? ⟨b', o' + i * 4 + 1, none⟩ = some (.string x.text) ∧
      w.cell? ⟨b', o' + i * 4 + 2, none⟩ = some (.int .i64 x.num) ∧ w.cell? ⟨b', o' + i * 4 + 3, none⟩ = some kv ∧ KidsAt w d x kv) (hj : 1 < l.length) :
    ∃ x xa xc, l[1]? = some x ∧ x ∈ l ∧
      (w.cell? ⟨b, o + 4, none⟩ = some (.string x.kind) ∧ w.cell? ⟨b, o + 4 + 1, none⟩ = some (.string x.text) ∧ w.cell? ⟨b, o + 4 + 2, none⟩ = some (.int .i64 x.num) ∧ w.cell? ⟨b, o + 4 + 3, none⟩ = some (.slice xa x.kids.length xc)) ∧
      KidsAt w d x (.slice xa x.kids.length xc) := by
  obtain ⟨x, b', o', xa, xc, hx, hm, e, hb, ⟨h0, h1, h2, h3⟩, hk⟩ := kid_at h hj
  obtain ⟨rfl, rfl⟩ : b = b' ∧ o = o' := by simpa using e
  simp only [Nat.one_mul] at h0 h1 h2 h3
  exact ⟨x, xa, xc, hx, hm, ⟨h0, h1, h2, h3⟩, hk⟩

set_option maxHeartbeats 2000000 in
theorem turnedC : ∀ (d : Nat) (t : Tree) (kv : Value) (w : World), KidsAt w d t kv →
    Calls Tryz.prog 26 #[.agg #[.string t.kind, .string t.text, .int .i64 t.num, kv]] w (Ans w True) := by
  intro d
  induction d with
  | zero => intro t kv w h; exact h.elim
  | succ d ih =>
    intro t kv w h
    obtain ⟨hkk, ht, _, a, c, rfl, hl, hc, hkids⟩ := h
    have HK := Lib.hid hkids
    clear hkids
    have B := below1 w (.cells #[.string t.kind, .string t.text, .int .i64 t.num, .slice a t.kids.length c] 24)
    by_cases h0 : 0 < t.kids.length
    · obtain ⟨x, b, o, xa, xc, _, _, rfl, hbl, ⟨x0, x1, x2, x3⟩, KX⟩ := kid0 HK.out h0
      have HX := Lib.hid KX
      clear KX
      by_cases h1 : 1 < t.kids.length
      · obtain ⟨y, ya, yc, _, _, ⟨y0, y1, y2, y3⟩, KY⟩ := kid1 HK.out h1
        have HY := Lib.hid KY
        clear KY
        go_enter Tryz.func26, Tryz.ntmps26
        go_wp2_with (go_at_call 26; refine (ih _ _ _ ?_).mono ?_; (first | exact HX.out.below B | exact HY.out.below B); rintro e w1 ⟨b1, rfl, _, hb1⟩; have B1 := Lib.hid (B.trans (hb1.mono (by simp))); clear hb1; cases b1)
        all_goals go_ret
        all_goals first | exact ⟨_, rfl, fun _ => trivial, B⟩ | exact ⟨_, rfl, fun _ => trivial, B1.out⟩
      · go_enter Tryz.func26, Tryz.ntmps26
        go_wp2_with (go_at_call 26; refine (ih _ _ _ ?_).mono ?_; (exact HX.out.below B); rintro e w1 ⟨b1, rfl, _, hb1⟩; have B1 := Lib.hid (B.trans (hb1.mono (by simp))); clear hb1; cases b1)
        all_goals go_ret
        all_goals first | exact ⟨_, rfl, fun _ => trivial, B⟩ | exact ⟨_, rfl, fun _ => trivial, B1.out⟩
    · go_enter Tryz.func26, Tryz.ntmps26
      go_wp2_with fail
      all_goals go_ret
      all_goals exact ⟨_, rfl, fun _ => trivial, B⟩
end Go.Proofs.YtlfbmpenekiigaaGreatDoor
