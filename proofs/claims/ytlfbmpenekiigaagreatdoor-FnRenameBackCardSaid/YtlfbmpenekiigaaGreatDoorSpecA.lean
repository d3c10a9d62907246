/- What the small tests on nodes tell; conditions: the node reads as a tree. -/
import Derived.Test.YtlfbmpenekiigaaGreatDoorSpecS
import Derived.Deep.QuietTactic
import Derived.BigQuiet
namespace Go.Proofs.YtlfbmpenekiigaaGreatDoor
open Go.ChangeShapes Go.WideShapes Go.ChangeAt Go.RowKit

/-- A test's answer: if it is yes, then P; old memory stays. -/
def Ans (w : World) (P : Prop) (e : Ending) (w' : World) : Prop := ∃ b, e = .returned (.bool b) ∧ (b = true → P) ∧ Below w.heap.size w w'

theorem Ans.imp {w w' : World} {e : Ending} {P Q : Prop} (h : Ans w P e w') (f : P → Q) : Ans w Q e w' := by
  obtain ⟨b, he, hp, hb⟩ := h
  exact ⟨b, he, fun k => f (hp k), hb⟩

theorem below1 (w : World) (o : Obj) : Below w.heap.size w (w.alloc o) := (Below.refl _ _).alloc (Nat.le_refl _) _
theorem bcell {W w1 : World} (hb : Below W.heap.size W w1) : (∀ b o, b < W.heap.size → w1.cell? ⟨b, o, none⟩ = W.cell? ⟨b, o, none⟩) ∧ (∀ b o, b < W.heap.size → w1.frozen? ⟨b, o, none⟩ = W.frozen? ⟨b, o, none⟩) :=
  ⟨fun b o h => hb.cell (p := ⟨b, o, none⟩) h, fun b o h => hb.frozen (p := ⟨b, o, none⟩) h⟩

def PlainT (t : Tree) (k : Nat) : Prop := t.text = ByteArray.empty ∧ t.num = 0 ∧ t.kids.length = k
def LeafT (t : Tree) (k : ByteArray) : Prop := t.kind = k ∧ t.num = 0 ∧ t.kids = []

theorem plainC (t : Tree) (kv : Value) (k : Nat) (d : Nat) (w : World) (h : KidsAt w d t kv) :
    Calls Tryz.prog 21 #[.agg #[.string t.kind, .string t.text, .int .i64 t.num, kv], .int .i64 k] w (Ans w (PlainT t k)) := by
  cases d with
  | zero => exact h.elim
  | succ d =>
    obtain ⟨_, _, _, a, c, rfl, hl, hc, _⟩ := h
    go_enter Tryz.func21, Tryz.ntmps21
    go_wp2
    · go_ret
      exact ⟨_, rfl, fun e => ⟨empty_of_nil (by assumption), by assumption, by simp at e; omega⟩, below1 _ _⟩
    · go_ret
      exact ⟨_, rfl, fun e => (by cases e), below1 _ _⟩
    · go_ret
      exact ⟨_, rfl, fun e => (by cases e), below1 _ _⟩

theorem leaf_fine {w : World} {d : Nat} {t : Tree} {kv : Value} {k : ByteArray} (h : KidsAt w d t kv) (hl : LeafT t k) (hk : k ∈ leafKinds) : Fine d t := by
  cases d with
  | zero => exact h.elim
  | succ d => exact .mk (.inl ⟨hl.1 ▸ hk, hl.2⟩) (by rw [hl.2.2]; intro x hx; cases hx)

/-- Two kids, and where they lie. -/
theorem kids2 {w : World} {d : Nat} {t : Tree} {a : Option Addr}
    (h : ∀ i x, t.kids[i]? = some x → ∃ b o kv, a = some ⟨b, o, none⟩ ∧ w.cell? ⟨b, o + i * 4, none⟩ = some (.string x.kind) ∧ w.cell? ⟨b, o + i * 4 + 1, none⟩ = some (.string x.text) ∧
      w.cell? ⟨b, o + i * 4 + 2, none⟩ = some (.int .i64 x.num) ∧ w.cell? ⟨b, o + i * 4 + 3, none⟩ = some kv ∧ KidsAt w d x kv) (hl : t.kids.length = 2) :
    ∃ x y b o kx ky, Hid (t.kids = [x, y]) ∧ a = some ⟨b, o, none⟩ ∧ b < w.heap.size ∧ 1 < t.kids.length ∧
      (w.cell? ⟨b, o, none⟩ = some (.string x.kind) ∧ w.cell? ⟨b, o + 1, none⟩ = some (.string x.text) ∧ w.cell? ⟨b, o + 2, none⟩ = some (.int .i64 x.num) ∧ w.cell? ⟨b, o + 3, none⟩ = some kx) ∧
      (w.cell? ⟨b, o + 4, none⟩ = some (.string y.kind) ∧ w.cell? ⟨b, o + 4 + 1, none⟩ = some (.string y.text) ∧ w.cell? ⟨b, o + 4 + 2, none⟩ = some (.int .i64 y.num) ∧ w.cell? ⟨b, o + 4 + 3, none⟩ = some ky) ∧
      KidsAt w d x kx ∧ KidsAt w d y ky := by
  obtain ⟨k, tx, n, ks⟩ := t
  rcases ks with _ | ⟨x, _ | ⟨y, _ | ⟨z, l⟩⟩⟩
  all_goals first | (simp at hl; done) | skip
  obtain ⟨b, o, kx, rfl, h0, h1, h2, h3, h4⟩ := h 0 x rfl
  obtain ⟨b', o', ky, e, g0, g1, g2, g3, g4⟩ := h 1 y rfl
  obtain ⟨rfl, rfl⟩ : b = b' ∧ o = o' := by simpa using e
  refine ⟨x, y, b, o, kx, ky, rfl, rfl, World.block_lt_of_cell? w _ h0, by simp, ⟨?_, ?_, ?_, ?_⟩, ⟨?_, ?_, ?_, ?_⟩, h4, g4⟩
  · simpa using h0
  · simpa using h1
  · simpa using h2
  · simpa using h3
  · simpa using g0
  · simpa using g1
  · simpa using g2
  · simpa using g3

theorem Fine.all {d : Nat} {t : Tree} (h : Fine d t) : All Good d t := h.1
theorem shape_kind {t : Tree} (h : Shape t) : t.kind ≠ ByteArray.empty := by
  intro e
  unfold Shape at h
  rw [e] at h
  rcases h with h | h | h | h | h | h | h | h | h | h | h
  all_goals first | exact absurd h.1 (by decide) | skip
theorem Fine.kind {d : Nat} {t : Tree} (h : Fine d t) : t.kind ≠ ByteArray.empty := shape_kind h.2

theorem binary_fine {d : Nat} {t x y : Tree} (hk : t.kind ∈ binaryKinds) (hp : PlainT t 2) (e : t.kids = [x, y]) (hx : Fine d x) (hy : Fine d y) : Fine (d + 1) t :=
  .mk (.inr (.inr (.inr (.inr (.inr (.inl ⟨hk, hp.1, hp.2.1, x, y, e, hx.kind, hy.kind⟩)))))) (by
    rw [e]; intro z hz
    rcases List.mem_cons.1 hz with rfl | hz
    · exact hx.1
    · rcases List.mem_cons.1 hz with rfl | hz
      · exact hy.1
      · cases hz)

theorem isNameC (t : Tree) (kv : Value) (d : Nat) (w : World) (h : KidsAt w d t kv) :
    Calls Tryz.prog 47 #[.agg #[.string t.kind, .string t.text, .int .i64 t.num, kv]] w (Ans w (LeafT t kName)) := by
  cases d with
  | zero => exact h.elim
  | succ d =>
    obtain ⟨hk, ht, _, a, c, rfl, hl, hc, _⟩ := h
    go_enter Tryz.func47, Tryz.ntmps47
    go_wp2_with (go_at_call 64; refine (identC _ _ ht).mono ?_; rintro e w' ⟨b, rfl, rfl⟩; cases b)
    all_goals go_ret
    all_goals first | exact ⟨_, rfl, fun e => Bool.noConfusion e, below1 _ _⟩ | exact ⟨_, rfl, fun _ => ⟨eName (by assumption), by assumption, by assumption⟩, below1 _ _⟩

theorem isTaggedC : ∀ (d : Nat) (t : Tree) (kv : Value) (w : World), KidsAt w d t kv →
    Calls Tryz.prog 29 #[.agg #[.string t.kind, .string t.text, .int .i64 t.num, kv]] w (Ans w (Fine d t)) := by
  intro d
  induction d with
  | zero => intro t kv w h; exact h.elim
  | succ d ih =>
    intro t kv w h
    have h0 := Lib.hid h
    obtain ⟨hk, ht, _, a, c, rfl, hl, hc, hkids⟩ := h
    have HK := Lib.hid hkids
    clear hkids
    have B := below1 w (.cells #[.string t.kind, .string t.text, .int .i64 t.num, .slice a t.kids.length c] 24)
    go_enter Tryz.func29, Tryz.ntmps29
    go_wp2_with fail
    · refine (plainC t _ 2 (d + 1) _ (h0.out.below B)).mono ?_
      rintro e w1 ⟨b1, rfl, hp1, hb1⟩
      have B1 := Lib.hid (B.trans (hb1.mono (by simp)))
      have hz1 : w.heap.size < w1.heap.size := by have := hb1.size; simp at this; omega
      obtain ⟨hc1, hf1⟩ := bcell hb1
      cases b1
      · go_wp2_with fail
        go_ret
        exact ⟨_, rfl, fun e => Bool.noConfusion e, B1.out⟩
      · have P1 := Lib.hid (hp1 rfl)
        obtain ⟨x, y, b, o, kx, ky, KE, rfl, hbl, hlen, ⟨x0, x1, x2, x3⟩, ⟨y0, y1, y2, y3⟩, KX, KY⟩ := kids2 HK.out (hp1 rfl).2.2
        have HX := Lib.hid KX
        have HY := Lib.hid KY
        have q1 : b < w1.heap.size := by omega
        clear hp1 hb1 KX KY
        go_wp2_with fail
        refine (ih x kx _ (HX.out.below B1.out)).mono ?_
        rintro e w2 ⟨b2, rfl, hp2, hb2⟩
        have B2 := Lib.hid (B1.out.trans (hb2.mono B1.out.size))
        have hz2 : w.heap.size < w2.heap.size := by have := hb2.size; omega
        obtain ⟨hc2, hf2⟩ := bcell hb2
        cases b2
        · go_wp2_with fail
          go_ret
          exact ⟨_, rfl, fun e => Bool.noConfusion e, B2.out⟩
        · have P2 := Lib.hid (hp2 rfl)
          clear hp2 hb2
          go_wp2_with fail
          refine (isNameC y ky d _ (HY.out.below B2.out)).mono ?_
          rintro e w3 ⟨b3, rfl, hp3, hb3⟩
          have B3 := Lib.hid (B2.out.trans (hb3.mono B2.out.size))
          have P3 := Lib.hid hp3
          clear hp3 hb3
          go_wp2_with fail
          go_ret
          exact ⟨_, rfl, fun e => binary_fine (by rw [bTaggedName (a := t.kind) (by assumption)]; decide) P1.out KE.out P2.out (leaf_fine HY.out (P3.out e) (by decide)), B3.out⟩
    · refine (isNameC t _ (d + 1) _ (h0.out.below B)).mono ?_
      rintro e w1 ⟨b1, rfl, hp1, hb1⟩
      have B1 := Lib.hid (B.trans (hb1.mono (by simp)))
      have P1 := Lib.hid hp1
      clear hp1 hb1
      go_wp2_with fail
      go_ret
      exact ⟨_, rfl, fun e => leaf_fine h0.out (P1.out e) (by decide), B1.out⟩
end Go.Proofs.YtlfbmpenekiigaaGreatDoor
