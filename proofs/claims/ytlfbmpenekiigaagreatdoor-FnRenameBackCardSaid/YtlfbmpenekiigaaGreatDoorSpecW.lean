/- Constructors and destructors in the scope of their class, conversions: what the tests tell; conditions: the node reads as a tree, the tables hold texts. -/
import Derived.Test.YtlfbmpenekiigaaGreatDoorSpecO
import Derived.Test.YtlfbmpenekiigaaGreatDoorTab
import Derived.Outline
namespace Go.Proofs.YtlfbmpenekiigaaGreatDoor
open Go.ChangeShapes Go.WideShapes Go.ChangeAt Go.RowKit
set_option linter.unusedVariables false

theorem one_of_len' {l : List Tree} (h : l.length = 1) : ∃ x, l = [x] := by
  rcases l with _ | ⟨x, _ | ⟨y, l⟩⟩
  · simp at h
  · exact ⟨x, rfl⟩
  · simp at h

/-- A node's first kid, and where it lies. -/
theorem kid0_of {w : World} {d : Nat} {y : Tree} {ya : Option Addr} {yc : Nat} (h : KidsAt w d y (.slice ya y.kids.length yc)) (hj : 0 < y.kids.length) :
    ∃ x b o xa xc, y.kids[0]? = some x ∧ x ∈ y.kids ∧ ya = some ⟨b, o, none⟩ ∧ b < w.heap.size ∧
      (w.cell? ⟨b, o, none⟩ = some (.string x.kind) ∧ w.cell? ⟨b, o + 1, none⟩ = some (.string x.text) ∧ w.cell? ⟨b, o + 2, none⟩ = some (.int .i64 x.num) ∧ w.cell? ⟨b, o + 3, none⟩ = some (.slice xa x.kids.length xc)) ∧
      KidsAt w (d - 1) x (.slice xa x.kids.length xc) := by
  cases d with
  | zero => exact h.elim
  | succ d =>
    obtain ⟨_, _, _, a', c', e', _, _, hk'⟩ := h
    obtain ⟨rfl, rfl⟩ : ya = a' ∧ yc = c' := by simpa using e'
    exact kid0 hk' hj

/-- What is asked at the end of IsMaker: whether the names are the same, the class's name alone, whether it has tags. -/
def TabM (s z : Tree) (f : FuncId) (args : Array Value) (v : Value) (w : World) : Prop :=
  (f = 10 ∧ ∃ b : Bool, v = .bool b ∧ (b = true → s = z)) ∨
  (f = 54 ∧ ∃ (k : Nat) (u : Tree) (ua : Option Addr) (uc : Nat), v = .agg #[.string u.kind, .string u.text, .int .i64 u.num, .slice ua u.kids.length uc] ∧ KidsAt w k u (.slice ua u.kids.length uc)) ∨
  (f = 15 ∧ ∃ b : Bool, v = .bool b)
theorem TabM.stable (s z : Tree) (f : FuncId) (args : Array Value) : Stable (TabM s z f args) := by
  intro v w w' he h
  rcases h with h | ⟨h, k, u, ua, uc, e, hk⟩ | h
  · exact .inl h
  · exact .inr (.inl ⟨h, k, u, ua, uc, e, hk.below he⟩)
  · exact .inr (.inr h)

theorem unaryP_fine {d : Nat} {t x : Tree} (hk : t.kind ∈ unaryKinds) (hp : PlainT t 1) (e : t.kids = [x]) (hx : Fine d x) : Fine (d + 1) t :=
  .mk (.inr (.inr (.inr (.inl ⟨hk, hp.1, hp.2.1, x, e, hx.kind⟩)))) (by
    rw [e]; intro z hz
    rcases List.mem_cons.1 hz with rfl | hz
    · exact hx.1
    · cases hz)

theorem fine_leaf_name {d e : Nat} {t : Tree} (h : Fine e t) (hk : t.kind = kName) : Fine (d + 1) t := by
  obtain ⟨h1, h2⟩ := leaf_name (.inr h.2) hk
  exact .mk (.inl ⟨by rw [hk]; decide, h1, h2⟩) (by rw [h2]; intro x hx; cases hx)

theorem maker_fine {d e : Nat} {w : World} {y z s : Tree} {ky : Value} (hk : y.kind = kConstructor ∨ y.kind = kDestructor) (hp : PlainT y 1) (ez : y.kids = [z]) (hs : Fine e s) (hn : s.kind = kName) (h : s = z) (hy : KidsAt w d y ky) : Fine d y := by
  subst h
  obtain ⟨h1, h2⟩ := leaf_name (.inr hs.2) hn
  cases d with
  | zero => exact hy.elim
  | succ d =>
    obtain ⟨_, _, _, a, c, _, _, _, hk'⟩ := hy
    cases d with
    | zero =>
      obtain ⟨b, o, kv, _, _, _, _, _, h4⟩ := hk' 0 s (by rw [ez]; rfl)
      exact h4.elim
    | succ d => exact unaryP_fine (by rcases hk with hk | hk <;> rw [hk] <;> decide) hp ez (fine_leaf_name hs hn)

set_option maxRecDepth 100000 in
set_option maxHeartbeats 8000000 in
theorem isMakerC (d : Nat) : Tests 43 d := by
  intro t kv w h
  cases d with
  | zero => exact h.kids.elim
  | succ d =>
    have HI := Lib.hid h
    obtain ⟨hk, ht, hwf, a, c, rfl, hl, hc, hkids⟩ := h.kids
    have HK := Lib.hid hkids
    have B := Lib.hid (below1 w (.cells #[.string t.kind, .string t.text, .int .i64 t.num, .slice a t.kids.length c] 24))
    have PL : ∀ w1 n, Below w.heap.size w w1 → Calls Tryz.prog 21 #[.agg #[.string t.kind, .string t.text, .int .i64 t.num, .slice a t.kids.length c], .int .i64 (n : Nat)] w1 (Ans w1 (PlainT t n)) := fun w1 n hb => plainC t _ n (d + 1) _ (h.kids.below hb)
    have PLH := Lib.hid PL
    clear hkids PL
    have PLHN : Hid (∀ w1, Below w.heap.size w w1 → Calls Tryz.prog 21 #[.agg #[.string t.kind, .string t.text, .int .i64 t.num, .slice a t.kids.length c], .int .i64 2] w1 (Ans w1 (PlainT t 2))) := fun w1 hb => PLH.out w1 2 hb
    have HC := Lib.hid (known d).cls
    clear h
    by_cases e0 : t.kind = kQualified
    · have k0 := kind_is (a := t.kind) kQualified e0 (l := [81, 117, 97, 108, 105, 102, 105, 101, 100]) rfl
      have E := Lib.hid e0
      clear e0
      by_cases hl2 : t.kids.length = 2
      · have HL2 := Lib.hid hl2
        obtain ⟨x, y, b, o, kx, ky, KE, rfl, hbl, hlen, ⟨x0, x1, x2, x3⟩, ⟨y0, y1, y2, y3⟩, KX, KY⟩ := kids2 HK.out hl2
        have HX := Lib.hid KX
        have HY := Lib.hid KY
        clear KX KY hl2
        obtain ⟨xa, xc, rfl⟩ := HX.out.form
        obtain ⟨ya, yc, rfl⟩ := HY.out.form
        have PLY : Hid (∀ w1, Below w.heap.size w w1 → Calls Tryz.prog 21 #[.agg #[.string y.kind, .string y.text, .int .i64 y.num, .slice ya y.kids.length yc], .int .i64 1] w1 (Ans w1 (PlainT y 1))) := fun w1 hb => plainC y _ 1 d _ (HY.out.below hb)
        have hl0 : 0 < t.kids.length := by omega
        have hcase : ((y.kind.toList == [67, 111, 110, 115, 116, 114, 117, 99, 116, 111, 114]) = true) ∨ ((y.kind.toList == [67, 111, 110, 115, 116, 114, 117, 99, 116, 111, 114]) = false ∧ (y.kind.toList == [68, 101, 115, 116, 114, 117, 99, 116, 111, 114]) = true) ∨ ((y.kind.toList == [67, 111, 110, 115, 116, 114, 117, 99, 116, 111, 114]) = false ∧ (y.kind.toList == [68, 101, 115, 116, 114, 117, 99, 116, 111, 114]) = false) := by
          cases (y.kind.toList == [67, 111, 110, 115, 116, 114, 117, 99, 116, 111, 114]) <;> cases (y.kind.toList == [68, 101, 115, 116, 114, 117, 99, 116, 111, 114]) <;> simp
        rcases hcase with y5 | ⟨y5, y6⟩ | ⟨y5, y6⟩
        · have R : Hid (Below (w.alloc (.cells #[.string t.kind, .string t.text, .int .i64 t.num, .slice (some ⟨b, o, none⟩) t.kids.length c] 24)).heap.size (w.alloc (.cells #[.string t.kind, .string t.text, .int .i64 t.num, .slice (some ⟨b, o, none⟩) t.kids.length c] 24)) (w.alloc (.cells #[.string t.kind, .string t.text, .int .i64 t.num, .slice (some ⟨b, o, none⟩) t.kids.length c] 24))) := Below.refl _ _
          have D0 : Hid ((w.alloc (.cells #[.string t.kind, .string t.text, .int .i64 t.num, .slice (some ⟨b, o, none⟩) t.kids.length c] 24)).cell? ⟨w.heap.size, 0, none⟩ = some (.string t.kind)) := (World.cell?_alloc_at (w := w) _ _ _ _ rfl).trans (by simp)
          have D1 : Hid ((w.alloc (.cells #[.string t.kind, .string t.text, .int .i64 t.num, .slice (some ⟨b, o, none⟩) t.kids.length c] 24)).cell? ⟨w.heap.size, 1, none⟩ = some (.string t.text)) := (World.cell?_alloc_at (w := w) _ _ _ _ rfl).trans (by simp)
          have D2 : Hid ((w.alloc (.cells #[.string t.kind, .string t.text, .int .i64 t.num, .slice (some ⟨b, o, none⟩) t.kids.length c] 24)).cell? ⟨w.heap.size, 2, none⟩ = some (.int .i64 t.num)) := (World.cell?_alloc_at (w := w) _ _ _ _ rfl).trans (by simp)
          have D3 : Hid ((w.alloc (.cells #[.string t.kind, .string t.text, .int .i64 t.num, .slice (some ⟨b, o, none⟩) t.kids.length c] 24)).cell? ⟨w.heap.size, 3, none⟩ = some (.slice (some ⟨b, o, none⟩) t.kids.length c)) := (World.cell?_alloc_at (w := w) _ _ _ _ rfl).trans (by simp)
          go_enter Tryz.func43, Tryz.ntmps43
          go_wp2_with fail
          refine (PLHN.out _ B.out).mono ?_
          rintro e w1 ⟨b1, rfl, hp1, hb1⟩
          have B1 := Lib.hid (B.out.trans (hb1.mono B.out.size))
          have R1 := Lib.hid (R.out.trans (hb1.mono R.out.size))
          cases b1 with
          | false =>
            clear hp1 hb1
            go_wp2_with fail
            go_ret
            exact ⟨_, rfl, fun e => Bool.noConfusion e, B1.out⟩
          | true =>
            have P1 := Lib.hid (hp1 rfl)
            clear hp1 hb1
            obtain ⟨hcw, hfw⟩ := bcell B1.out
            have m0 : w1.cell? ⟨b, o, none⟩ = some (.string x.kind) := (hcw _ _ hbl).trans x0
            have m1 : w1.cell? ⟨b, o + 1, none⟩ = some (.string x.text) := (hcw _ _ hbl).trans x1
            have m2 : w1.cell? ⟨b, o + 2, none⟩ = some (.int .i64 x.num) := (hcw _ _ hbl).trans x2
            have m3 : w1.cell? ⟨b, o + 3, none⟩ = some (.slice xa x.kids.length xc) := (hcw _ _ hbl).trans x3
            have n0 : w1.cell? ⟨b, o + 4, none⟩ = some (.string y.kind) := (hcw _ _ hbl).trans y0
            have n1 : w1.cell? ⟨b, o + 4 + 1, none⟩ = some (.string y.text) := (hcw _ _ hbl).trans y1
            have n2 : w1.cell? ⟨b, o + 4 + 2, none⟩ = some (.int .i64 y.num) := (hcw _ _ hbl).trans y2
            have n3 : w1.cell? ⟨b, o + 4 + 3, none⟩ = some (.slice ya y.kids.length yc) := (hcw _ _ hbl).trans y3
            have d0 : w1.cell? ⟨w.heap.size, 0, none⟩ = some (.string t.kind) := ((bcell R1.out).1 w.heap.size 0 (by simp)).trans D0.out
            have d1 : w1.cell? ⟨w.heap.size, 1, none⟩ = some (.string t.text) := ((bcell R1.out).1 w.heap.size 1 (by simp)).trans D1.out
            have d2 : w1.cell? ⟨w.heap.size, 2, none⟩ = some (.int .i64 t.num) := ((bcell R1.out).1 w.heap.size 2 (by simp)).trans D2.out
            have d3 : w1.cell? ⟨w.heap.size, 3, none⟩ = some (.slice (some ⟨b, o, none⟩) t.kids.length c) := ((bcell R1.out).1 w.heap.size 3 (by simp)).trans D3.out
            clear hcw hfw
            go_wp2_with fail
            refine (HC.out x _ _ ⟨HI.out.tabs.below B1.out, HX.out.below B1.out⟩).mono ?_
            rintro e w2 ⟨b2, rfl, hp2, hb2⟩
            have B2 := Lib.hid (B1.out.trans (hb2.mono B1.out.size))
            have R2 := Lib.hid (R1.out.trans (hb2.mono R1.out.size))
            cases b2 with
            | false =>
              clear hp2 hb2
              go_wp2_with fail
              go_ret
              exact ⟨_, rfl, fun e => Bool.noConfusion e, B2.out⟩
            | true =>
              have P2 := Lib.hid (hp2 rfl)
              clear m0 m1 m2 m3 n0 n1 n2 n3 d0 d1 d2 d3
              clear hp2 hb2
              obtain ⟨hcw, hfw⟩ := bcell B2.out
              have m0 : w2.cell? ⟨b, o, none⟩ = some (.string x.kind) := (hcw _ _ hbl).trans x0
              have m1 : w2.cell? ⟨b, o + 1, none⟩ = some (.string x.text) := (hcw _ _ hbl).trans x1
              have m2 : w2.cell? ⟨b, o + 2, none⟩ = some (.int .i64 x.num) := (hcw _ _ hbl).trans x2
              have m3 : w2.cell? ⟨b, o + 3, none⟩ = some (.slice xa x.kids.length xc) := (hcw _ _ hbl).trans x3
              have n0 : w2.cell? ⟨b, o + 4, none⟩ = some (.string y.kind) := (hcw _ _ hbl).trans y0
              have n1 : w2.cell? ⟨b, o + 4 + 1, none⟩ = some (.string y.text) := (hcw _ _ hbl).trans y1
              have n2 : w2.cell? ⟨b, o + 4 + 2, none⟩ = some (.int .i64 y.num) := (hcw _ _ hbl).trans y2
              have n3 : w2.cell? ⟨b, o + 4 + 3, none⟩ = some (.slice ya y.kids.length yc) := (hcw _ _ hbl).trans y3
              have d0 : w2.cell? ⟨w.heap.size, 0, none⟩ = some (.string t.kind) := ((bcell R2.out).1 w.heap.size 0 (by simp)).trans D0.out
              have d1 : w2.cell? ⟨w.heap.size, 1, none⟩ = some (.string t.text) := ((bcell R2.out).1 w.heap.size 1 (by simp)).trans D1.out
              have d2 : w2.cell? ⟨w.heap.size, 2, none⟩ = some (.int .i64 t.num) := ((bcell R2.out).1 w.heap.size 2 (by simp)).trans D2.out
              have d3 : w2.cell? ⟨w.heap.size, 3, none⟩ = some (.slice (some ⟨b, o, none⟩) t.kids.length c) := ((bcell R2.out).1 w.heap.size 3 (by simp)).trans D3.out
              clear hcw hfw
              go_wp2_with fail
              refine (isShortC d x _ _ (HX.out.below B2.out) P2.out).mono ?_
              rintro e w3 ⟨b3, rfl, hp3, hb3⟩
              have B3 := Lib.hid (B2.out.trans (hb3.mono B2.out.size))
              have R3 := Lib.hid (R2.out.trans (hb3.mono R2.out.size))
              cases b3 with
              | true =>
                clear hp3 hb3
                go_wp2_with fail
                go_ret
                exact ⟨_, rfl, fun e => Bool.noConfusion e, B3.out⟩
              | false =>
                clear m0 m1 m2 m3 n0 n1 n2 n3 d0 d1 d2 d3
                clear hp3 hb3
                obtain ⟨hcw, hfw⟩ := bcell B3.out
                have m0 : w3.cell? ⟨b, o, none⟩ = some (.string x.kind) := (hcw _ _ hbl).trans x0
                have m1 : w3.cell? ⟨b, o + 1, none⟩ = some (.string x.text) := (hcw _ _ hbl).trans x1
                have m2 : w3.cell? ⟨b, o + 2, none⟩ = some (.int .i64 x.num) := (hcw _ _ hbl).trans x2
                have m3 : w3.cell? ⟨b, o + 3, none⟩ = some (.slice xa x.kids.length xc) := (hcw _ _ hbl).trans x3
                have n0 : w3.cell? ⟨b, o + 4, none⟩ = some (.string y.kind) := (hcw _ _ hbl).trans y0
                have n1 : w3.cell? ⟨b, o + 4 + 1, none⟩ = some (.string y.text) := (hcw _ _ hbl).trans y1
                have n2 : w3.cell? ⟨b, o + 4 + 2, none⟩ = some (.int .i64 y.num) := (hcw _ _ hbl).trans y2
                have n3 : w3.cell? ⟨b, o + 4 + 3, none⟩ = some (.slice ya y.kids.length yc) := (hcw _ _ hbl).trans y3
                have d0 : w3.cell? ⟨w.heap.size, 0, none⟩ = some (.string t.kind) := ((bcell R3.out).1 w.heap.size 0 (by simp)).trans D0.out
                have d1 : w3.cell? ⟨w.heap.size, 1, none⟩ = some (.string t.text) := ((bcell R3.out).1 w.heap.size 1 (by simp)).trans D1.out
                have d2 : w3.cell? ⟨w.heap.size, 2, none⟩ = some (.int .i64 t.num) := ((bcell R3.out).1 w.heap.size 2 (by simp)).trans D2.out
                have d3 : w3.cell? ⟨w.heap.size, 3, none⟩ = some (.slice (some ⟨b, o, none⟩) t.kids.length c) := ((bcell R3.out).1 w.heap.size 3 (by simp)).trans D3.out
                clear hcw hfw
                go_wp2_with fail
                refine (isStdC x _ d _ (HX.out.below B3.out)).mono ?_
                rintro e w4 ⟨b4, rfl, hp4, hb4⟩
                have B4 := Lib.hid (B3.out.trans (hb4.mono B3.out.size))
                have R4 := Lib.hid (R3.out.trans (hb4.mono R3.out.size))
                cases b4 with
                | true =>
                  clear hp4 hb4
                  go_wp2_with fail
                  go_ret
                  exact ⟨_, rfl, fun e => Bool.noConfusion e, B4.out⟩
                | false =>
                  clear m0 m1 m2 m3 n0 n1 n2 n3 d0 d1 d2 d3
                  clear hp4 hb4
                  obtain ⟨hcw, hfw⟩ := bcell B4.out
                  have m0 : w4.cell? ⟨b, o, none⟩ = some (.string x.kind) := (hcw _ _ hbl).trans x0
                  have m1 : w4.cell? ⟨b, o + 1, none⟩ = some (.string x.text) := (hcw _ _ hbl).trans x1
                  have m2 : w4.cell? ⟨b, o + 2, none⟩ = some (.int .i64 x.num) := (hcw _ _ hbl).trans x2
                  have m3 : w4.cell? ⟨b, o + 3, none⟩ = some (.slice xa x.kids.length xc) := (hcw _ _ hbl).trans x3
                  have n0 : w4.cell? ⟨b, o + 4, none⟩ = some (.string y.kind) := (hcw _ _ hbl).trans y0
                  have n1 : w4.cell? ⟨b, o + 4 + 1, none⟩ = some (.string y.text) := (hcw _ _ hbl).trans y1
                  have n2 : w4.cell? ⟨b, o + 4 + 2, none⟩ = some (.int .i64 y.num) := (hcw _ _ hbl).trans y2
                  have n3 : w4.cell? ⟨b, o + 4 + 3, none⟩ = some (.slice ya y.kids.length yc) := (hcw _ _ hbl).trans y3
                  have d0 : w4.cell? ⟨w.heap.size, 0, none⟩ = some (.string t.kind) := ((bcell R4.out).1 w.heap.size 0 (by simp)).trans D0.out
                  have d1 : w4.cell? ⟨w.heap.size, 1, none⟩ = some (.string t.text) := ((bcell R4.out).1 w.heap.size 1 (by simp)).trans D1.out
                  have d2 : w4.cell? ⟨w.heap.size, 2, none⟩ = some (.int .i64 t.num) := ((bcell R4.out).1 w.heap.size 2 (by simp)).trans D2.out
                  have d3 : w4.cell? ⟨w.heap.size, 3, none⟩ = some (.slice (some ⟨b, o, none⟩) t.kids.length c) := ((bcell R4.out).1 w.heap.size 3 (by simp)).trans D3.out
                  clear hcw hfw
                  have BY := Lib.hid (B4.out.trans ((below1 w4 (.cells #[.string y.kind, .string y.text, .int .i64 y.num, .slice ya y.kids.length yc] 24)).mono B4.out.size))
                  have RY := Lib.hid (R4.out.trans ((below1 w4 (.cells #[.string y.kind, .string y.text, .int .i64 y.num, .slice ya y.kids.length yc] 24)).mono R4.out.size))
                  have q4 : w.heap.size < w4.heap.size := by have := R4.out.size; simp at this; omega
                  have q4b : b < w4.heap.size := by omega
                  have K0 : Hid ((w4.alloc (.cells #[.string y.kind, .string y.text, .int .i64 y.num, .slice ya y.kids.length yc] 24)).cell? ⟨w4.heap.size, 0, none⟩ = some (.string y.kind)) := (World.cell?_alloc_at (w := w4) _ _ _ _ rfl).trans (by simp)
                  have K1 : Hid ((w4.alloc (.cells #[.string y.kind, .string y.text, .int .i64 y.num, .slice ya y.kids.length yc] 24)).cell? ⟨w4.heap.size, 1, none⟩ = some (.string y.text)) := (World.cell?_alloc_at (w := w4) _ _ _ _ rfl).trans (by simp)
                  have K2 : Hid ((w4.alloc (.cells #[.string y.kind, .string y.text, .int .i64 y.num, .slice ya y.kids.length yc] 24)).cell? ⟨w4.heap.size, 2, none⟩ = some (.int .i64 y.num)) := (World.cell?_alloc_at (w := w4) _ _ _ _ rfl).trans (by simp)
                  have K3 : Hid ((w4.alloc (.cells #[.string y.kind, .string y.text, .int .i64 y.num, .slice ya y.kids.length yc] 24)).cell? ⟨w4.heap.size, 3, none⟩ = some (.slice ya y.kids.length yc)) := (World.cell?_alloc_at (w := w4) _ _ _ _ rfl).trans (by simp)
                  go_wp2_with fail
                  refine (PLY.out _ BY.out).mono ?_
                  rintro e w5 ⟨b5, rfl, hp5, hb5⟩
                  have B5 := Lib.hid (BY.out.trans (hb5.mono BY.out.size))
                  have R5 := Lib.hid (RY.out.trans (hb5.mono RY.out.size))
                  have S5 := Lib.hid hb5
                  cases b5 with
                  | false =>
                    clear hp5 hb5
                    go_wp2_with fail
                    go_ret
                    exact ⟨_, rfl, fun e => Bool.noConfusion e, B5.out⟩
                  | true =>
                    have P5 := Lib.hid (hp5 rfl)
                    clear m0 m1 m2 m3 n0 n1 n2 n3 d0 d1 d2 d3 hp5 hb5
                    obtain ⟨hcw, hfw⟩ := bcell B5.out
                    have m0 : w5.cell? ⟨b, o, none⟩ = some (.string x.kind) := (hcw _ _ hbl).trans x0
                    have m1 : w5.cell? ⟨b, o + 1, none⟩ = some (.string x.text) := (hcw _ _ hbl).trans x1
                    have m2 : w5.cell? ⟨b, o + 2, none⟩ = some (.int .i64 x.num) := (hcw _ _ hbl).trans x2
                    have m3 : w5.cell? ⟨b, o + 3, none⟩ = some (.slice xa x.kids.length xc) := (hcw _ _ hbl).trans x3
                    have n0 : w5.cell? ⟨b, o + 4, none⟩ = some (.string y.kind) := (hcw _ _ hbl).trans y0
                    have n1 : w5.cell? ⟨b, o + 4 + 1, none⟩ = some (.string y.text) := (hcw _ _ hbl).trans y1
                    have n2 : w5.cell? ⟨b, o + 4 + 2, none⟩ = some (.int .i64 y.num) := (hcw _ _ hbl).trans y2
                    have n3 : w5.cell? ⟨b, o + 4 + 3, none⟩ = some (.slice ya y.kids.length yc) := (hcw _ _ hbl).trans y3
                    have d0 : w5.cell? ⟨w.heap.size, 0, none⟩ = some (.string t.kind) := ((bcell R5.out).1 w.heap.size 0 (by simp)).trans D0.out
                    have d1 : w5.cell? ⟨w.heap.size, 1, none⟩ = some (.string t.text) := ((bcell R5.out).1 w.heap.size 1 (by simp)).trans D1.out
                    have d2 : w5.cell? ⟨w.heap.size, 2, none⟩ = some (.int .i64 t.num) := ((bcell R5.out).1 w.heap.size 2 (by simp)).trans D2.out
                    have d3 : w5.cell? ⟨w.heap.size, 3, none⟩ = some (.slice (some ⟨b, o, none⟩) t.kids.length c) := ((bcell R5.out).1 w.heap.size 3 (by simp)).trans D3.out
                    clear hcw hfw
                    obtain ⟨z, bz, oz, za, zc, hz0, _, eya, hbz, ⟨c0, c1, c2, c3⟩, KZ⟩ := kid0_of HY.out (by rw [P5.out.2.2]; decide)
                    subst eya
                    obtain ⟨z', ez⟩ := one_of_len' P5.out.2.2
                    obtain rfl : z' = z := by rw [ez] at hz0; simpa using hz0
                    have EZ := Lib.hid ez
                    have HZ := Lib.hid KZ
                    have hly : 0 < y.kids.length := by rw [ez]; simp
                    clear ez hz0 KZ
                    go_wp2_with fail
                    refine (lastC d x _ _ (HX.out.below B5.out) P2.out).mono ?_
                    rintro e w6 ⟨k6, s, sa, sc, rfl, KS, FNS, hb6⟩
                    have B6 := Lib.hid (B5.out.trans (hb6.mono B5.out.size))
                    have R6 := Lib.hid (R5.out.trans (hb6.mono R5.out.size))
                    have S6 := Lib.hid (S5.out.trans (hb6.mono S5.out.size))
                    have HS := Lib.hid (KS.below hb6)
                    have HFS := Lib.hid FNS
                    clear m0 m1 m2 m3 n0 n1 n2 n3 d0 d1 d2 d3 KS FNS hb6
                    obtain ⟨hcw, hfw⟩ := bcell B6.out
                    have m0 : w6.cell? ⟨b, o, none⟩ = some (.string x.kind) := (hcw _ _ hbl).trans x0
                    have m1 : w6.cell? ⟨b, o + 1, none⟩ = some (.string x.text) := (hcw _ _ hbl).trans x1
                    have m2 : w6.cell? ⟨b, o + 2, none⟩ = some (.int .i64 x.num) := (hcw _ _ hbl).trans x2
                    have m3 : w6.cell? ⟨b, o + 3, none⟩ = some (.slice xa x.kids.length xc) := (hcw _ _ hbl).trans x3
                    have n0 : w6.cell? ⟨b, o + 4, none⟩ = some (.string y.kind) := (hcw _ _ hbl).trans y0
                    have n1 : w6.cell? ⟨b, o + 4 + 1, none⟩ = some (.string y.text) := (hcw _ _ hbl).trans y1
                    have n2 : w6.cell? ⟨b, o + 4 + 2, none⟩ = some (.int .i64 y.num) := (hcw _ _ hbl).trans y2
                    have n3 : w6.cell? ⟨b, o + 4 + 3, none⟩ = some (.slice (some ⟨bz, oz, none⟩) y.kids.length yc) := (hcw _ _ hbl).trans y3
                    have d0 : w6.cell? ⟨w.heap.size, 0, none⟩ = some (.string t.kind) := ((bcell R6.out).1 w.heap.size 0 (by simp)).trans D0.out
                    have d1 : w6.cell? ⟨w.heap.size, 1, none⟩ = some (.string t.text) := ((bcell R6.out).1 w.heap.size 1 (by simp)).trans D1.out
                    have d2 : w6.cell? ⟨w.heap.size, 2, none⟩ = some (.int .i64 t.num) := ((bcell R6.out).1 w.heap.size 2 (by simp)).trans D2.out
                    have d3 : w6.cell? ⟨w.heap.size, 3, none⟩ = some (.slice (some ⟨b, o, none⟩) t.kids.length c) := ((bcell R6.out).1 w.heap.size 3 (by simp)).trans D3.out
                    clear hcw hfw
                    have q6 : w.heap.size < w6.heap.size := by have := R6.out.size; simp at this; omega
                    have q46 : w4.heap.size < w6.heap.size := by have := S6.out.size; simp at this; omega
                    cases hs : (s.kind.toList == [78, 97, 109, 101])
                    · go_wp2_with fail
                      refine wp_region_tab 17 (TabM s z') (TabM.stable s z') (by kernel_rfl) (by kernel_rfl) ?_
                      simp only [List.take_succ_cons, List.take_zero, List.drop_succ_cons, List.drop_zero]
                      obtain ⟨W, hW⟩ : ∃ W, W = (w6.alloc (.cells #[.string s.kind, .string s.text, .int .i64 s.num, .slice sa s.kids.length sc] 24)).drew := ⟨_, rfl⟩
                      rw [← hW]
                      have EW : Hid (Ext w6 W) := by rw [hW]; exact (below1 w6 (.cells #[.string s.kind, .string s.text, .int .i64 s.num, .slice sa s.kids.length sc] 24)).drew
                      have hWs : W.heap.size = w6.heap.size + 1 := by rw [hW]; simp
                      have BW := Lib.hid (B6.out.trans (Below.mono EW.out B6.out.size))
                      have g0 : W.cell? ⟨w6.heap.size, 0, none⟩ = some (.string s.kind) := by rw [hW]; exact (World.cell?_alloc_at (w := w6) _ _ _ _ rfl).trans (by simp)
                      have g1 : W.cell? ⟨w6.heap.size, 1, none⟩ = some (.string s.text) := by rw [hW]; exact (World.cell?_alloc_at (w := w6) _ _ _ _ rfl).trans (by simp)
                      have g2 : W.cell? ⟨w6.heap.size, 2, none⟩ = some (.int .i64 s.num) := by rw [hW]; exact (World.cell?_alloc_at (w := w6) _ _ _ _ rfl).trans (by simp)
                      have g3 : W.cell? ⟨w6.heap.size, 3, none⟩ = some (.slice sa s.kids.length sc) := by rw [hW]; exact (World.cell?_alloc_at (w := w6) _ _ _ _ rfl).trans (by simp)
                      have hcW := (bcell EW.out).1
                      clear m0 m1 m2 m3 n0 n1 n2 n3 d0 d1 d2 d3
                      have m0 : W.cell? ⟨b, o, none⟩ = some (.string x.kind) := ((bcell BW.out).1 _ _ hbl).trans x0
                      have m1 : W.cell? ⟨b, o + 1, none⟩ = some (.string x.text) := ((bcell BW.out).1 _ _ hbl).trans x1
                      have m2 : W.cell? ⟨b, o + 2, none⟩ = some (.int .i64 x.num) := ((bcell BW.out).1 _ _ hbl).trans x2
                      have m3 : W.cell? ⟨b, o + 3, none⟩ = some (.slice xa x.kids.length xc) := ((bcell BW.out).1 _ _ hbl).trans x3
                      have d3 : W.cell? ⟨w.heap.size, 3, none⟩ = some (.slice (some ⟨b, o, none⟩) t.kids.length c) := (hcW _ _ q6).trans (((bcell R6.out).1 w.heap.size 3 (by simp)).trans D3.out)
                      have e3 : W.cell? ⟨w4.heap.size, 3, none⟩ = some (.slice (some ⟨bz, oz, none⟩) y.kids.length yc) := (hcW _ _ q46).trans (((bcell S6.out).1 w4.heap.size 3 (by simp)).trans K3.out)
                      have p0 : W.cell? ⟨bz, oz, none⟩ = some (.string z'.kind) := ((bcell BW.out).1 _ _ hbz).trans c0
                      have p1 : W.cell? ⟨bz, oz + 1, none⟩ = some (.string z'.text) := ((bcell BW.out).1 _ _ hbz).trans c1
                      have p2 : W.cell? ⟨bz, oz + 2, none⟩ = some (.int .i64 z'.num) := ((bcell BW.out).1 _ _ hbz).trans c2
                      have p3 : W.cell? ⟨bz, oz + 3, none⟩ = some (.slice za z'.kids.length zc) := ((bcell BW.out).1 _ _ hbz).trans c3
                      have s0 : w6.heap.size < W.heap.size := by omega
                      have s1 : w.heap.size < W.heap.size := by omega
                      have s2 : w4.heap.size < W.heap.size := by omega
                      have s3 : b < W.heap.size := by omega
                      have s4 : bz < W.heap.size := by omega
                      have HWW := Lib.hid hW
                      clear hW hcW hWs q6 q46 x0 x1 x2 x3 y0 y1 y2 y3 c0 c1 c2 c3 q4 q4b hbl hbz
                      refine tab_value ?u1 ?g1 ?h1 ?_
                      case g1 => kernel_rfl
                      case h1 => (intro w' hw'; obtain ⟨hc', hf'⟩ := bcell hw'; go_simp; try with_reducible rfl)
                      simp only [Act.put, List.setIfInBounds_toArray, List.set_cons_succ, List.set_cons_zero]
                      refine tab_value ?u2 ?g2 ?h2 ?_
                      case g2 => kernel_rfl
                      case h2 => (intro w' hw'; obtain ⟨hc', hf'⟩ := bcell hw'; go_simp; try with_reducible rfl)
                      simp only [Act.put, List.setIfInBounds_toArray, List.set_cons_succ, List.set_cons_zero]
                      refine tab_value ?u3 ?g3 ?h3 ?_
                      case g3 => kernel_rfl
                      case h3 => (intro w' hw'; obtain ⟨hc', hf'⟩ := bcell hw'; go_simp; try with_reducible rfl)
                      simp only [Act.put, List.setIfInBounds_toArray, List.set_cons_succ, List.set_cons_zero]
                      refine tab_value ?u4 ?g4 ?h4 ?_
                      case g4 => kernel_rfl
                      case h4 => (intro w' hw'; obtain ⟨hc', hf'⟩ := bcell hw'; go_simp; try with_reducible rfl)
                      simp only [Act.put, List.setIfInBounds_toArray, List.set_cons_succ, List.set_cons_zero]
                      refine tab_skip ?g5 ?_
                      case g5 => kernel_rfl
                      simp only [Act.put, List.setIfInBounds_toArray, List.set_cons_succ, List.set_cons_zero]
                      refine tab_skip ?g6 ?_
                      case g6 => kernel_rfl
                      simp only [Act.put, List.setIfInBounds_toArray, List.set_cons_succ, List.set_cons_zero]
                      refine tab_skip ?g7 ?_
                      case g7 => kernel_rfl
                      simp only [Act.put, List.setIfInBounds_toArray, List.set_cons_succ, List.set_cons_zero]
                      refine tab_skip ?g8 ?_
                      case g8 => kernel_rfl
                      simp only [Act.put, List.setIfInBounds_toArray, List.set_cons_succ, List.set_cons_zero]
                      refine tab_skip ?g9 ?_
                      case g9 => kernel_rfl
                      simp only [Act.put, List.setIfInBounds_toArray, List.set_cons_succ, List.set_cons_zero]
                      refine tab_skip ?g10 ?_
                      case g10 => kernel_rfl
                      simp only [Act.put, List.setIfInBounds_toArray, List.set_cons_succ, List.set_cons_zero]
                      refine tab_value ?u11 ?g11 ?h11 ?_
                      case g11 => kernel_rfl
                      case h11 => (intro w' hw'; obtain ⟨hc', hf'⟩ := bcell hw'; go_simp; try with_reducible rfl)
                      simp only [Act.put, List.setIfInBounds_toArray, List.set_cons_succ, List.set_cons_zero]
                      refine tab_value ?u12 ?g12 ?h12 ?_
                      case g12 => kernel_rfl
                      case h12 => (intro w' hw'; obtain ⟨hc', hf'⟩ := bcell hw'; go_simp; try with_reducible rfl)
                      simp only [Act.put, List.setIfInBounds_toArray, List.set_cons_succ, List.set_cons_zero]
                      refine tab_skip ?g13 ?_
                      case g13 => kernel_rfl
                      simp only [Act.put, List.setIfInBounds_toArray, List.set_cons_succ, List.set_cons_zero]
                      refine tab_skip ?g14 ?_
                      case g14 => kernel_rfl
                      simp only [Act.put, List.setIfInBounds_toArray, List.set_cons_succ, List.set_cons_zero]
                      refine tab_skip ?g15 ?_
                      case g15 => kernel_rfl
                      simp only [Act.put, List.setIfInBounds_toArray, List.set_cons_succ, List.set_cons_zero]
                      refine tab_skip ?g16 ?_
                      case g16 => kernel_rfl
                      simp only [Act.put, List.setIfInBounds_toArray, List.set_cons_succ, List.set_cons_zero]
                      refine tab_skip ?g17 ?_
                      case g17 => kernel_rfl
                      simp only [Act.put, List.setIfInBounds_toArray, List.set_cons_succ, List.set_cons_zero]
                      refine wpTab_nil (fun wz hez => ?_)
                      have EZZ := Lib.hid hez
                      have BZ := Lib.hid (BW.out.trans (Below.mono EZZ.out BW.out.size))
                      clear hez
                      go_wp2_with fail
                      go_ret
                      exact ⟨_, rfl, fun e => Bool.noConfusion e, BZ.out⟩
                    · go_wp2_with fail
                      refine wp_region_tab 17 (TabM s z') (TabM.stable s z') (by kernel_rfl) (by kernel_rfl) ?_
                      simp only [List.take_succ_cons, List.take_zero, List.drop_succ_cons, List.drop_zero]
                      obtain ⟨W, hW⟩ : ∃ W, W = (w6.alloc (.cells #[.string s.kind, .string s.text, .int .i64 s.num, .slice sa s.kids.length sc] 24)).drew := ⟨_, rfl⟩
                      rw [← hW]
                      have EW : Hid (Ext w6 W) := by rw [hW]; exact (below1 w6 (.cells #[.string s.kind, .string s.text, .int .i64 s.num, .slice sa s.kids.length sc] 24)).drew
                      have hWs : W.heap.size = w6.heap.size + 1 := by rw [hW]; simp
                      have BW := Lib.hid (B6.out.trans (Below.mono EW.out B6.out.size))
                      have g0 : W.cell? ⟨w6.heap.size, 0, none⟩ = some (.string s.kind) := by rw [hW]; exact (World.cell?_alloc_at (w := w6) _ _ _ _ rfl).trans (by simp)
                      have g1 : W.cell? ⟨w6.heap.size, 1, none⟩ = some (.string s.text) := by rw [hW]; exact (World.cell?_alloc_at (w := w6) _ _ _ _ rfl).trans (by simp)
                      have g2 : W.cell? ⟨w6.heap.size, 2, none⟩ = some (.int .i64 s.num) := by rw [hW]; exact (World.cell?_alloc_at (w := w6) _ _ _ _ rfl).trans (by simp)
                      have g3 : W.cell? ⟨w6.heap.size, 3, none⟩ = some (.slice sa s.kids.length sc) := by rw [hW]; exact (World.cell?_alloc_at (w := w6) _ _ _ _ rfl).trans (by simp)
                      have hcW := (bcell EW.out).1
                      clear m0 m1 m2 m3 n0 n1 n2 n3 d0 d1 d2 d3
                      have m0 : W.cell? ⟨b, o, none⟩ = some (.string x.kind) := ((bcell BW.out).1 _ _ hbl).trans x0
                      have m1 : W.cell? ⟨b, o + 1, none⟩ = some (.string x.text) := ((bcell BW.out).1 _ _ hbl).trans x1
                      have m2 : W.cell? ⟨b, o + 2, none⟩ = some (.int .i64 x.num) := ((bcell BW.out).1 _ _ hbl).trans x2
                      have m3 : W.cell? ⟨b, o + 3, none⟩ = some (.slice xa x.kids.length xc) := ((bcell BW.out).1 _ _ hbl).trans x3
                      have d3 : W.cell? ⟨w.heap.size, 3, none⟩ = some (.slice (some ⟨b, o, none⟩) t.kids.length c) := (hcW _ _ q6).trans (((bcell R6.out).1 w.heap.size 3 (by simp)).trans D3.out)
                      have e3 : W.cell? ⟨w4.heap.size, 3, none⟩ = some (.slice (some ⟨bz, oz, none⟩) y.kids.length yc) := (hcW _ _ q46).trans (((bcell S6.out).1 w4.heap.size 3 (by simp)).trans K3.out)
                      have p0 : W.cell? ⟨bz, oz, none⟩ = some (.string z'.kind) := ((bcell BW.out).1 _ _ hbz).trans c0
                      have p1 : W.cell? ⟨bz, oz + 1, none⟩ = some (.string z'.text) := ((bcell BW.out).1 _ _ hbz).trans c1
                      have p2 : W.cell? ⟨bz, oz + 2, none⟩ = some (.int .i64 z'.num) := ((bcell BW.out).1 _ _ hbz).trans c2
                      have p3 : W.cell? ⟨bz, oz + 3, none⟩ = some (.slice za z'.kids.length zc) := ((bcell BW.out).1 _ _ hbz).trans c3
                      have s0 : w6.heap.size < W.heap.size := by omega
                      have s1 : w.heap.size < W.heap.size := by omega
                      have s2 : w4.heap.size < W.heap.size := by omega
                      have s3 : b < W.heap.size := by omega
                      have s4 : bz < W.heap.size := by omega
                      have HWW := Lib.hid hW
                      clear hW hcW hWs q6 q46 x0 x1 x2 x3 y0 y1 y2 y3 c0 c1 c2 c3 q4 q4b hbl hbz
                      refine tab_value ?u18 ?g18 ?h18 ?_
                      case g18 => kernel_rfl
                      case h18 => (intro w' hw'; obtain ⟨hc', hf'⟩ := bcell hw'; go_simp; try with_reducible rfl)
                      simp only [Act.put, List.setIfInBounds_toArray, List.set_cons_succ, List.set_cons_zero]
                      refine tab_value ?u19 ?g19 ?h19 ?_
                      case g19 => kernel_rfl
                      case h19 => (intro w' hw'; obtain ⟨hc', hf'⟩ := bcell hw'; go_simp; try with_reducible rfl)
                      simp only [Act.put, List.setIfInBounds_toArray, List.set_cons_succ, List.set_cons_zero]
                      refine tab_value ?u20 ?g20 ?h20 ?_
                      case g20 => kernel_rfl
                      case h20 => (intro w' hw'; obtain ⟨hc', hf'⟩ := bcell hw'; go_simp; try with_reducible rfl)
                      simp only [Act.put, List.setIfInBounds_toArray, List.set_cons_succ, List.set_cons_zero]
                      refine tab_value ?u21 ?g21 ?h21 ?_
                      case g21 => kernel_rfl
                      case h21 => (intro w' hw'; obtain ⟨hc', hf'⟩ := bcell hw'; go_simp; try with_reducible rfl)
                      simp only [Act.put, List.setIfInBounds_toArray, List.set_cons_succ, List.set_cons_zero]
                      refine tab_value ?u22 ?g22 ?h22 ?_
                      case g22 => kernel_rfl
                      case h22 => (intro w' hw'; obtain ⟨hc', hf'⟩ := bcell hw'; go_simp; try with_reducible rfl)
                      simp only [Act.put, List.setIfInBounds_toArray, List.set_cons_succ, List.set_cons_zero]
                      refine tab_value ?u23 ?g23 ?h23 ?_
                      case g23 => kernel_rfl
                      case h23 => (intro w' hw'; obtain ⟨hc', hf'⟩ := bcell hw'; go_simp; try with_reducible rfl)
                      simp only [Act.put, List.setIfInBounds_toArray, List.set_cons_succ, List.set_cons_zero]
                      refine tab_value ?u24 ?g24 ?h24 ?_
                      case g24 => kernel_rfl
                      case h24 => (intro w' hw'; obtain ⟨hc', hf'⟩ := bcell hw'; go_simp; try with_reducible rfl)
                      simp only [Act.put, List.setIfInBounds_toArray, List.set_cons_succ, List.set_cons_zero]
                      refine tab_value ?u25 ?g25 ?h25 ?_
                      case g25 => kernel_rfl
                      case h25 => (intro w' hw'; obtain ⟨hc', hf'⟩ := bcell hw'; go_simp; try with_reducible rfl)
                      simp only [Act.put, List.setIfInBounds_toArray, List.set_cons_succ, List.set_cons_zero]
                      refine tab_value ?u26 ?g26 ?h26 ?_
                      case g26 => kernel_rfl
                      case h26 => (intro w' hw'; obtain ⟨hc', hf'⟩ := bcell hw'; go_simp; try with_reducible rfl)
                      simp only [Act.put, List.setIfInBounds_toArray, List.set_cons_succ, List.set_cons_zero]
                      refine tab_call 10 ?a27 ?g27 ?h27 ?c27 ?_
                      case g27 => kernel_rfl
                      case h27 => (intro w' hw'; obtain ⟨hc', hf'⟩ := bcell hw'; go_simp; try with_reducible rfl)
                      case c27 => (intro w' hw'; refine (sameC k6 s z' (d - 1) _ _ w' (HS.out.below (Ext.trans EW.out hw')) (HZ.out.below (BW.out.trans (Below.mono hw' BW.out.size)))).mono ?_; rintro e w'' ⟨b, rfl, hp, hb⟩; exact ⟨_, .inl ⟨rfl, b, rfl, hp.1⟩, rfl, hb⟩)
                      rintro v w7 he7 hv7
                      rcases hv7 with ⟨_, b7, rfl, hp7⟩ | ⟨hv7, _⟩ | ⟨hv7, _⟩
                      rotate_left
                      · exact absurd hv7 (by decide)
                      · exact absurd hv7 (by decide)
                      have P7 : Hid (b7 = true → s = z') := hp7
                      have E7 := Lib.hid he7
                      clear hp7 he7
                      simp only [Act.put, List.setIfInBounds_toArray, List.set_cons_succ, List.set_cons_zero]
                      cases b7
                      · skip
                        refine tab_value ?u28 ?g28 ?h28 ?_
                        case g28 => kernel_rfl
                        case h28 => (intro w' hw'; obtain ⟨hc', hf'⟩ := bcell hw'; go_simp; try with_reducible rfl)
                        simp only [Act.put, List.setIfInBounds_toArray, List.set_cons_succ, List.set_cons_zero]
                        refine tab_value ?u29 ?g29 ?h29 ?_
                        case g29 => kernel_rfl
                        case h29 => (intro w' hw'; obtain ⟨hc', hf'⟩ := bcell hw'; go_simp; try with_reducible rfl)
                        simp only [Act.put, List.setIfInBounds_toArray, List.set_cons_succ, List.set_cons_zero]
                        refine tab_skip ?g30 ?_
                        case g30 => kernel_rfl
                        simp only [Act.put, List.setIfInBounds_toArray, List.set_cons_succ, List.set_cons_zero]
                        refine tab_skip ?g31 ?_
                        case g31 => kernel_rfl
                        simp only [Act.put, List.setIfInBounds_toArray, List.set_cons_succ, List.set_cons_zero]
                        refine tab_skip ?g32 ?_
                        case g32 => kernel_rfl
                        simp only [Act.put, List.setIfInBounds_toArray, List.set_cons_succ, List.set_cons_zero]
                        refine tab_skip ?g33 ?_
                        case g33 => kernel_rfl
                        simp only [Act.put, List.setIfInBounds_toArray, List.set_cons_succ, List.set_cons_zero]
                        refine tab_skip ?g34 ?_
                        case g34 => kernel_rfl
                        simp only [Act.put, List.setIfInBounds_toArray, List.set_cons_succ, List.set_cons_zero]
                        refine wpTab_nil (fun wz hez => ?_)
                        have EZZ := Lib.hid (Ext.trans E7.out hez)
                        have BZ := Lib.hid (BW.out.trans (Below.mono EZZ.out BW.out.size))
                        clear hez
                        go_wp2_with fail
                        go_ret
                        exact ⟨_, rfl, fun e => Bool.noConfusion e, BZ.out⟩
                      · skip
                        refine tab_value ?u35 ?g35 ?h35 ?_
                        case g35 => kernel_rfl
                        case h35 => (intro w' hw'; obtain ⟨hc', hf'⟩ := bcell hw'; go_simp; try with_reducible rfl)
                        simp only [Act.put, List.setIfInBounds_toArray, List.set_cons_succ, List.set_cons_zero]
                        refine tab_value ?u36 ?g36 ?h36 ?_
                        case g36 => kernel_rfl
                        case h36 => (intro w' hw'; obtain ⟨hc', hf'⟩ := bcell hw'; go_simp; try with_reducible rfl)
                        simp only [Act.put, List.setIfInBounds_toArray, List.set_cons_succ, List.set_cons_zero]
                        refine tab_value ?u37 ?g37 ?h37 ?_
                        case g37 => kernel_rfl
                        case h37 => (intro w' hw'; obtain ⟨hc', hf'⟩ := bcell hw'; go_simp; try with_reducible rfl)
                        simp only [Act.put, List.setIfInBounds_toArray, List.set_cons_succ, List.set_cons_zero]
                        refine tab_value ?u38 ?g38 ?h38 ?_
                        case g38 => kernel_rfl
                        case h38 => (intro w' hw'; obtain ⟨hc', hf'⟩ := bcell hw'; go_simp; try with_reducible rfl)
                        simp only [Act.put, List.setIfInBounds_toArray, List.set_cons_succ, List.set_cons_zero]
                        refine tab_value ?u39 ?g39 ?h39 ?_
                        case g39 => kernel_rfl
                        case h39 => (intro w' hw'; obtain ⟨hc', hf'⟩ := bcell hw'; go_simp; try with_reducible rfl)
                        simp only [Act.put, List.setIfInBounds_toArray, List.set_cons_succ, List.set_cons_zero]
                        refine tab_value ?u40 ?g40 ?h40 ?_
                        case g40 => kernel_rfl
                        case h40 => (intro w' hw'; obtain ⟨hc', hf'⟩ := bcell hw'; go_simp; try with_reducible rfl)
                        simp only [Act.put, List.setIfInBounds_toArray, List.set_cons_succ, List.set_cons_zero]
                        refine tab_call 54 ?a41 ?g41 ?h41 ?c41 ?_
                        case g41 => kernel_rfl
                        case h41 => (intro w' hw'; obtain ⟨hc', hf'⟩ := bcell hw'; go_simp; try with_reducible rfl)
                        case c41 => (intro w' hw'; refine (tailC d x _ w' (HX.out.below (BW.out.trans (Below.mono hw' BW.out.size))) P2.out).mono ?_; rintro e w'' ⟨k, u, ua, uc, rfl, hk, hb⟩; exact ⟨_, .inr (.inl ⟨rfl, k, u, ua, uc, rfl, hk.below hb⟩), rfl, hb⟩)
                        rintro v w8 he8 hv8
                        rcases hv8 with ⟨hv8, _⟩ | ⟨_, k8, u8, ua8, uc8, rfl, hk8⟩ | ⟨hv8, _⟩
                        · exact absurd hv8 (by decide)
                        rotate_left
                        · exact absurd hv8 (by decide)
                        have HK8 := Lib.hid hk8
                        have E8 := Lib.hid (Ext.trans E7.out he8)
                        clear hk8 he8
                        simp only [Act.put, List.setIfInBounds_toArray, List.set_cons_succ, List.set_cons_zero]
                        refine wpTab_nil (fun wz hez => ?_)
                        have EZZ := Lib.hid (Ext.trans E8.out hez)
                        have HKZ := Lib.hid (HK8.out.below hez)
                        have BZ := Lib.hid (BW.out.trans (Below.mono EZZ.out BW.out.size))
                        clear hez
                        go_wp2_with fail
                        refine (hasC _ k8 u8 _ _ HKZ.out).mono ?_
                        rintro e w9 ⟨b9, rfl, _, hb9⟩
                        have B9 := Lib.hid (BZ.out.trans (hb9.mono BZ.out.size))
                        clear hb9
                        cases b9
                        · go_wp2_with fail
                          go_ret
                          exact ⟨_, rfl, fun _ => binary_fine (by rw [E.out]; decide) P1.out KE.out P2.out (maker_fine (.inl (bConstructor (a := y.kind) y5)) P5.out EZ.out HFS.out (bName hs) (P7.out (by trivial)) HY.out), B9.out⟩
                        · go_wp2_with fail
                          go_ret
                          exact ⟨_, rfl, fun e => Bool.noConfusion e, B9.out⟩
        · have R : Hid (Below (w.alloc (.cells #[.string t.kind, .string t.text, .int .i64 t.num, .slice (some ⟨b, o, none⟩) t.kids.length c] 24)).heap.size (w.alloc (.cells #[.string t.kind, .string t.text, .int .i64 t.num, .slice (some ⟨b, o, none⟩) t.kids.length c] 24)) (w.alloc (.cells #[.string t.kind, .string t.text, .int .i64 t.num, .slice (some ⟨b, o, none⟩) t.kids.length c] 24))) := Below.refl _ _
          have D0 : Hid ((w.alloc (.cells #[.string t.kind, .string t.text, .int .i64 t.num, .slice (some ⟨b, o, none⟩) t.kids.length c] 24)).cell? ⟨w.heap.size, 0, none⟩ = some (.string t.kind)) := (World.cell?_alloc_at (w := w) _ _ _ _ rfl).trans (by simp)
          have D1 : Hid ((w.alloc (.cells #[.string t.kind, .string t.text, .int .i64 t.num, .slice (some ⟨b, o, none⟩) t.kids.length c] 24)).cell? ⟨w.heap.size, 1, none⟩ = some (.string t.text)) := (World.cell?_alloc_at (w := w) _ _ _ _ rfl).trans (by simp)
          have D2 : Hid ((w.alloc (.cells #[.string t.kind, .string t.text, .int .i64 t.num, .slice (some ⟨b, o, none⟩) t.kids.length c] 24)).cell? ⟨w.heap.size, 2, none⟩ = some (.int .i64 t.num)) := (World.cell?_alloc_at (w := w) _ _ _ _ rfl).trans (by simp)
          have D3 : Hid ((w.alloc (.cells #[.string t.kind, .string t.text, .int .i64 t.num, .slice (some ⟨b, o, none⟩) t.kids.length c] 24)).cell? ⟨w.heap.size, 3, none⟩ = some (.slice (some ⟨b, o, none⟩) t.kids.length c)) := (World.cell?_alloc_at (w := w) _ _ _ _ rfl).trans (by simp)
          go_enter Tryz.func43, Tryz.ntmps43
          go_wp2_with fail
          refine (PLHN.out _ B.out).mono ?_
          rintro e w1 ⟨b1, rfl, hp1, hb1⟩
          have B1 := Lib.hid (B.out.trans (hb1.mono B.out.size))
          have R1 := Lib.hid (R.out.trans (hb1.mono R.out.size))
          cases b1 with
          | false =>
            clear hp1 hb1
            go_wp2_with fail
            go_ret
            exact ⟨_, rfl, fun e => Bool.noConfusion e, B1.out⟩
          | true =>
            have P1 := Lib.hid (hp1 rfl)
            clear hp1 hb1
            obtain ⟨hcw, hfw⟩ := bcell B1.out
            have m0 : w1.cell? ⟨b, o, none⟩ = some (.string x.kind) := (hcw _ _ hbl).trans x0
            have m1 : w1.cell? ⟨b, o + 1, none⟩ = some (.string x.text) := (hcw _ _ hbl).trans x1
            have m2 : w1.cell? ⟨b, o + 2, none⟩ = some (.int .i64 x.num) := (hcw _ _ hbl).trans x2
            have m3 : w1.cell? ⟨b, o + 3, none⟩ = some (.slice xa x.kids.length xc) := (hcw _ _ hbl).trans x3
            have n0 : w1.cell? ⟨b, o + 4, none⟩ = some (.string y.kind) := (hcw _ _ hbl).trans y0
            have n1 : w1.cell? ⟨b, o + 4 + 1, none⟩ = some (.string y.text) := (hcw _ _ hbl).trans y1
            have n2 : w1.cell? ⟨b, o + 4 + 2, none⟩ = some (.int .i64 y.num) := (hcw _ _ hbl).trans y2
            have n3 : w1.cell? ⟨b, o + 4 + 3, none⟩ = some (.slice ya y.kids.length yc) := (hcw _ _ hbl).trans y3
            have d0 : w1.cell? ⟨w.heap.size, 0, none⟩ = some (.string t.kind) := ((bcell R1.out).1 w.heap.size 0 (by simp)).trans D0.out
            have d1 : w1.cell? ⟨w.heap.size, 1, none⟩ = some (.string t.text) := ((bcell R1.out).1 w.heap.size 1 (by simp)).trans D1.out
            have d2 : w1.cell? ⟨w.heap.size, 2, none⟩ = some (.int .i64 t.num) := ((bcell R1.out).1 w.heap.size 2 (by simp)).trans D2.out
            have d3 : w1.cell? ⟨w.heap.size, 3, none⟩ = some (.slice (some ⟨b, o, none⟩) t.kids.length c) := ((bcell R1.out).1 w.heap.size 3 (by simp)).trans D3.out
            clear hcw hfw
            go_wp2_with fail
            refine (HC.out x _ _ ⟨HI.out.tabs.below B1.out, HX.out.below B1.out⟩).mono ?_
            rintro e w2 ⟨b2, rfl, hp2, hb2⟩
            have B2 := Lib.hid (B1.out.trans (hb2.mono B1.out.size))
            have R2 := Lib.hid (R1.out.trans (hb2.mono R1.out.size))
            cases b2 with
            | false =>
              clear hp2 hb2
              go_wp2_with fail
              go_ret
              exact ⟨_, rfl, fun e => Bool.noConfusion e, B2.out⟩
            | true =>
              have P2 := Lib.hid (hp2 rfl)
              clear m0 m1 m2 m3 n0 n1 n2 n3 d0 d1 d2 d3
              clear hp2 hb2
              obtain ⟨hcw, hfw⟩ := bcell B2.out
              have m0 : w2.cell? ⟨b, o, none⟩ = some (.string x.kind) := (hcw _ _ hbl).trans x0
              have m1 : w2.cell? ⟨b, o + 1, none⟩ = some (.string x.text) := (hcw _ _ hbl).trans x1
              have m2 : w2.cell? ⟨b, o + 2, none⟩ = some (.int .i64 x.num) := (hcw _ _ hbl).trans x2
              have m3 : w2.cell? ⟨b, o + 3, none⟩ = some (.slice xa x.kids.length xc) := (hcw _ _ hbl).trans x3
              have n0 : w2.cell? ⟨b, o + 4, none⟩ = some (.string y.kind) := (hcw _ _ hbl).trans y0
              have n1 : w2.cell? ⟨b, o + 4 + 1, none⟩ = some (.string y.text) := (hcw _ _ hbl).trans y1
              have n2 : w2.cell? ⟨b, o + 4 + 2, none⟩ = some (.int .i64 y.num) := (hcw _ _ hbl).trans y2
              have n3 : w2.cell? ⟨b, o + 4 + 3, none⟩ = some (.slice ya y.kids.length yc) := (hcw _ _ hbl).trans y3
              have d0 : w2.cell? ⟨w.heap.size, 0, none⟩ = some (.string t.kind) := ((bcell R2.out).1 w.heap.size 0 (by simp)).trans D0.out
              have d1 : w2.cell? ⟨w.heap.size, 1, none⟩ = some (.string t.text) := ((bcell R2.out).1 w.heap.size 1 (by simp)).trans D1.out
              have d2 : w2.cell? ⟨w.heap.size, 2, none⟩ = some (.int .i64 t.num) := ((bcell R2.out).1 w.heap.size 2 (by simp)).trans D2.out
              have d3 : w2.cell? ⟨w.heap.size, 3, none⟩ = some (.slice (some ⟨b, o, none⟩) t.kids.length c) := ((bcell R2.out).1 w.heap.size 3 (by simp)).trans D3.out
              clear hcw hfw
              go_wp2_with fail
              refine (isShortC d x _ _ (HX.out.below B2.out) P2.out).mono ?_
              rintro e w3 ⟨b3, rfl, hp3, hb3⟩
              have B3 := Lib.hid (B2.out.trans (hb3.mono B2.out.size))
              have R3 := Lib.hid (R2.out.trans (hb3.mono R2.out.size))
              cases b3 with
              | true =>
                clear hp3 hb3
                go_wp2_with fail
                go_ret
                exact ⟨_, rfl, fun e => Bool.noConfusion e, B3.out⟩
              | false =>
                clear m0 m1 m2 m3 n0 n1 n2 n3 d0 d1 d2 d3
                clear hp3 hb3
                obtain ⟨hcw, hfw⟩ := bcell B3.out
                have m0 : w3.cell? ⟨b, o, none⟩ = some (.string x.kind) := (hcw _ _ hbl).trans x0
                have m1 : w3.cell? ⟨b, o + 1, none⟩ = some (.string x.text) := (hcw _ _ hbl).trans x1
                have m2 : w3.cell? ⟨b, o + 2, none⟩ = some (.int .i64 x.num) := (hcw _ _ hbl).trans x2
                have m3 : w3.cell? ⟨b, o + 3, none⟩ = some (.slice xa x.kids.length xc) := (hcw _ _ hbl).trans x3
                have n0 : w3.cell? ⟨b, o + 4, none⟩ = some (.string y.kind) := (hcw _ _ hbl).trans y0
                have n1 : w3.cell? ⟨b, o + 4 + 1, none⟩ = some (.string y.text) := (hcw _ _ hbl).trans y1
                have n2 : w3.cell? ⟨b, o + 4 + 2, none⟩ = some (.int .i64 y.num) := (hcw _ _ hbl).trans y2
                have n3 : w3.cell? ⟨b, o + 4 + 3, none⟩ = some (.slice ya y.kids.length yc) := (hcw _ _ hbl).trans y3
                have d0 : w3.cell? ⟨w.heap.size, 0, none⟩ = some (.string t.kind) := ((bcell R3.out).1 w.heap.size 0 (by simp)).trans D0.out
                have d1 : w3.cell? ⟨w.heap.size, 1, none⟩ = some (.string t.text) := ((bcell R3.out).1 w.heap.size 1 (by simp)).trans D1.out
                have d2 : w3.cell? ⟨w.heap.size, 2, none⟩ = some (.int .i64 t.num) := ((bcell R3.out).1 w.heap.size 2 (by simp)).trans D2.out
                have d3 : w3.cell? ⟨w.heap.size, 3, none⟩ = some (.slice (some ⟨b, o, none⟩) t.kids.length c) := ((bcell R3.out).1 w.heap.size 3 (by simp)).trans D3.out
                clear hcw hfw
                go_wp2_with fail
                refine (isStdC x _ d _ (HX.out.below B3.out)).mono ?_
                rintro e w4 ⟨b4, rfl, hp4, hb4⟩
                have B4 := Lib.hid (B3.out.trans (hb4.mono B3.out.size))
                have R4 := Lib.hid (R3.out.trans (hb4.mono R3.out.size))
                cases b4 with
                | true =>
                  clear hp4 hb4
                  go_wp2_with fail
                  go_ret
                  exact ⟨_, rfl, fun e => Bool.noConfusion e, B4.out⟩
                | false =>
                  clear m0 m1 m2 m3 n0 n1 n2 n3 d0 d1 d2 d3
                  clear hp4 hb4
                  obtain ⟨hcw, hfw⟩ := bcell B4.out
                  have m0 : w4.cell? ⟨b, o, none⟩ = some (.string x.kind) := (hcw _ _ hbl).trans x0
                  have m1 : w4.cell? ⟨b, o + 1, none⟩ = some (.string x.text) := (hcw _ _ hbl).trans x1
                  have m2 : w4.cell? ⟨b, o + 2, none⟩ = some (.int .i64 x.num) := (hcw _ _ hbl).trans x2
                  have m3 : w4.cell? ⟨b, o + 3, none⟩ = some (.slice xa x.kids.length xc) := (hcw _ _ hbl).trans x3
                  have n0 : w4.cell? ⟨b, o + 4, none⟩ = some (.string y.kind) := (hcw _ _ hbl).trans y0
                  have n1 : w4.cell? ⟨b, o + 4 + 1, none⟩ = some (.string y.text) := (hcw _ _ hbl).trans y1
                  have n2 : w4.cell? ⟨b, o + 4 + 2, none⟩ = some (.int .i64 y.num) := (hcw _ _ hbl).trans y2
                  have n3 : w4.cell? ⟨b, o + 4 + 3, none⟩ = some (.slice ya y.kids.length yc) := (hcw _ _ hbl).trans y3
                  have d0 : w4.cell? ⟨w.heap.size, 0, none⟩ = some (.string t.kind) := ((bcell R4.out).1 w.heap.size 0 (by simp)).trans D0.out
                  have d1 : w4.cell? ⟨w.heap.size, 1, none⟩ = some (.string t.text) := ((bcell R4.out).1 w.heap.size 1 (by simp)).trans D1.out
                  have d2 : w4.cell? ⟨w.heap.size, 2, none⟩ = some (.int .i64 t.num) := ((bcell R4.out).1 w.heap.size 2 (by simp)).trans D2.out
                  have d3 : w4.cell? ⟨w.heap.size, 3, none⟩ = some (.slice (some ⟨b, o, none⟩) t.kids.length c) := ((bcell R4.out).1 w.heap.size 3 (by simp)).trans D3.out
                  clear hcw hfw
                  have BY := Lib.hid (B4.out.trans ((below1 w4 (.cells #[.string y.kind, .string y.text, .int .i64 y.num, .slice ya y.kids.length yc] 24)).mono B4.out.size))
                  have RY := Lib.hid (R4.out.trans ((below1 w4 (.cells #[.string y.kind, .string y.text, .int .i64 y.num, .slice ya y.kids.length yc] 24)).mono R4.out.size))
                  have q4 : w.heap.size < w4.heap.size := by have := R4.out.size; simp at this; omega
                  have q4b : b < w4.heap.size := by omega
                  have K0 : Hid ((w4.alloc (.cells #[.string y.kind, .string y.text, .int .i64 y.num, .slice ya y.kids.length yc] 24)).cell? ⟨w4.heap.size, 0, none⟩ = some (.string y.kind)) := (World.cell?_alloc_at (w := w4) _ _ _ _ rfl).trans (by simp)
                  have K1 : Hid ((w4.alloc (.cells #[.string y.kind, .string y.text, .int .i64 y.num, .slice ya y.kids.length yc] 24)).cell? ⟨w4.heap.size, 1, none⟩ = some (.string y.text)) := (World.cell?_alloc_at (w := w4) _ _ _ _ rfl).trans (by simp)
                  have K2 : Hid ((w4.alloc (.cells #[.string y.kind, .string y.text, .int .i64 y.num, .slice ya y.kids.length yc] 24)).cell? ⟨w4.heap.size, 2, none⟩ = some (.int .i64 y.num)) := (World.cell?_alloc_at (w := w4) _ _ _ _ rfl).trans (by simp)
                  have K3 : Hid ((w4.alloc (.cells #[.string y.kind, .string y.text, .int .i64 y.num, .slice ya y.kids.length yc] 24)).cell? ⟨w4.heap.size, 3, none⟩ = some (.slice ya y.kids.length yc)) := (World.cell?_alloc_at (w := w4) _ _ _ _ rfl).trans (by simp)
                  go_wp2_with fail
                  refine (PLY.out _ BY.out).mono ?_
                  rintro e w5 ⟨b5, rfl, hp5, hb5⟩
                  have B5 := Lib.hid (BY.out.trans (hb5.mono BY.out.size))
                  have R5 := Lib.hid (RY.out.trans (hb5.mono RY.out.size))
                  have S5 := Lib.hid hb5
                  cases b5 with
                  | false =>
                    clear hp5 hb5
                    go_wp2_with fail
                    go_ret
                    exact ⟨_, rfl, fun e => Bool.noConfusion e, B5.out⟩
                  | true =>
                    have P5 := Lib.hid (hp5 rfl)
                    clear m0 m1 m2 m3 n0 n1 n2 n3 d0 d1 d2 d3 hp5 hb5
                    obtain ⟨hcw, hfw⟩ := bcell B5.out
                    have m0 : w5.cell? ⟨b, o, none⟩ = some (.string x.kind) := (hcw _ _ hbl).trans x0
                    have m1 : w5.cell? ⟨b, o + 1, none⟩ = some (.string x.text) := (hcw _ _ hbl).trans x1
                    have m2 : w5.cell? ⟨b, o + 2, none⟩ = some (.int .i64 x.num) := (hcw _ _ hbl).trans x2
                    have m3 : w5.cell? ⟨b, o + 3, none⟩ = some (.slice xa x.kids.length xc) := (hcw _ _ hbl).trans x3
                    have n0 : w5.cell? ⟨b, o + 4, none⟩ = some (.string y.kind) := (hcw _ _ hbl).trans y0
                    have n1 : w5.cell? ⟨b, o + 4 + 1, none⟩ = some (.string y.text) := (hcw _ _ hbl).trans y1
                    have n2 : w5.cell? ⟨b, o + 4 + 2, none⟩ = some (.int .i64 y.num) := (hcw _ _ hbl).trans y2
                    have n3 : w5.cell? ⟨b, o + 4 + 3, none⟩ = some (.slice ya y.kids.length yc) := (hcw _ _ hbl).trans y3
                    have d0 : w5.cell? ⟨w.heap.size, 0, none⟩ = some (.string t.kind) := ((bcell R5.out).1 w.heap.size 0 (by simp)).trans D0.out
                    have d1 : w5.cell? ⟨w.heap.size, 1, none⟩ = some (.string t.text) := ((bcell R5.out).1 w.heap.size 1 (by simp)).trans D1.out
                    have d2 : w5.cell? ⟨w.heap.size, 2, none⟩ = some (.int .i64 t.num) := ((bcell R5.out).1 w.heap.size 2 (by simp)).trans D2.out
                    have d3 : w5.cell? ⟨w.heap.size, 3, none⟩ = some (.slice (some ⟨b, o, none⟩) t.kids.length c) := ((bcell R5.out).1 w.heap.size 3 (by simp)).trans D3.out
                    clear hcw hfw
                    obtain ⟨z, bz, oz, za, zc, hz0, _, eya, hbz, ⟨c0, c1, c2, c3⟩, KZ⟩ := kid0_of HY.out (by rw [P5.out.2.2]; decide)
                    subst eya
                    obtain ⟨z', ez⟩ := one_of_len' P5.out.2.2
                    obtain rfl : z' = z := by rw [ez] at hz0; simpa using hz0
                    have EZ := Lib.hid ez
                    have HZ := Lib.hid KZ
                    have hly : 0 < y.kids.length := by rw [ez]; simp
                    clear ez hz0 KZ
                    go_wp2_with fail
                    refine (lastC d x _ _ (HX.out.below B5.out) P2.out).mono ?_
                    rintro e w6 ⟨k6, s, sa, sc, rfl, KS, FNS, hb6⟩
                    have B6 := Lib.hid (B5.out.trans (hb6.mono B5.out.size))
                    have R6 := Lib.hid (R5.out.trans (hb6.mono R5.out.size))
                    have S6 := Lib.hid (S5.out.trans (hb6.mono S5.out.size))
                    have HS := Lib.hid (KS.below hb6)
                    have HFS := Lib.hid FNS
                    clear m0 m1 m2 m3 n0 n1 n2 n3 d0 d1 d2 d3 KS FNS hb6
                    obtain ⟨hcw, hfw⟩ := bcell B6.out
                    have m0 : w6.cell? ⟨b, o, none⟩ = some (.string x.kind) := (hcw _ _ hbl).trans x0
                    have m1 : w6.cell? ⟨b, o + 1, none⟩ = some (.string x.text) := (hcw _ _ hbl).trans x1
                    have m2 : w6.cell? ⟨b, o + 2, none⟩ = some (.int .i64 x.num) := (hcw _ _ hbl).trans x2
                    have m3 : w6.cell? ⟨b, o + 3, none⟩ = some (.slice xa x.kids.length xc) := (hcw _ _ hbl).trans x3
                    have n0 : w6.cell? ⟨b, o + 4, none⟩ = some (.string y.kind) := (hcw _ _ hbl).trans y0
                    have n1 : w6.cell? ⟨b, o + 4 + 1, none⟩ = some (.string y.text) := (hcw _ _ hbl).trans y1
                    have n2 : w6.cell? ⟨b, o + 4 + 2, none⟩ = some (.int .i64 y.num) := (hcw _ _ hbl).trans y2
                    have n3 : w6.cell? ⟨b, o + 4 + 3, none⟩ = some (.slice (some ⟨bz, oz, none⟩) y.kids.length yc) := (hcw _ _ hbl).trans y3
                    have d0 : w6.cell? ⟨w.heap.size, 0, none⟩ = some (.string t.kind) := ((bcell R6.out).1 w.heap.size 0 (by simp)).trans D0.out
                    have d1 : w6.cell? ⟨w.heap.size, 1, none⟩ = some (.string t.text) := ((bcell R6.out).1 w.heap.size 1 (by simp)).trans D1.out
                    have d2 : w6.cell? ⟨w.heap.size, 2, none⟩ = some (.int .i64 t.num) := ((bcell R6.out).1 w.heap.size 2 (by simp)).trans D2.out
                    have d3 : w6.cell? ⟨w.heap.size, 3, none⟩ = some (.slice (some ⟨b, o, none⟩) t.kids.length c) := ((bcell R6.out).1 w.heap.size 3 (by simp)).trans D3.out
                    clear hcw hfw
                    have q6 : w.heap.size < w6.heap.size := by have := R6.out.size; simp at this; omega
                    have q46 : w4.heap.size < w6.heap.size := by have := S6.out.size; simp at this; omega
                    cases hs : (s.kind.toList == [78, 97, 109, 101])
                    · go_wp2_with fail
                      refine wp_region_tab 17 (TabM s z') (TabM.stable s z') (by kernel_rfl) (by kernel_rfl) ?_
                      simp only [List.take_succ_cons, List.take_zero, List.drop_succ_cons, List.drop_zero]
                      obtain ⟨W, hW⟩ : ∃ W, W = (w6.alloc (.cells #[.string s.kind, .string s.text, .int .i64 s.num, .slice sa s.kids.length sc] 24)).drew := ⟨_, rfl⟩
                      rw [← hW]
                      have EW : Hid (Ext w6 W) := by rw [hW]; exact (below1 w6 (.cells #[.string s.kind, .string s.text, .int .i64 s.num, .slice sa s.kids.length sc] 24)).drew
                      have hWs : W.heap.size = w6.heap.size + 1 := by rw [hW]; simp
                      have BW := Lib.hid (B6.out.trans (Below.mono EW.out B6.out.size))
                      have g0 : W.cell? ⟨w6.heap.size, 0, none⟩ = some (.string s.kind) := by rw [hW]; exact (World.cell?_alloc_at (w := w6) _ _ _ _ rfl).trans (by simp)
                      have g1 : W.cell? ⟨w6.heap.size, 1, none⟩ = some (.string s.text) := by rw [hW]; exact (World.cell?_alloc_at (w := w6) _ _ _ _ rfl).trans (by simp)
                      have g2 : W.cell? ⟨w6.heap.size, 2, none⟩ = some (.int .i64 s.num) := by rw [hW]; exact (World.cell?_alloc_at (w := w6) _ _ _ _ rfl).trans (by simp)
                      have g3 : W.cell? ⟨w6.heap.size, 3, none⟩ = some (.slice sa s.kids.length sc) := by rw [hW]; exact (World.cell?_alloc_at (w := w6) _ _ _ _ rfl).trans (by simp)
                      have hcW := (bcell EW.out).1
                      clear m0 m1 m2 m3 n0 n1 n2 n3 d0 d1 d2 d3
                      have m0 : W.cell? ⟨b, o, none⟩ = some (.string x.kind) := ((bcell BW.out).1 _ _ hbl).trans x0
                      have m1 : W.cell? ⟨b, o + 1, none⟩ = some (.string x.text) := ((bcell BW.out).1 _ _ hbl).trans x1
                      have m2 : W.cell? ⟨b, o + 2, none⟩ = some (.int .i64 x.num) := ((bcell BW.out).1 _ _ hbl).trans x2
                      have m3 : W.cell? ⟨b, o + 3, none⟩ = some (.slice xa x.kids.length xc) := ((bcell BW.out).1 _ _ hbl).trans x3
                      have d3 : W.cell? ⟨w.heap.size, 3, none⟩ = some (.slice (some ⟨b, o, none⟩) t.kids.length c) := (hcW _ _ q6).trans (((bcell R6.out).1 w.heap.size 3 (by simp)).trans D3.out)
                      have e3 : W.cell? ⟨w4.heap.size, 3, none⟩ = some (.slice (some ⟨bz, oz, none⟩) y.kids.length yc) := (hcW _ _ q46).trans (((bcell S6.out).1 w4.heap.size 3 (by simp)).trans K3.out)
                      have p0 : W.cell? ⟨bz, oz, none⟩ = some (.string z'.kind) := ((bcell BW.out).1 _ _ hbz).trans c0
                      have p1 : W.cell? ⟨bz, oz + 1, none⟩ = some (.string z'.text) := ((bcell BW.out).1 _ _ hbz).trans c1
                      have p2 : W.cell? ⟨bz, oz + 2, none⟩ = some (.int .i64 z'.num) := ((bcell BW.out).1 _ _ hbz).trans c2
                      have p3 : W.cell? ⟨bz, oz + 3, none⟩ = some (.slice za z'.kids.length zc) := ((bcell BW.out).1 _ _ hbz).trans c3
                      have s0 : w6.heap.size < W.heap.size := by omega
                      have s1 : w.heap.size < W.heap.size := by omega
                      have s2 : w4.heap.size < W.heap.size := by omega
                      have s3 : b < W.heap.size := by omega
                      have s4 : bz < W.heap.size := by omega
                      have HWW := Lib.hid hW
                      clear hW hcW hWs q6 q46 x0 x1 x2 x3 y0 y1 y2 y3 c0 c1 c2 c3 q4 q4b hbl hbz
                      refine tab_value ?u42 ?g42 ?h42 ?_
                      case g42 => kernel_rfl
                      case h42 => (intro w' hw'; obtain ⟨hc', hf'⟩ := bcell hw'; go_simp; try with_reducible rfl)
                      simp only [Act.put, List.setIfInBounds_toArray, List.set_cons_succ, List.set_cons_zero]
                      refine tab_value ?u43 ?g43 ?h43 ?_
                      case g43 => kernel_rfl
                      case h43 => (intro w' hw'; obtain ⟨hc', hf'⟩ := bcell hw'; go_simp; try with_reducible rfl)
                      simp only [Act.put, List.setIfInBounds_toArray, List.set_cons_succ, List.set_cons_zero]
                      refine tab_value ?u44 ?g44 ?h44 ?_
                      case g44 => kernel_rfl
                      case h44 => (intro w' hw'; obtain ⟨hc', hf'⟩ := bcell hw'; go_simp; try with_reducible rfl)
                      simp only [Act.put, List.setIfInBounds_toArray, List.set_cons_succ, List.set_cons_zero]
                      refine tab_value ?u45 ?g45 ?h45 ?_
                      case g45 => kernel_rfl
                      case h45 => (intro w' hw'; obtain ⟨hc', hf'⟩ := bcell hw'; go_simp; try with_reducible rfl)
                      simp only [Act.put, List.setIfInBounds_toArray, List.set_cons_succ, List.set_cons_zero]
                      refine tab_skip ?g46 ?_
                      case g46 => kernel_rfl
                      simp only [Act.put, List.setIfInBounds_toArray, List.set_cons_succ, List.set_cons_zero]
                      refine tab_skip ?g47 ?_
                      case g47 => kernel_rfl
                      simp only [Act.put, List.setIfInBounds_toArray, List.set_cons_succ, List.set_cons_zero]
                      refine tab_skip ?g48 ?_
                      case g48 => kernel_rfl
                      simp only [Act.put, List.setIfInBounds_toArray, List.set_cons_succ, List.set_cons_zero]
                      refine tab_skip ?g49 ?_
                      case g49 => kernel_rfl
                      simp only [Act.put, List.setIfInBounds_toArray, List.set_cons_succ, List.set_cons_zero]
                      refine tab_skip ?g50 ?_
                      case g50 => kernel_rfl
                      simp only [Act.put, List.setIfInBounds_toArray, List.set_cons_succ, List.set_cons_zero]
                      refine tab_skip ?g51 ?_
                      case g51 => kernel_rfl
                      simp only [Act.put, List.setIfInBounds_toArray, List.set_cons_succ, List.set_cons_zero]
                      refine tab_value ?u52 ?g52 ?h52 ?_
                      case g52 => kernel_rfl
                      case h52 => (intro w' hw'; obtain ⟨hc', hf'⟩ := bcell hw'; go_simp; try with_reducible rfl)
                      simp only [Act.put, List.setIfInBounds_toArray, List.set_cons_succ, List.set_cons_zero]
                      refine tab_value ?u53 ?g53 ?h53 ?_
                      case g53 => kernel_rfl
                      case h53 => (intro w' hw'; obtain ⟨hc', hf'⟩ := bcell hw'; go_simp; try with_reducible rfl)
                      simp only [Act.put, List.setIfInBounds_toArray, List.set_cons_succ, List.set_cons_zero]
                      refine tab_skip ?g54 ?_
                      case g54 => kernel_rfl
                      simp only [Act.put, List.setIfInBounds_toArray, List.set_cons_succ, List.set_cons_zero]
                      refine tab_skip ?g55 ?_
                      case g55 => kernel_rfl
                      simp only [Act.put, List.setIfInBounds_toArray, List.set_cons_succ, List.set_cons_zero]
                      refine tab_skip ?g56 ?_
                      case g56 => kernel_rfl
                      simp only [Act.put, List.setIfInBounds_toArray, List.set_cons_succ, List.set_cons_zero]
                      refine tab_skip ?g57 ?_
                      case g57 => kernel_rfl
                      simp only [Act.put, List.setIfInBounds_toArray, List.set_cons_succ, List.set_cons_zero]
                      refine tab_skip ?g58 ?_
                      case g58 => kernel_rfl
                      simp only [Act.put, List.setIfInBounds_toArray, List.set_cons_succ, List.set_cons_zero]
                      refine wpTab_nil (fun wz hez => ?_)
                      have EZZ := Lib.hid hez
                      have BZ := Lib.hid (BW.out.trans (Below.mono EZZ.out BW.out.size))
                      clear hez
                      go_wp2_with fail
                      go_ret
                      exact ⟨_, rfl, fun e => Bool.noConfusion e, BZ.out⟩
                    · go_wp2_with fail
                      refine wp_region_tab 17 (TabM s z') (TabM.stable s z') (by kernel_rfl) (by kernel_rfl) ?_
                      simp only [List.take_succ_cons, List.take_zero, List.drop_succ_cons, List.drop_zero]
                      obtain ⟨W, hW⟩ : ∃ W, W = (w6.alloc (.cells #[.string s.kind, .string s.text, .int .i64 s.num, .slice sa s.kids.length sc] 24)).drew := ⟨_, rfl⟩
                      rw [← hW]
                      have EW : Hid (Ext w6 W) := by rw [hW]; exact (below1 w6 (.cells #[.string s.kind, .string s.text, .int .i64 s.num, .slice sa s.kids.length sc] 24)).drew
                      have hWs : W.heap.size = w6.heap.size + 1 := by rw [hW]; simp
                      have BW := Lib.hid (B6.out.trans (Below.mono EW.out B6.out.size))
                      have g0 : W.cell? ⟨w6.heap.size, 0, none⟩ = some (.string s.kind) := by rw [hW]; exact (World.cell?_alloc_at (w := w6) _ _ _ _ rfl).trans (by simp)
                      have g1 : W.cell? ⟨w6.heap.size, 1, none⟩ = some (.string s.text) := by rw [hW]; exact (World.cell?_alloc_at (w := w6) _ _ _ _ rfl).trans (by simp)
                      have g2 : W.cell? ⟨w6.heap.size, 2, none⟩ = some (.int .i64 s.num) := by rw [hW]; exact (World.cell?_alloc_at (w := w6) _ _ _ _ rfl).trans (by simp)
                      have g3 : W.cell? ⟨w6.heap.size, 3, none⟩ = some (.slice sa s.kids.length sc) := by rw [hW]; exact (World.cell?_alloc_at (w := w6) _ _ _ _ rfl).trans (by simp)
                      have hcW := (bcell EW.out).1
                      clear m0 m1 m2 m3 n0 n1 n2 n3 d0 d1 d2 d3
                      have m0 : W.cell? ⟨b, o, none⟩ = some (.string x.kind) := ((bcell BW.out).1 _ _ hbl).trans x0
                      have m1 : W.cell? ⟨b, o + 1, none⟩ = some (.string x.text) := ((bcell BW.out).1 _ _ hbl).trans x1
                      have m2 : W.cell? ⟨b, o + 2, none⟩ = some (.int .i64 x.num) := ((bcell BW.out).1 _ _ hbl).trans x2
                      have m3 : W.cell? ⟨b, o + 3, none⟩ = some (.slice xa x.kids.length xc) := ((bcell BW.out).1 _ _ hbl).trans x3
                      have d3 : W.cell? ⟨w.heap.size, 3, none⟩ = some (.slice (some ⟨b, o, none⟩) t.kids.length c) := (hcW _ _ q6).trans (((bcell R6.out).1 w.heap.size 3 (by simp)).trans D3.out)
                      have e3 : W.cell? ⟨w4.heap.size, 3, none⟩ = some (.slice (some ⟨bz, oz, none⟩) y.kids.length yc) := (hcW _ _ q46).trans (((bcell S6.out).1 w4.heap.size 3 (by simp)).trans K3.out)
                      have p0 : W.cell? ⟨bz, oz, none⟩ = some (.string z'.kind) := ((bcell BW.out).1 _ _ hbz).trans c0
                      have p1 : W.cell? ⟨bz, oz + 1, none⟩ = some (.string z'.text) := ((bcell BW.out).1 _ _ hbz).trans c1
                      have p2 : W.cell? ⟨bz, oz + 2, none⟩ = some (.int .i64 z'.num) := ((bcell BW.out).1 _ _ hbz).trans c2
                      have p3 : W.cell? ⟨bz, oz + 3, none⟩ = some (.slice za z'.kids.length zc) := ((bcell BW.out).1 _ _ hbz).trans c3
                      have s0 : w6.heap.size < W.heap.size := by omega
                      have s1 : w.heap.size < W.heap.size := by omega
                      have s2 : w4.heap.size < W.heap.size := by omega
                      have s3 : b < W.heap.size := by omega
                      have s4 : bz < W.heap.size := by omega
                      have HWW := Lib.hid hW
                      clear hW hcW hWs q6 q46 x0 x1 x2 x3 y0 y1 y2 y3 c0 c1 c2 c3 q4 q4b hbl hbz
                      refine tab_value ?u59 ?g59 ?h59 ?_
                      case g59 => kernel_rfl
                      case h59 => (intro w' hw'; obtain ⟨hc', hf'⟩ := bcell hw'; go_simp; try with_reducible rfl)
                      simp only [Act.put, List.setIfInBounds_toArray, List.set_cons_succ, List.set_cons_zero]
                      refine tab_value ?u60 ?g60 ?h60 ?_
                      case g60 => kernel_rfl
                      case h60 => (intro w' hw'; obtain ⟨hc', hf'⟩ := bcell hw'; go_simp; try with_reducible rfl)
                      simp only [Act.put, List.setIfInBounds_toArray, List.set_cons_succ, List.set_cons_zero]
                      refine tab_value ?u61 ?g61 ?h61 ?_
                      case g61 => kernel_rfl
                      case h61 => (intro w' hw'; obtain ⟨hc', hf'⟩ := bcell hw'; go_simp; try with_reducible rfl)
                      simp only [Act.put, List.setIfInBounds_toArray, List.set_cons_succ, List.set_cons_zero]
                      refine tab_value ?u62 ?g62 ?h62 ?_
                      case g62 => kernel_rfl
                      case h62 => (intro w' hw'; obtain ⟨hc', hf'⟩ := bcell hw'; go_simp; try with_reducible rfl)
                      simp only [Act.put, List.setIfInBounds_toArray, List.set_cons_succ, List.set_cons_zero]
                      refine tab_value ?u63 ?g63 ?h63 ?_
                      case g63 => kernel_rfl
                      case h63 => (intro w' hw'; obtain ⟨hc', hf'⟩ := bcell hw'; go_simp; try with_reducible rfl)
                      simp only [Act.put, List.setIfInBounds_toArray, List.set_cons_succ, List.set_cons_zero]
                      refine tab_value ?u64 ?g64 ?h64 ?_
                      case g64 => kernel_rfl
                      case h64 => (intro w' hw'; obtain ⟨hc', hf'⟩ := bcell hw'; go_simp; try with_reducible rfl)
                      simp only [Act.put, List.setIfInBounds_toArray, List.set_cons_succ, List.set_cons_zero]
                      refine tab_value ?u65 ?g65 ?h65 ?_
                      case g65 => kernel_rfl
                      case h65 => (intro w' hw'; obtain ⟨hc', hf'⟩ := bcell hw'; go_simp; try with_reducible rfl)
                      simp only [Act.put, List.setIfInBounds_toArray, List.set_cons_succ, List.set_cons_zero]
                      refine tab_value ?u66 ?g66 ?h66 ?_
                      case g66 => kernel_rfl
                      case h66 => (intro w' hw'; obtain ⟨hc', hf'⟩ := bcell hw'; go_simp; try with_reducible rfl)
                      simp only [Act.put, List.setIfInBounds_toArray, List.set_cons_succ, List.set_cons_zero]
                      refine tab_value ?u67 ?g67 ?h67 ?_
                      case g67 => kernel_rfl
                      case h67 => (intro w' hw'; obtain ⟨hc', hf'⟩ := bcell hw'; go_simp; try with_reducible rfl)
                      simp only [Act.put, List.setIfInBounds_toArray, List.set_cons_succ, List.set_cons_zero]
                      refine tab_call 10 ?a68 ?g68 ?h68 ?c68 ?_
                      case g68 => kernel_rfl
                      case h68 => (intro w' hw'; obtain ⟨hc', hf'⟩ := bcell hw'; go_simp; try with_reducible rfl)
                      case c68 => (intro w' hw'; refine (sameC k6 s z' (d - 1) _ _ w' (HS.out.below (Ext.trans EW.out hw')) (HZ.out.below (BW.out.trans (Below.mono hw' BW.out.size)))).mono ?_; rintro e w'' ⟨b, rfl, hp, hb⟩; exact ⟨_, .inl ⟨rfl, b, rfl, hp.1⟩, rfl, hb⟩)
                      rintro v w7 he7 hv7
                      rcases hv7 with ⟨_, b7, rfl, hp7⟩ | ⟨hv7, _⟩ | ⟨hv7, _⟩
                      rotate_left
                      · exact absurd hv7 (by decide)
                      · exact absurd hv7 (by decide)
                      have P7 : Hid (b7 = true → s = z') := hp7
                      have E7 := Lib.hid he7
                      clear hp7 he7
                      simp only [Act.put, List.setIfInBounds_toArray, List.set_cons_succ, List.set_cons_zero]
                      cases b7
                      · skip
                        refine tab_value ?u69 ?g69 ?h69 ?_
                        case g69 => kernel_rfl
                        case h69 => (intro w' hw'; obtain ⟨hc', hf'⟩ := bcell hw'; go_simp; try with_reducible rfl)
                        simp only [Act.put, List.setIfInBounds_toArray, List.set_cons_succ, List.set_cons_zero]
                        refine tab_value ?u70 ?g70 ?h70 ?_
                        case g70 => kernel_rfl
                        case h70 => (intro w' hw'; obtain ⟨hc', hf'⟩ := bcell hw'; go_simp; try with_reducible rfl)
                        simp only [Act.put, List.setIfInBounds_toArray, List.set_cons_succ, List.set_cons_zero]
                        refine tab_skip ?g71 ?_
                        case g71 => kernel_rfl
                        simp only [Act.put, List.setIfInBounds_toArray, List.set_cons_succ, List.set_cons_zero]
                        refine tab_skip ?g72 ?_
                        case g72 => kernel_rfl
                        simp only [Act.put, List.setIfInBounds_toArray, List.set_cons_succ, List.set_cons_zero]
                        refine tab_skip ?g73 ?_
                        case g73 => kernel_rfl
                        simp only [Act.put, List.setIfInBounds_toArray, List.set_cons_succ, List.set_cons_zero]
                        refine tab_skip ?g74 ?_
                        case g74 => kernel_rfl
                        simp only [Act.put, List.setIfInBounds_toArray, List.set_cons_succ, List.set_cons_zero]
                        refine tab_skip ?g75 ?_
                        case g75 => kernel_rfl
                        simp only [Act.put, List.setIfInBounds_toArray, List.set_cons_succ, List.set_cons_zero]
                        refine wpTab_nil (fun wz hez => ?_)
                        have EZZ := Lib.hid (Ext.trans E7.out hez)
                        have BZ := Lib.hid (BW.out.trans (Below.mono EZZ.out BW.out.size))
                        clear hez
                        go_wp2_with fail
                        go_ret
                        exact ⟨_, rfl, fun e => Bool.noConfusion e, BZ.out⟩
                      · skip
                        refine tab_value ?u76 ?g76 ?h76 ?_
                        case g76 => kernel_rfl
                        case h76 => (intro w' hw'; obtain ⟨hc', hf'⟩ := bcell hw'; go_simp; try with_reducible rfl)
                        simp only [Act.put, List.setIfInBounds_toArray, List.set_cons_succ, List.set_cons_zero]
                        refine tab_value ?u77 ?g77 ?h77 ?_
                        case g77 => kernel_rfl
                        case h77 => (intro w' hw'; obtain ⟨hc', hf'⟩ := bcell hw'; go_simp; try with_reducible rfl)
                        simp only [Act.put, List.setIfInBounds_toArray, List.set_cons_succ, List.set_cons_zero]
                        refine tab_value ?u78 ?g78 ?h78 ?_
                        case g78 => kernel_rfl
                        case h78 => (intro w' hw'; obtain ⟨hc', hf'⟩ := bcell hw'; go_simp; try with_reducible rfl)
                        simp only [Act.put, List.setIfInBounds_toArray, List.set_cons_succ, List.set_cons_zero]
                        refine tab_value ?u79 ?g79 ?h79 ?_
                        case g79 => kernel_rfl
                        case h79 => (intro w' hw'; obtain ⟨hc', hf'⟩ := bcell hw'; go_simp; try with_reducible rfl)
                        simp only [Act.put, List.setIfInBounds_toArray, List.set_cons_succ, List.set_cons_zero]
                        refine tab_value ?u80 ?g80 ?h80 ?_
                        case g80 => kernel_rfl
                        case h80 => (intro w' hw'; obtain ⟨hc', hf'⟩ := bcell hw'; go_simp; try with_reducible rfl)
                        simp only [Act.put, List.setIfInBounds_toArray, List.set_cons_succ, List.set_cons_zero]
                        refine tab_value ?u81 ?g81 ?h81 ?_
                        case g81 => kernel_rfl
                        case h81 => (intro w' hw'; obtain ⟨hc', hf'⟩ := bcell hw'; go_simp; try with_reducible rfl)
                        simp only [Act.put, List.setIfInBounds_toArray, List.set_cons_succ, List.set_cons_zero]
                        refine tab_call 54 ?a82 ?g82 ?h82 ?c82 ?_
                        case g82 => kernel_rfl
                        case h82 => (intro w' hw'; obtain ⟨hc', hf'⟩ := bcell hw'; go_simp; try with_reducible rfl)
                        case c82 => (intro w' hw'; refine (tailC d x _ w' (HX.out.below (BW.out.trans (Below.mono hw' BW.out.size))) P2.out).mono ?_; rintro e w'' ⟨k, u, ua, uc, rfl, hk, hb⟩; exact ⟨_, .inr (.inl ⟨rfl, k, u, ua, uc, rfl, hk.below hb⟩), rfl, hb⟩)
                        rintro v w8 he8 hv8
                        rcases hv8 with ⟨hv8, _⟩ | ⟨_, k8, u8, ua8, uc8, rfl, hk8⟩ | ⟨hv8, _⟩
                        · exact absurd hv8 (by decide)
                        rotate_left
                        · exact absurd hv8 (by decide)
                        have HK8 := Lib.hid hk8
                        have E8 := Lib.hid (Ext.trans E7.out he8)
                        clear hk8 he8
                        simp only [Act.put, List.setIfInBounds_toArray, List.set_cons_succ, List.set_cons_zero]
                        refine wpTab_nil (fun wz hez => ?_)
                        have EZZ := Lib.hid (Ext.trans E8.out hez)
                        have HKZ := Lib.hid (HK8.out.below hez)
                        have BZ := Lib.hid (BW.out.trans (Below.mono EZZ.out BW.out.size))
                        clear hez
                        go_wp2_with fail
                        refine (hasC _ k8 u8 _ _ HKZ.out).mono ?_
                        rintro e w9 ⟨b9, rfl, _, hb9⟩
                        have B9 := Lib.hid (BZ.out.trans (hb9.mono BZ.out.size))
                        clear hb9
                        cases b9
                        · go_wp2_with fail
                          go_ret
                          exact ⟨_, rfl, fun _ => binary_fine (by rw [E.out]; decide) P1.out KE.out P2.out (maker_fine (.inr (bDestructor (a := y.kind) y6)) P5.out EZ.out HFS.out (bName hs) (P7.out (by trivial)) HY.out), B9.out⟩
                        · go_wp2_with fail
                          go_ret
                          exact ⟨_, rfl, fun e => Bool.noConfusion e, B9.out⟩
        · have R : Hid (Below (w.alloc (.cells #[.string t.kind, .string t.text, .int .i64 t.num, .slice (some ⟨b, o, none⟩) t.kids.length c] 24)).heap.size (w.alloc (.cells #[.string t.kind, .string t.text, .int .i64 t.num, .slice (some ⟨b, o, none⟩) t.kids.length c] 24)) (w.alloc (.cells #[.string t.kind, .string t.text, .int .i64 t.num, .slice (some ⟨b, o, none⟩) t.kids.length c] 24))) := Below.refl _ _
          have D0 : Hid ((w.alloc (.cells #[.string t.kind, .string t.text, .int .i64 t.num, .slice (some ⟨b, o, none⟩) t.kids.length c] 24)).cell? ⟨w.heap.size, 0, none⟩ = some (.string t.kind)) := (World.cell?_alloc_at (w := w) _ _ _ _ rfl).trans (by simp)
          have D1 : Hid ((w.alloc (.cells #[.string t.kind, .string t.text, .int .i64 t.num, .slice (some ⟨b, o, none⟩) t.kids.length c] 24)).cell? ⟨w.heap.size, 1, none⟩ = some (.string t.text)) := (World.cell?_alloc_at (w := w) _ _ _ _ rfl).trans (by simp)
          have D2 : Hid ((w.alloc (.cells #[.string t.kind, .string t.text, .int .i64 t.num, .slice (some ⟨b, o, none⟩) t.kids.length c] 24)).cell? ⟨w.heap.size, 2, none⟩ = some (.int .i64 t.num)) := (World.cell?_alloc_at (w := w) _ _ _ _ rfl).trans (by simp)
          have D3 : Hid ((w.alloc (.cells #[.string t.kind, .string t.text, .int .i64 t.num, .slice (some ⟨b, o, none⟩) t.kids.length c] 24)).cell? ⟨w.heap.size, 3, none⟩ = some (.slice (some ⟨b, o, none⟩) t.kids.length c)) := (World.cell?_alloc_at (w := w) _ _ _ _ rfl).trans (by simp)
          go_enter Tryz.func43, Tryz.ntmps43
          go_wp2_with fail
          refine (PLHN.out _ B.out).mono ?_
          rintro e w1 ⟨b1, rfl, hp1, hb1⟩
          have B1 := Lib.hid (B.out.trans (hb1.mono B.out.size))
          have R1 := Lib.hid (R.out.trans (hb1.mono R.out.size))
          cases b1 with
          | false =>
            clear hp1 hb1
            go_wp2_with fail
            go_ret
            exact ⟨_, rfl, fun e => Bool.noConfusion e, B1.out⟩
          | true =>
            have P1 := Lib.hid (hp1 rfl)
            clear hp1 hb1
            obtain ⟨hcw, hfw⟩ := bcell B1.out
            have m0 : w1.cell? ⟨b, o, none⟩ = some (.string x.kind) := (hcw _ _ hbl).trans x0
            have m1 : w1.cell? ⟨b, o + 1, none⟩ = some (.string x.text) := (hcw _ _ hbl).trans x1
            have m2 : w1.cell? ⟨b, o + 2, none⟩ = some (.int .i64 x.num) := (hcw _ _ hbl).trans x2
            have m3 : w1.cell? ⟨b, o + 3, none⟩ = some (.slice xa x.kids.length xc) := (hcw _ _ hbl).trans x3
            have n0 : w1.cell? ⟨b, o + 4, none⟩ = some (.string y.kind) := (hcw _ _ hbl).trans y0
            have n1 : w1.cell? ⟨b, o + 4 + 1, none⟩ = some (.string y.text) := (hcw _ _ hbl).trans y1
            have n2 : w1.cell? ⟨b, o + 4 + 2, none⟩ = some (.int .i64 y.num) := (hcw _ _ hbl).trans y2
            have n3 : w1.cell? ⟨b, o + 4 + 3, none⟩ = some (.slice ya y.kids.length yc) := (hcw _ _ hbl).trans y3
            have d0 : w1.cell? ⟨w.heap.size, 0, none⟩ = some (.string t.kind) := ((bcell R1.out).1 w.heap.size 0 (by simp)).trans D0.out
            have d1 : w1.cell? ⟨w.heap.size, 1, none⟩ = some (.string t.text) := ((bcell R1.out).1 w.heap.size 1 (by simp)).trans D1.out
            have d2 : w1.cell? ⟨w.heap.size, 2, none⟩ = some (.int .i64 t.num) := ((bcell R1.out).1 w.heap.size 2 (by simp)).trans D2.out
            have d3 : w1.cell? ⟨w.heap.size, 3, none⟩ = some (.slice (some ⟨b, o, none⟩) t.kids.length c) := ((bcell R1.out).1 w.heap.size 3 (by simp)).trans D3.out
            clear hcw hfw
            go_wp2_with fail
            refine (HC.out x _ _ ⟨HI.out.tabs.below B1.out, HX.out.below B1.out⟩).mono ?_
            rintro e w2 ⟨b2, rfl, hp2, hb2⟩
            have B2 := Lib.hid (B1.out.trans (hb2.mono B1.out.size))
            have R2 := Lib.hid (R1.out.trans (hb2.mono R1.out.size))
            cases b2 with
            | false =>
              clear hp2 hb2
              go_wp2_with fail
              go_ret
              exact ⟨_, rfl, fun e => Bool.noConfusion e, B2.out⟩
            | true =>
              have P2 := Lib.hid (hp2 rfl)
              clear m0 m1 m2 m3 n0 n1 n2 n3 d0 d1 d2 d3
              clear hp2 hb2
              obtain ⟨hcw, hfw⟩ := bcell B2.out
              have m0 : w2.cell? ⟨b, o, none⟩ = some (.string x.kind) := (hcw _ _ hbl).trans x0
              have m1 : w2.cell? ⟨b, o + 1, none⟩ = some (.string x.text) := (hcw _ _ hbl).trans x1
              have m2 : w2.cell? ⟨b, o + 2, none⟩ = some (.int .i64 x.num) := (hcw _ _ hbl).trans x2
              have m3 : w2.cell? ⟨b, o + 3, none⟩ = some (.slice xa x.kids.length xc) := (hcw _ _ hbl).trans x3
              have n0 : w2.cell? ⟨b, o + 4, none⟩ = some (.string y.kind) := (hcw _ _ hbl).trans y0
              have n1 : w2.cell? ⟨b, o + 4 + 1, none⟩ = some (.string y.text) := (hcw _ _ hbl).trans y1
              have n2 : w2.cell? ⟨b, o + 4 + 2, none⟩ = some (.int .i64 y.num) := (hcw _ _ hbl).trans y2
              have n3 : w2.cell? ⟨b, o + 4 + 3, none⟩ = some (.slice ya y.kids.length yc) := (hcw _ _ hbl).trans y3
              have d0 : w2.cell? ⟨w.heap.size, 0, none⟩ = some (.string t.kind) := ((bcell R2.out).1 w.heap.size 0 (by simp)).trans D0.out
              have d1 : w2.cell? ⟨w.heap.size, 1, none⟩ = some (.string t.text) := ((bcell R2.out).1 w.heap.size 1 (by simp)).trans D1.out
              have d2 : w2.cell? ⟨w.heap.size, 2, none⟩ = some (.int .i64 t.num) := ((bcell R2.out).1 w.heap.size 2 (by simp)).trans D2.out
              have d3 : w2.cell? ⟨w.heap.size, 3, none⟩ = some (.slice (some ⟨b, o, none⟩) t.kids.length c) := ((bcell R2.out).1 w.heap.size 3 (by simp)).trans D3.out
              clear hcw hfw
              go_wp2_with fail
              refine (isShortC d x _ _ (HX.out.below B2.out) P2.out).mono ?_
              rintro e w3 ⟨b3, rfl, hp3, hb3⟩
              have B3 := Lib.hid (B2.out.trans (hb3.mono B2.out.size))
              have R3 := Lib.hid (R2.out.trans (hb3.mono R2.out.size))
              cases b3 with
              | true =>
                clear hp3 hb3
                go_wp2_with fail
                go_ret
                exact ⟨_, rfl, fun e => Bool.noConfusion e, B3.out⟩
              | false =>
                clear m0 m1 m2 m3 n0 n1 n2 n3 d0 d1 d2 d3
                clear hp3 hb3
                obtain ⟨hcw, hfw⟩ := bcell B3.out
                have m0 : w3.cell? ⟨b, o, none⟩ = some (.string x.kind) := (hcw _ _ hbl).trans x0
                have m1 : w3.cell? ⟨b, o + 1, none⟩ = some (.string x.text) := (hcw _ _ hbl).trans x1
                have m2 : w3.cell? ⟨b, o + 2, none⟩ = some (.int .i64 x.num) := (hcw _ _ hbl).trans x2
                have m3 : w3.cell? ⟨b, o + 3, none⟩ = some (.slice xa x.kids.length xc) := (hcw _ _ hbl).trans x3
                have n0 : w3.cell? ⟨b, o + 4, none⟩ = some (.string y.kind) := (hcw _ _ hbl).trans y0
                have n1 : w3.cell? ⟨b, o + 4 + 1, none⟩ = some (.string y.text) := (hcw _ _ hbl).trans y1
                have n2 : w3.cell? ⟨b, o + 4 + 2, none⟩ = some (.int .i64 y.num) := (hcw _ _ hbl).trans y2
                have n3 : w3.cell? ⟨b, o + 4 + 3, none⟩ = some (.slice ya y.kids.length yc) := (hcw _ _ hbl).trans y3
                have d0 : w3.cell? ⟨w.heap.size, 0, none⟩ = some (.string t.kind) := ((bcell R3.out).1 w.heap.size 0 (by simp)).trans D0.out
                have d1 : w3.cell? ⟨w.heap.size, 1, none⟩ = some (.string t.text) := ((bcell R3.out).1 w.heap.size 1 (by simp)).trans D1.out
                have d2 : w3.cell? ⟨w.heap.size, 2, none⟩ = some (.int .i64 t.num) := ((bcell R3.out).1 w.heap.size 2 (by simp)).trans D2.out
                have d3 : w3.cell? ⟨w.heap.size, 3, none⟩ = some (.slice (some ⟨b, o, none⟩) t.kids.length c) := ((bcell R3.out).1 w.heap.size 3 (by simp)).trans D3.out
                clear hcw hfw
                go_wp2_with fail
                refine (isStdC x _ d _ (HX.out.below B3.out)).mono ?_
                rintro e w4 ⟨b4, rfl, hp4, hb4⟩
                have B4 := Lib.hid (B3.out.trans (hb4.mono B3.out.size))
                have R4 := Lib.hid (R3.out.trans (hb4.mono R3.out.size))
                cases b4 with
                | true =>
                  clear hp4 hb4
                  go_wp2_with fail
                  go_ret
                  exact ⟨_, rfl, fun e => Bool.noConfusion e, B4.out⟩
                | false =>
                  clear m0 m1 m2 m3 n0 n1 n2 n3 d0 d1 d2 d3
                  clear hp4 hb4
                  obtain ⟨hcw, hfw⟩ := bcell B4.out
                  have m0 : w4.cell? ⟨b, o, none⟩ = some (.string x.kind) := (hcw _ _ hbl).trans x0
                  have m1 : w4.cell? ⟨b, o + 1, none⟩ = some (.string x.text) := (hcw _ _ hbl).trans x1
                  have m2 : w4.cell? ⟨b, o + 2, none⟩ = some (.int .i64 x.num) := (hcw _ _ hbl).trans x2
                  have m3 : w4.cell? ⟨b, o + 3, none⟩ = some (.slice xa x.kids.length xc) := (hcw _ _ hbl).trans x3
                  have n0 : w4.cell? ⟨b, o + 4, none⟩ = some (.string y.kind) := (hcw _ _ hbl).trans y0
                  have n1 : w4.cell? ⟨b, o + 4 + 1, none⟩ = some (.string y.text) := (hcw _ _ hbl).trans y1
                  have n2 : w4.cell? ⟨b, o + 4 + 2, none⟩ = some (.int .i64 y.num) := (hcw _ _ hbl).trans y2
                  have n3 : w4.cell? ⟨b, o + 4 + 3, none⟩ = some (.slice ya y.kids.length yc) := (hcw _ _ hbl).trans y3
                  have d0 : w4.cell? ⟨w.heap.size, 0, none⟩ = some (.string t.kind) := ((bcell R4.out).1 w.heap.size 0 (by simp)).trans D0.out
                  have d1 : w4.cell? ⟨w.heap.size, 1, none⟩ = some (.string t.text) := ((bcell R4.out).1 w.heap.size 1 (by simp)).trans D1.out
                  have d2 : w4.cell? ⟨w.heap.size, 2, none⟩ = some (.int .i64 t.num) := ((bcell R4.out).1 w.heap.size 2 (by simp)).trans D2.out
                  have d3 : w4.cell? ⟨w.heap.size, 3, none⟩ = some (.slice (some ⟨b, o, none⟩) t.kids.length c) := ((bcell R4.out).1 w.heap.size 3 (by simp)).trans D3.out
                  clear hcw hfw
                  go_wp2_with fail
                  go_ret
                  exact ⟨_, rfl, fun e => Bool.noConfusion e, B4.out.trans ((below1 w4 _).mono B4.out.size)⟩
      · go_enter Tryz.func43, Tryz.ntmps43
        go_wp2_with fail
        refine (PLHN.out _ B.out).mono ?_
        rintro e w1 ⟨b1, rfl, hp1, hb1⟩
        have B1 := Lib.hid (B.out.trans (hb1.mono B.out.size))
        cases b1 with
        | true => exact (hl2 (hp1 rfl).2.2).elim
        | false =>
          clear hp1 hb1
          go_wp2_with fail
          go_ret
          exact ⟨_, rfl, fun e => Bool.noConfusion e, B1.out⟩
    · have k0 := kind_ne (a := t.kind) kQualified e0 (l := [81, 117, 97, 108, 105, 102, 105, 101, 100]) rfl
      clear e0
      go_enter Tryz.func43, Tryz.ntmps43
      go_wp2_with fail
      go_ret
      exact ⟨_, rfl, fun e => Bool.noConfusion e, below1 _ _⟩
end Go.Proofs.YtlfbmpenekiigaaGreatDoor
