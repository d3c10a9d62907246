/- Functions, methods, encodings: what the tests tell; conditions: the node reads as a tree, the tables hold texts. -/
import Derived.Test.YtlfbmpenekiigaaGreatDoorSpecX
namespace Go.Proofs.YtlfbmpenekiigaaGreatDoor
open Go.ChangeShapes Go.WideShapes Go.ChangeAt Go.RowKit
set_option linter.unusedVariables false

theorem eq_false_of_not {b : Bool} (h : ¬ b = true) : b = false := by cases b <;> simp_all
/-- A function: a node of good form, of this kind. -/
def FunT (d : Nat) (t : Tree) : Prop := Fine d t ∧ t.kind = kTyped

theorem fun_fine {d : Nat} {w : World} {t x y z : Tree} {l : List Tree} {ky : Value} (hk : t.kind = kTyped) (hp : PlainT t 2) (e : t.kids = [x, y]) (hx : Fine d x) (h1 : y.kind = kFunctionType) (h2 : y.text = ByteArray.empty) (h3 : y.num = 0) (h4 : y.kids = z :: l)
    (hz : All Good (d - 1) z) (hl : ∀ v ∈ l, Fine (d - 1) v) (hy : KidsAt w d y ky) : FunT (d + 1) t := by
  cases d with
  | zero => exact hy.elim
  | succ d => exact ⟨binary_fine (by rw [hk]; decide) hp e hx (function_fine h1 h2 h3 h4 hz hl), hk⟩

theorem good_nil {d : Nat} {w : World} {z : Tree} {kz : Value} (h : z = Tree.nil) (hz : KidsAt w d z kz) : All Good d z := by
  cases d with
  | zero => exact hz.elim
  | succ d => rw [h]; exact nil_good

set_option maxRecDepth 100000 in
set_option maxHeartbeats 4000000 in
theorem isFunctionC (d : Nat) (t : Tree) (kv : Value) (w : World) (h : In w d t kv) :
    Calls Tryz.prog 12 #[.agg #[.string t.kind, .string t.text, .int .i64 t.num, kv]] w (Ans w (FunT d t)) := by
  cases d with
  | zero => exact h.kids.elim
  | succ d =>
    have HI := Lib.hid h
    obtain ⟨hk, ht, hwf, a, c, rfl, hl, hc, hkids⟩ := h.kids
    have HK := Lib.hid hkids
    have B := Lib.hid (below1 w (.cells #[.string t.kind, .string t.text, .int .i64 t.num, .slice a t.kids.length c] 24))
    have PL : ∀ w1 n, Below w.heap.size w w1 → Calls Tryz.prog 21 #[.agg #[.string t.kind, .string t.text, .int .i64 t.num, .slice a t.kids.length c], .int .i64 (n : Nat)] w1 (Ans w1 (PlainT t n)) := fun w1 n hb => plainC t _ n (d + 1) _ (h.kids.below hb)
    have PLH := Lib.hid PL
    clear hkids PL
    have PLHN : Hid (∀ w1, Below w.heap.size w w1 → Calls Tryz.prog 21 #[.agg #[.string t.kind, .string t.text, .int .i64 t.num, .slice a t.kids.length c], .int .i64 2] w1 (Ans w1 (PlainT t 2))) := fun w1 hb => PLH.out w1 2 hb
    have HFN := Lib.hid (isFunctionNameC d)
    have HR := Lib.hid (isReturnC (d - 1) (known (d - 1)).typ)
    have HP := Lib.hid (areParamsC (d - 1) (known (d - 1)).typ)
    clear h
    by_cases e0 : t.kind = kTyped
    · have k0 := kind_is (a := t.kind) kTyped e0 (l := [84, 121, 112, 101, 100]) rfl
      have E := Lib.hid e0
      clear e0
      by_cases hl2 : t.kids.length = 2
      · have HL2 := Lib.hid hl2
        obtain ⟨x, y, b, o, kx, ky, KE, rfl, hbl, hlen, ⟨x0, x1, x2, x3⟩, ⟨y0, y1, y2, y3⟩, KX, KY⟩ := kids2 HK.out hl2
        have HX := Lib.hid KX
        have HY := Lib.hid KY
        clear KX KY hl2
        obtain ⟨xa, xc, rfl⟩ := HX.out.form
        obtain ⟨ya, yc, rfl⟩ := HY.out.form
        have hl0 : 0 < t.kids.length := by omega
        have hfk : (y.kind.toList == [70, 117, 110, 99, 116, 105, 111, 110, 84, 121, 112, 101]) = true ∧ y.text.toList = [] ∧ (y.num != 0) = false ∧ 0 < y.kids.length ∨ (y.kind.toList == [70, 117, 110, 99, 116, 105, 111, 110, 84, 121, 112, 101]) = false ∨ ((y.kind.toList == [70, 117, 110, 99, 116, 105, 111, 110, 84, 121, 112, 101]) = true ∧ y.text.toList.isEmpty = false) ∨ ((y.kind.toList == [70, 117, 110, 99, 116, 105, 111, 110, 84, 121, 112, 101]) = true ∧ y.text.toList = [] ∧ (y.num != 0) = true) ∨ ((y.kind.toList == [70, 117, 110, 99, 116, 105, 111, 110, 84, 121, 112, 101]) = true ∧ y.text.toList = [] ∧ (y.num != 0) = false ∧ y.kids.length = 0) := by
          by_cases q1 : (y.kind.toList == [70, 117, 110, 99, 116, 105, 111, 110, 84, 121, 112, 101]) = true
          · by_cases q2 : y.text.toList = []
            · by_cases q3 : (y.num != 0) = true
              · exact .inr (.inr (.inr (.inl ⟨q1, q2, q3⟩)))
              · by_cases q4 : 0 < y.kids.length
                · exact .inl ⟨q1, q2, eq_false_of_not q3, q4⟩
                · exact .inr (.inr (.inr (.inr ⟨q1, q2, eq_false_of_not q3, by omega⟩)))
            · refine .inr (.inr (.inl ⟨q1, ?_⟩))
              cases hq : y.text.toList with
              | nil => exact (q2 hq).elim
              | cons _ _ => rfl
          · exact .inr (.inl (eq_false_of_not q1))
        rcases hfk with ⟨j1, j2, j3, j4⟩ | j1 | ⟨j1, j2⟩ | ⟨j1, j2, j3⟩ | ⟨j1, j2, j3, j4⟩
        · obtain ⟨z, bz, oz, za, zc, hz0, _, eya, hbz, ⟨c0, c1, c2, c3⟩, KZ⟩ := kid0_of HY.out j4
          subst eya
          obtain ⟨z', l, ez⟩ := cons_of_len j4
          obtain rfl : z' = z := by rw [ez] at hz0; simpa using hz0
          have EZ := Lib.hid ez
          have HZ := Lib.hid KZ
          have HLL : Hid (y.kids.length - 1 = l.length) := by show _ - 1 = _; rw [ez]; simp
          have HYD : Hid (0 < d) := by
            cases d with
            | zero => exact HY.out.elim
            | succ d => exact Nat.succ_pos d
          have HTL : Hid (∀ i v, l[i]? = some v → ∃ b' o' kv, (some ⟨bz, oz + 4, none⟩ : Option Addr) = some ⟨b', o', none⟩ ∧ w.cell? ⟨b', o' + i * 4, none⟩ = some (.string v.kind) ∧ w.cell? ⟨b', o' + i * 4 + 1, none⟩ = some (.string v.text) ∧ w.cell? ⟨b', o' + i * 4 + 2, none⟩ = some (.int .i64 v.num) ∧ w.cell? ⟨b', o' + i * 4 + 3, none⟩ = some kv ∧ KidsAt w (d - 1) v kv) := by
            have hy := HY.out
            cases d with
            | zero => exact hy.elim
            | succ d =>
              obtain ⟨_, _, _, a', c', e', _, _, hk'⟩ := hy
              obtain ⟨rfl, rfl⟩ : some ⟨bz, oz, none⟩ = a' ∧ yc = c' := by simpa using e'
              exact kids_tail hk' ez
          obtain ⟨_, _, ya', yc', eyc, hyc1, hyc2⟩ := HY.out.parts
          obtain ⟨rfl, rfl⟩ : some ⟨bz, oz, none⟩ = ya' ∧ yc = yc' := by simpa using eyc
          have SM : Hid (∀ w1, Below w.heap.size w w1 → Calls Tryz.prog 10 #[.agg #[.string z'.kind, .string z'.text, .int .i64 z'.num, .slice za z'.kids.length zc], .agg #[.string ⟨#[]⟩, .string ⟨#[]⟩, .int .i64 0, .slice none 0 0]] w1 (Tells w1 (z' = Tree.nil))) :=
            fun w1 hb => sameC (d - 1) z' Tree.nil 1 _ _ w1 (HZ.out.below hb) (nil_kids w1)
          have hln : ((y.kids.length : Int) == 0) = false := by simp; intro e; rw [e] at j4; simp at j4
          clear ez hz0 KZ eyc
          by_cases hcc : 1 < yc
          · skip
            have HPC : Hid (∀ w1, Below w.heap.size w w1 → Calls Tryz.prog 23 #[.slice (some ⟨bz, oz + 4, none⟩) (y.kids.length - 1) (yc - 1)] w1 (Ans w1 (∀ v ∈ l, Fine (d - 1) v))) := fun w1 hb =>
              HP.out l _ w1 ⟨HI.out.tabs.below hb, some ⟨bz, oz + 4, none⟩, yc - 1, by rw [HLL.out], by rw [← HLL.out]; omega, by omega, fun i z hz => by
                obtain ⟨b', o', kv', e1, g0, g1, g2, g3, g4⟩ := HTL.out i z hz
                have hcb := cells_below hb
                exact ⟨b', o', kv', e1, hcb _ _ _ g0, hcb _ _ _ g1, hcb _ _ _ g2, hcb _ _ _ g3, g4.below hb⟩⟩
            have R : Hid (Below (w.alloc (.cells #[.string t.kind, .string t.text, .int .i64 t.num, .slice (some ⟨b, o, none⟩) t.kids.length c] 24)).heap.size (w.alloc (.cells #[.string t.kind, .string t.text, .int .i64 t.num, .slice (some ⟨b, o, none⟩) t.kids.length c] 24)) (w.alloc (.cells #[.string t.kind, .string t.text, .int .i64 t.num, .slice (some ⟨b, o, none⟩) t.kids.length c] 24))) := Below.refl _ _
            have D0 : Hid ((w.alloc (.cells #[.string t.kind, .string t.text, .int .i64 t.num, .slice (some ⟨b, o, none⟩) t.kids.length c] 24)).cell? ⟨w.heap.size, 0, none⟩ = some (.string t.kind)) := (World.cell?_alloc_at (w := w) _ _ _ _ rfl).trans (by simp)
            have D1 : Hid ((w.alloc (.cells #[.string t.kind, .string t.text, .int .i64 t.num, .slice (some ⟨b, o, none⟩) t.kids.length c] 24)).cell? ⟨w.heap.size, 1, none⟩ = some (.string t.text)) := (World.cell?_alloc_at (w := w) _ _ _ _ rfl).trans (by simp)
            have D2 : Hid ((w.alloc (.cells #[.string t.kind, .string t.text, .int .i64 t.num, .slice (some ⟨b, o, none⟩) t.kids.length c] 24)).cell? ⟨w.heap.size, 2, none⟩ = some (.int .i64 t.num)) := (World.cell?_alloc_at (w := w) _ _ _ _ rfl).trans (by simp)
            have D3 : Hid ((w.alloc (.cells #[.string t.kind, .string t.text, .int .i64 t.num, .slice (some ⟨b, o, none⟩) t.kids.length c] 24)).cell? ⟨w.heap.size, 3, none⟩ = some (.slice (some ⟨b, o, none⟩) t.kids.length c)) := (World.cell?_alloc_at (w := w) _ _ _ _ rfl).trans (by simp)
            go_enter Tryz.func12, Tryz.ntmps12
            go_wp2_with fail
            refine (PLHN.out _ B.out).mono ?_
            rintro e w1 ⟨b1, rfl, hp1, hb1⟩
            have B1 := Lib.hid (B.out.trans (hb1.mono B.out.size))
            have R1 := Lib.hid (R.out.trans (hb1.mono R.out.size))
            cases b1 with
            | false =>
              clear hp1 hb1
              go_wp2_with fail
              go_ret
              exact ⟨_, rfl, fun e => Bool.noConfusion e, B1.out⟩
            | true =>
              have P1 := Lib.hid (hp1 rfl)
              clear hp1 hb1
              obtain ⟨hcw, hfw⟩ := bcell B1.out
              have m0 : w1.cell? ⟨b, o, none⟩ = some (.string x.kind) := (hcw _ _ hbl).trans x0
              have m1 : w1.cell? ⟨b, o + 1, none⟩ = some (.string x.text) := (hcw _ _ hbl).trans x1
              have m2 : w1.cell? ⟨b, o + 2, none⟩ = some (.int .i64 x.num) := (hcw _ _ hbl).trans x2
              have m3 : w1.cell? ⟨b, o + 3, none⟩ = some (.slice xa x.kids.length xc) := (hcw _ _ hbl).trans x3
              have n0 : w1.cell? ⟨b, o + 4, none⟩ = some (.string y.kind) := (hcw _ _ hbl).trans y0
              have n1 : w1.cell? ⟨b, o + 4 + 1, none⟩ = some (.string y.text) := (hcw _ _ hbl).trans y1
              have n2 : w1.cell? ⟨b, o + 4 + 2, none⟩ = some (.int .i64 y.num) := (hcw _ _ hbl).trans y2
              have n3 : w1.cell? ⟨b, o + 4 + 3, none⟩ = some (.slice (some ⟨bz, oz, none⟩) y.kids.length yc) := (hcw _ _ hbl).trans y3
              have p0 : w1.cell? ⟨bz, oz, none⟩ = some (.string z'.kind) := (hcw _ _ hbz).trans c0
              have p1 : w1.cell? ⟨bz, oz + 1, none⟩ = some (.string z'.text) := (hcw _ _ hbz).trans c1
              have p2 : w1.cell? ⟨bz, oz + 2, none⟩ = some (.int .i64 z'.num) := (hcw _ _ hbz).trans c2
              have p3 : w1.cell? ⟨bz, oz + 3, none⟩ = some (.slice za z'.kids.length zc) := (hcw _ _ hbz).trans c3
              have d0 : w1.cell? ⟨w.heap.size, 0, none⟩ = some (.string t.kind) := ((bcell R1.out).1 w.heap.size 0 (by simp)).trans D0.out
              have d1 : w1.cell? ⟨w.heap.size, 1, none⟩ = some (.string t.text) := ((bcell R1.out).1 w.heap.size 1 (by simp)).trans D1.out
              have d2 : w1.cell? ⟨w.heap.size, 2, none⟩ = some (.int .i64 t.num) := ((bcell R1.out).1 w.heap.size 2 (by simp)).trans D2.out
              have d3 : w1.cell? ⟨w.heap.size, 3, none⟩ = some (.slice (some ⟨b, o, none⟩) t.kids.length c) := ((bcell R1.out).1 w.heap.size 3 (by simp)).trans D3.out
              clear hcw hfw
              go_wp2_with fail
              refine (HFN.out x _ _ ⟨HI.out.tabs.below B1.out, HX.out.below B1.out⟩).mono ?_
              rintro e w2 ⟨b2, rfl, hp2, hb2⟩
              have B2 := Lib.hid (B1.out.trans (hb2.mono B1.out.size))
              have R2 := Lib.hid (R1.out.trans (hb2.mono R1.out.size))
              cases b2 with
              | false =>
                clear hp2 hb2
                go_wp2_with fail
                go_ret
                exact ⟨_, rfl, fun e => Bool.noConfusion e, B2.out⟩
              | true =>
                have P2 := Lib.hid (hp2 rfl)
                clear m0 m1 m2 m3 n0 n1 n2 n3 p0 p1 p2 p3 d0 d1 d2 d3
                clear hp2 hb2
                obtain ⟨hcw, hfw⟩ := bcell B2.out
                have m0 : w2.cell? ⟨b, o, none⟩ = some (.string x.kind) := (hcw _ _ hbl).trans x0
                have m1 : w2.cell? ⟨b, o + 1, none⟩ = some (.string x.text) := (hcw _ _ hbl).trans x1
                have m2 : w2.cell? ⟨b, o + 2, none⟩ = some (.int .i64 x.num) := (hcw _ _ hbl).trans x2
                have m3 : w2.cell? ⟨b, o + 3, none⟩ = some (.slice xa x.kids.length xc) := (hcw _ _ hbl).trans x3
                have n0 : w2.cell? ⟨b, o + 4, none⟩ = some (.string y.kind) := (hcw _ _ hbl).trans y0
                have n1 : w2.cell? ⟨b, o + 4 + 1, none⟩ = some (.string y.text) := (hcw _ _ hbl).trans y1
                have n2 : w2.cell? ⟨b, o + 4 + 2, none⟩ = some (.int .i64 y.num) := (hcw _ _ hbl).trans y2
                have n3 : w2.cell? ⟨b, o + 4 + 3, none⟩ = some (.slice (some ⟨bz, oz, none⟩) y.kids.length yc) := (hcw _ _ hbl).trans y3
                have p0 : w2.cell? ⟨bz, oz, none⟩ = some (.string z'.kind) := (hcw _ _ hbz).trans c0
                have p1 : w2.cell? ⟨bz, oz + 1, none⟩ = some (.string z'.text) := (hcw _ _ hbz).trans c1
                have p2 : w2.cell? ⟨bz, oz + 2, none⟩ = some (.int .i64 z'.num) := (hcw _ _ hbz).trans c2
                have p3 : w2.cell? ⟨bz, oz + 3, none⟩ = some (.slice za z'.kids.length zc) := (hcw _ _ hbz).trans c3
                have d0 : w2.cell? ⟨w.heap.size, 0, none⟩ = some (.string t.kind) := ((bcell R2.out).1 w.heap.size 0 (by simp)).trans D0.out
                have d1 : w2.cell? ⟨w.heap.size, 1, none⟩ = some (.string t.text) := ((bcell R2.out).1 w.heap.size 1 (by simp)).trans D1.out
                have d2 : w2.cell? ⟨w.heap.size, 2, none⟩ = some (.int .i64 t.num) := ((bcell R2.out).1 w.heap.size 2 (by simp)).trans D2.out
                have d3 : w2.cell? ⟨w.heap.size, 3, none⟩ = some (.slice (some ⟨b, o, none⟩) t.kids.length c) := ((bcell R2.out).1 w.heap.size 3 (by simp)).trans D3.out
                clear hcw hfw
                have BY := Lib.hid (B2.out.trans ((below1 w2 (.cells #[.string y.kind, .string y.text, .int .i64 y.num, .slice (some ⟨bz, oz, none⟩) y.kids.length yc] 24)).mono B2.out.size))
                have RY := Lib.hid (R2.out.trans ((below1 w2 (.cells #[.string y.kind, .string y.text, .int .i64 y.num, .slice (some ⟨bz, oz, none⟩) y.kids.length yc] 24)).mono R2.out.size))
                have le : w.heap.size < w2.heap.size := by have := R2.out.size; simp at this; omega
                have lbe : b < w2.heap.size := by omega
                have K0 : Hid ((w2.alloc (.cells #[.string y.kind, .string y.text, .int .i64 y.num, .slice (some ⟨bz, oz, none⟩) y.kids.length yc] 24)).cell? ⟨w2.heap.size, 0, none⟩ = some (.string y.kind)) := (World.cell?_alloc_at (w := w2) _ _ _ _ rfl).trans (by simp)
                have K1 : Hid ((w2.alloc (.cells #[.string y.kind, .string y.text, .int .i64 y.num, .slice (some ⟨bz, oz, none⟩) y.kids.length yc] 24)).cell? ⟨w2.heap.size, 1, none⟩ = some (.string y.text)) := (World.cell?_alloc_at (w := w2) _ _ _ _ rfl).trans (by simp)
                have K2 : Hid ((w2.alloc (.cells #[.string y.kind, .string y.text, .int .i64 y.num, .slice (some ⟨bz, oz, none⟩) y.kids.length yc] 24)).cell? ⟨w2.heap.size, 2, none⟩ = some (.int .i64 y.num)) := (World.cell?_alloc_at (w := w2) _ _ _ _ rfl).trans (by simp)
                have K3 : Hid ((w2.alloc (.cells #[.string y.kind, .string y.text, .int .i64 y.num, .slice (some ⟨bz, oz, none⟩) y.kids.length yc] 24)).cell? ⟨w2.heap.size, 3, none⟩ = some (.slice (some ⟨bz, oz, none⟩) y.kids.length yc)) := (World.cell?_alloc_at (w := w2) _ _ _ _ rfl).trans (by simp)
                go_wp2_with fail
                with_reducible refine (HPC.out _ BY.out).mono ?_
                rintro e w3 ⟨b3, rfl, hp3, hb3⟩
                have B3 := Lib.hid (BY.out.trans (hb3.mono BY.out.size))
                have R3 := Lib.hid (RY.out.trans (hb3.mono RY.out.size))
                have S3 := Lib.hid hb3
                cases b3 with
                | false =>
                  clear hp3 hb3
                  go_wp2_with fail
                  go_ret
                  exact ⟨_, rfl, fun e => Bool.noConfusion e, B3.out⟩
                | true =>
                  have P3 := Lib.hid (hp3 rfl)
                  clear m0 m1 m2 m3 n0 n1 n2 n3 p0 p1 p2 p3 d0 d1 d2 d3
                  clear hp3 hb3
                  obtain ⟨hcw, hfw⟩ := bcell B3.out
                  have m0 : w3.cell? ⟨b, o, none⟩ = some (.string x.kind) := (hcw _ _ hbl).trans x0
                  have m1 : w3.cell? ⟨b, o + 1, none⟩ = some (.string x.text) := (hcw _ _ hbl).trans x1
                  have m2 : w3.cell? ⟨b, o + 2, none⟩ = some (.int .i64 x.num) := (hcw _ _ hbl).trans x2
                  have m3 : w3.cell? ⟨b, o + 3, none⟩ = some (.slice xa x.kids.length xc) := (hcw _ _ hbl).trans x3
                  have n0 : w3.cell? ⟨b, o + 4, none⟩ = some (.string y.kind) := (hcw _ _ hbl).trans y0
                  have n1 : w3.cell? ⟨b, o + 4 + 1, none⟩ = some (.string y.text) := (hcw _ _ hbl).trans y1
                  have n2 : w3.cell? ⟨b, o + 4 + 2, none⟩ = some (.int .i64 y.num) := (hcw _ _ hbl).trans y2
                  have n3 : w3.cell? ⟨b, o + 4 + 3, none⟩ = some (.slice (some ⟨bz, oz, none⟩) y.kids.length yc) := (hcw _ _ hbl).trans y3
                  have p0 : w3.cell? ⟨bz, oz, none⟩ = some (.string z'.kind) := (hcw _ _ hbz).trans c0
                  have p1 : w3.cell? ⟨bz, oz + 1, none⟩ = some (.string z'.text) := (hcw _ _ hbz).trans c1
                  have p2 : w3.cell? ⟨bz, oz + 2, none⟩ = some (.int .i64 z'.num) := (hcw _ _ hbz).trans c2
                  have p3 : w3.cell? ⟨bz, oz + 3, none⟩ = some (.slice za z'.kids.length zc) := (hcw _ _ hbz).trans c3
                  have d0 : w3.cell? ⟨w.heap.size, 0, none⟩ = some (.string t.kind) := ((bcell R3.out).1 w.heap.size 0 (by simp)).trans D0.out
                  have d1 : w3.cell? ⟨w.heap.size, 1, none⟩ = some (.string t.text) := ((bcell R3.out).1 w.heap.size 1 (by simp)).trans D1.out
                  have d2 : w3.cell? ⟨w.heap.size, 2, none⟩ = some (.int .i64 t.num) := ((bcell R3.out).1 w.heap.size 2 (by simp)).trans D2.out
                  have d3 : w3.cell? ⟨w.heap.size, 3, none⟩ = some (.slice (some ⟨b, o, none⟩) t.kids.length c) := ((bcell R3.out).1 w.heap.size 3 (by simp)).trans D3.out
                  have e0 : w3.cell? ⟨w2.heap.size, 0, none⟩ = some (.string y.kind) := ((bcell S3.out).1 w2.heap.size 0 (by simp)).trans K0.out
                  have e1 : w3.cell? ⟨w2.heap.size, 1, none⟩ = some (.string y.text) := ((bcell S3.out).1 w2.heap.size 1 (by simp)).trans K1.out
                  have e2 : w3.cell? ⟨w2.heap.size, 2, none⟩ = some (.int .i64 y.num) := ((bcell S3.out).1 w2.heap.size 2 (by simp)).trans K2.out
                  have e3 : w3.cell? ⟨w2.heap.size, 3, none⟩ = some (.slice (some ⟨bz, oz, none⟩) y.kids.length yc) := ((bcell S3.out).1 w2.heap.size 3 (by simp)).trans K3.out
                  clear hcw hfw
                  go_wp2_with fail
                  refine (returnsC d x _ _ ⟨HI.out.tabs.below B3.out, HX.out.below B3.out⟩ P2.out).mono ?_
                  rintro e w4 ⟨b4, rfl, _, hb4⟩
                  have B4 := Lib.hid (B3.out.trans (hb4.mono B3.out.size))
                  have R4 := Lib.hid (R3.out.trans (hb4.mono R3.out.size))
                  have S4 := Lib.hid (S3.out.trans (hb4.mono S3.out.size))
                  clear m0 m1 m2 m3 n0 n1 n2 n3 p0 p1 p2 p3 d0 d1 d2 d3 e0 e1 e2 e3
                  clear hb4
                  obtain ⟨hcw, hfw⟩ := bcell B4.out
                  have m0 : w4.cell? ⟨b, o, none⟩ = some (.string x.kind) := (hcw _ _ hbl).trans x0
                  have m1 : w4.cell? ⟨b, o + 1, none⟩ = some (.string x.text) := (hcw _ _ hbl).trans x1
                  have m2 : w4.cell? ⟨b, o + 2, none⟩ = some (.int .i64 x.num) := (hcw _ _ hbl).trans x2
                  have m3 : w4.cell? ⟨b, o + 3, none⟩ = some (.slice xa x.kids.length xc) := (hcw _ _ hbl).trans x3
                  have n0 : w4.cell? ⟨b, o + 4, none⟩ = some (.string y.kind) := (hcw _ _ hbl).trans y0
                  have n1 : w4.cell? ⟨b, o + 4 + 1, none⟩ = some (.string y.text) := (hcw _ _ hbl).trans y1
                  have n2 : w4.cell? ⟨b, o + 4 + 2, none⟩ = some (.int .i64 y.num) := (hcw _ _ hbl).trans y2
                  have n3 : w4.cell? ⟨b, o + 4 + 3, none⟩ = some (.slice (some ⟨bz, oz, none⟩) y.kids.length yc) := (hcw _ _ hbl).trans y3
                  have p0 : w4.cell? ⟨bz, oz, none⟩ = some (.string z'.kind) := (hcw _ _ hbz).trans c0
                  have p1 : w4.cell? ⟨bz, oz + 1, none⟩ = some (.string z'.text) := (hcw _ _ hbz).trans c1
                  have p2 : w4.cell? ⟨bz, oz + 2, none⟩ = some (.int .i64 z'.num) := (hcw _ _ hbz).trans c2
                  have p3 : w4.cell? ⟨bz, oz + 3, none⟩ = some (.slice za z'.kids.length zc) := (hcw _ _ hbz).trans c3
                  have d0 : w4.cell? ⟨w.heap.size, 0, none⟩ = some (.string t.kind) := ((bcell R4.out).1 w.heap.size 0 (by simp)).trans D0.out
                  have d1 : w4.cell? ⟨w.heap.size, 1, none⟩ = some (.string t.text) := ((bcell R4.out).1 w.heap.size 1 (by simp)).trans D1.out
                  have d2 : w4.cell? ⟨w.heap.size, 2, none⟩ = some (.int .i64 t.num) := ((bcell R4.out).1 w.heap.size 2 (by simp)).trans D2.out
                  have d3 : w4.cell? ⟨w.heap.size, 3, none⟩ = some (.slice (some ⟨b, o, none⟩) t.kids.length c) := ((bcell R4.out).1 w.heap.size 3 (by simp)).trans D3.out
                  have e0 : w4.cell? ⟨w2.heap.size, 0, none⟩ = some (.string y.kind) := ((bcell S4.out).1 w2.heap.size 0 (by simp)).trans K0.out
                  have e1 : w4.cell? ⟨w2.heap.size, 1, none⟩ = some (.string y.text) := ((bcell S4.out).1 w2.heap.size 1 (by simp)).trans K1.out
                  have e2 : w4.cell? ⟨w2.heap.size, 2, none⟩ = some (.int .i64 y.num) := ((bcell S4.out).1 w2.heap.size 2 (by simp)).trans K2.out
                  have e3 : w4.cell? ⟨w2.heap.size, 3, none⟩ = some (.slice (some ⟨bz, oz, none⟩) y.kids.length yc) := ((bcell S4.out).1 w2.heap.size 3 (by simp)).trans K3.out
                  clear hcw hfw
                  cases b4 with
                  | true =>
                    go_wp2_with fail
                    refine (HR.out z' _ _ ⟨HI.out.tabs.below B4.out, HZ.out.below B4.out⟩).mono ?_
                    rintro e w5 ⟨b5, rfl, hp5, hb5⟩
                    have B5 := Lib.hid (B4.out.trans (hb5.mono B4.out.size))
                    have R5 := Lib.hid (R4.out.trans (hb5.mono R4.out.size))
                    have S5 := Lib.hid (S4.out.trans (hb5.mono S4.out.size))
                    cases b5 with
                    | false =>
                      clear hp5 hb5
                      go_wp2_with fail
                      go_ret
                      exact ⟨_, rfl, fun e => Bool.noConfusion e, B5.out⟩
                    | true =>
                      have P5 := Lib.hid (hp5 rfl)
                      clear m0 m1 m2 m3 n0 n1 n2 n3 p0 p1 p2 p3 d0 d1 d2 d3 e0 e1 e2 e3
                      clear hp5 hb5
                      obtain ⟨hcw, hfw⟩ := bcell B5.out
                      have m0 : w5.cell? ⟨b, o, none⟩ = some (.string x.kind) := (hcw _ _ hbl).trans x0
                      have m1 : w5.cell? ⟨b, o + 1, none⟩ = some (.string x.text) := (hcw _ _ hbl).trans x1
                      have m2 : w5.cell? ⟨b, o + 2, none⟩ = some (.int .i64 x.num) := (hcw _ _ hbl).trans x2
                      have m3 : w5.cell? ⟨b, o + 3, none⟩ = some (.slice xa x.kids.length xc) := (hcw _ _ hbl).trans x3
                      have n0 : w5.cell? ⟨b, o + 4, none⟩ = some (.string y.kind) := (hcw _ _ hbl).trans y0
                      have n1 : w5.cell? ⟨b, o + 4 + 1, none⟩ = some (.string y.text) := (hcw _ _ hbl).trans y1
                      have n2 : w5.cell? ⟨b, o + 4 + 2, none⟩ = some (.int .i64 y.num) := (hcw _ _ hbl).trans y2
                      have n3 : w5.cell? ⟨b, o + 4 + 3, none⟩ = some (.slice (some ⟨bz, oz, none⟩) y.kids.length yc) := (hcw _ _ hbl).trans y3
                      have p0 : w5.cell? ⟨bz, oz, none⟩ = some (.string z'.kind) := (hcw _ _ hbz).trans c0
                      have p1 : w5.cell? ⟨bz, oz + 1, none⟩ = some (.string z'.text) := (hcw _ _ hbz).trans c1
                      have p2 : w5.cell? ⟨bz, oz + 2, none⟩ = some (.int .i64 z'.num) := (hcw _ _ hbz).trans c2
                      have p3 : w5.cell? ⟨bz, oz + 3, none⟩ = some (.slice za z'.kids.length zc) := (hcw _ _ hbz).trans c3
                      have d0 : w5.cell? ⟨w.heap.size, 0, none⟩ = some (.string t.kind) := ((bcell R5.out).1 w.heap.size 0 (by simp)).trans D0.out
                      have d1 : w5.cell? ⟨w.heap.size, 1, none⟩ = some (.string t.text) := ((bcell R5.out).1 w.heap.size 1 (by simp)).trans D1.out
                      have d2 : w5.cell? ⟨w.heap.size, 2, none⟩ = some (.int .i64 t.num) := ((bcell R5.out).1 w.heap.size 2 (by simp)).trans D2.out
                      have d3 : w5.cell? ⟨w.heap.size, 3, none⟩ = some (.slice (some ⟨b, o, none⟩) t.kids.length c) := ((bcell R5.out).1 w.heap.size 3 (by simp)).trans D3.out
                      have e0 : w5.cell? ⟨w2.heap.size, 0, none⟩ = some (.string y.kind) := ((bcell S5.out).1 w2.heap.size 0 (by simp)).trans K0.out
                      have e1 : w5.cell? ⟨w2.heap.size, 1, none⟩ = some (.string y.text) := ((bcell S5.out).1 w2.heap.size 1 (by simp)).trans K1.out
                      have e2 : w5.cell? ⟨w2.heap.size, 2, none⟩ = some (.int .i64 y.num) := ((bcell S5.out).1 w2.heap.size 2 (by simp)).trans K2.out
                      have e3 : w5.cell? ⟨w2.heap.size, 3, none⟩ = some (.slice (some ⟨bz, oz, none⟩) y.kids.length yc) := ((bcell S5.out).1 w2.heap.size 3 (by simp)).trans K3.out
                      clear hcw hfw
                      go_wp2_with fail
                      refine (turnedC (d - 1) z' _ _ (HZ.out.below B5.out)).mono ?_
                      rintro e w6 ⟨b6, rfl, _, hb6⟩
                      have B6 := Lib.hid (B5.out.trans (hb6.mono B5.out.size))
                      have R6 := Lib.hid (R5.out.trans (hb6.mono R5.out.size))
                      have S6 := Lib.hid (S5.out.trans (hb6.mono S5.out.size))
                      clear hb6
                      cases b6
                      · go_wp2_with fail
                        go_ret
                        exact ⟨_, rfl, fun _ => fun_fine E.out P1.out KE.out P2.out (bFunctionType (a := y.kind) j1) (empty_of_nil j2) (by simpa using j3) EZ.out P5.out.1 P3.out HY.out, B6.out⟩
                      · go_wp2_with fail
                        go_ret
                        exact ⟨_, rfl, fun e => Bool.noConfusion e, B6.out⟩
                  | false =>
                    go_wp2_with fail
                    with_reducible refine (SM.out _ B4.out).mono ?_
                    rintro e w5 ⟨b5, rfl, hp5, hb5⟩
                    have B5 := Lib.hid (B4.out.trans (hb5.mono B4.out.size))
                    cases b5 with
                    | false =>
                      clear hp5 hb5
                      go_wp2_with fail
                      go_ret
                      exact ⟨_, rfl, fun e => Bool.noConfusion e, B5.out⟩
                    | true =>
                      have P5 := Lib.hid (hp5.1 rfl)
                      clear hp5 hb5
                      go_wp2_with fail
                      go_ret
                      exact ⟨_, rfl, fun _ => fun_fine E.out P1.out KE.out P2.out (bFunctionType (a := y.kind) j1) (empty_of_nil j2) (by simpa using j3) EZ.out (good_nil P5.out HZ.out) P3.out HY.out, B5.out⟩
          · skip
            obtain rfl : yc = 1 := by omega
            have HL0 : Hid (l = []) := List.eq_nil_of_length_eq_zero (by have := HLL.out; omega)
            have HPC : Hid (∀ w1, Below w.heap.size w w1 → Calls Tryz.prog 23 #[.slice (some ⟨bz, oz, none⟩) 0 0] w1 (Ans w1 (∀ v ∈ l, Fine (d - 1) v))) := fun w1 hb =>
              HP.out l _ w1 ⟨HI.out.tabs.below hb, some ⟨bz, oz, none⟩, 0, by rw [HL0.out]; rfl, by rw [HL0.out]; simp, by omega, fun i z hz => by rw [HL0.out] at hz; simp at hz⟩
            have R : Hid (Below (w.alloc (.cells #[.string t.kind, .string t.text, .int .i64 t.num, .slice (some ⟨b, o, none⟩) t.kids.length c] 24)).heap.size (w.alloc (.cells #[.string t.kind, .string t.text, .int .i64 t.num, .slice (some ⟨b, o, none⟩) t.kids.length c] 24)) (w.alloc (.cells #[.string t.kind, .string t.text, .int .i64 t.num, .slice (some ⟨b, o, none⟩) t.kids.length c] 24))) := Below.refl _ _
            have D0 : Hid ((w.alloc (.cells #[.string t.kind, .string t.text, .int .i64 t.num, .slice (some ⟨b, o, none⟩) t.kids.length c] 24)).cell? ⟨w.heap.size, 0, none⟩ = some (.string t.kind)) := (World.cell?_alloc_at (w := w) _ _ _ _ rfl).trans (by simp)
            have D1 : Hid ((w.alloc (.cells #[.string t.kind, .string t.text, .int .i64 t.num, .slice (some ⟨b, o, none⟩) t.kids.length c] 24)).cell? ⟨w.heap.size, 1, none⟩ = some (.string t.text)) := (World.cell?_alloc_at (w := w) _ _ _ _ rfl).trans (by simp)
            have D2 : Hid ((w.alloc (.cells #[.string t.kind, .string t.text, .int .i64 t.num, .slice (some ⟨b, o, none⟩) t.kids.length c] 24)).cell? ⟨w.heap.size, 2, none⟩ = some (.int .i64 t.num)) := (World.cell?_alloc_at (w := w) _ _ _ _ rfl).trans (by simp)
            have D3 : Hid ((w.alloc (.cells #[.string t.kind, .string t.text, .int .i64 t.num, .slice (some ⟨b, o, none⟩) t.kids.length c] 24)).cell? ⟨w.heap.size, 3, none⟩ = some (.slice (some ⟨b, o, none⟩) t.kids.length c)) := (World.cell?_alloc_at (w := w) _ _ _ _ rfl).trans (by simp)
            go_enter Tryz.func12, Tryz.ntmps12
            go_wp2_with fail
            refine (PLHN.out _ B.out).mono ?_
            rintro e w1 ⟨b1, rfl, hp1, hb1⟩
            have B1 := Lib.hid (B.out.trans (hb1.mono B.out.size))
            have R1 := Lib.hid (R.out.trans (hb1.mono R.out.size))
            cases b1 with
            | false =>
              clear hp1 hb1
              go_wp2_with fail
              go_ret
              exact ⟨_, rfl, fun e => Bool.noConfusion e, B1.out⟩
            | true =>
              have P1 := Lib.hid (hp1 rfl)
              clear hp1 hb1
              obtain ⟨hcw, hfw⟩ := bcell B1.out
              have m0 : w1.cell? ⟨b, o, none⟩ = some (.string x.kind) := (hcw _ _ hbl).trans x0
              have m1 : w1.cell? ⟨b, o + 1, none⟩ = some (.string x.text) := (hcw _ _ hbl).trans x1
              have m2 : w1.cell? ⟨b, o + 2, none⟩ = some (.int .i64 x.num) := (hcw _ _ hbl).trans x2
              have m3 : w1.cell? ⟨b, o + 3, none⟩ = some (.slice xa x.kids.length xc) := (hcw _ _ hbl).trans x3
              have n0 : w1.cell? ⟨b, o + 4, none⟩ = some (.string y.kind) := (hcw _ _ hbl).trans y0
              have n1 : w1.cell? ⟨b, o + 4 + 1, none⟩ = some (.string y.text) := (hcw _ _ hbl).trans y1
              have n2 : w1.cell? ⟨b, o + 4 + 2, none⟩ = some (.int .i64 y.num) := (hcw _ _ hbl).trans y2
              have n3 : w1.cell? ⟨b, o + 4 + 3, none⟩ = some (.slice (some ⟨bz, oz, none⟩) y.kids.length 1) := (hcw _ _ hbl).trans y3
              have p0 : w1.cell? ⟨bz, oz, none⟩ = some (.string z'.kind) := (hcw _ _ hbz).trans c0
              have p1 : w1.cell? ⟨bz, oz + 1, none⟩ = some (.string z'.text) := (hcw _ _ hbz).trans c1
              have p2 : w1.cell? ⟨bz, oz + 2, none⟩ = some (.int .i64 z'.num) := (hcw _ _ hbz).trans c2
              have p3 : w1.cell? ⟨bz, oz + 3, none⟩ = some (.slice za z'.kids.length zc) := (hcw _ _ hbz).trans c3
              have d0 : w1.cell? ⟨w.heap.size, 0, none⟩ = some (.string t.kind) := ((bcell R1.out).1 w.heap.size 0 (by simp)).trans D0.out
              have d1 : w1.cell? ⟨w.heap.size, 1, none⟩ = some (.string t.text) := ((bcell R1.out).1 w.heap.size 1 (by simp)).trans D1.out
              have d2 : w1.cell? ⟨w.heap.size, 2, none⟩ = some (.int .i64 t.num) := ((bcell R1.out).1 w.heap.size 2 (by simp)).trans D2.out
              have d3 : w1.cell? ⟨w.heap.size, 3, none⟩ = some (.slice (some ⟨b, o, none⟩) t.kids.length c) := ((bcell R1.out).1 w.heap.size 3 (by simp)).trans D3.out
              clear hcw hfw
              go_wp2_with fail
              refine (HFN.out x _ _ ⟨HI.out.tabs.below B1.out, HX.out.below B1.out⟩).mono ?_
              rintro e w2 ⟨b2, rfl, hp2, hb2⟩
              have B2 := Lib.hid (B1.out.trans (hb2.mono B1.out.size))
              have R2 := Lib.hid (R1.out.trans (hb2.mono R1.out.size))
              cases b2 with
              | false =>
                clear hp2 hb2
                go_wp2_with fail
                go_ret
                exact ⟨_, rfl, fun e => Bool.noConfusion e, B2.out⟩
              | true =>
                have P2 := Lib.hid (hp2 rfl)
                clear m0 m1 m2 m3 n0 n1 n2 n3 p0 p1 p2 p3 d0 d1 d2 d3
                clear hp2 hb2
                obtain ⟨hcw, hfw⟩ := bcell B2.out
                have m0 : w2.cell? ⟨b, o, none⟩ = some (.string x.kind) := (hcw _ _ hbl).trans x0
                have m1 : w2.cell? ⟨b, o + 1, none⟩ = some (.string x.text) := (hcw _ _ hbl).trans x1
                have m2 : w2.cell? ⟨b, o + 2, none⟩ = some (.int .i64 x.num) := (hcw _ _ hbl).trans x2
                have m3 : w2.cell? ⟨b, o + 3, none⟩ = some (.slice xa x.kids.length xc) := (hcw _ _ hbl).trans x3
                have n0 : w2.cell? ⟨b, o + 4, none⟩ = some (.string y.kind) := (hcw _ _ hbl).trans y0
                have n1 : w2.cell? ⟨b, o + 4 + 1, none⟩ = some (.string y.text) := (hcw _ _ hbl).trans y1
                have n2 : w2.cell? ⟨b, o + 4 + 2, none⟩ = some (.int .i64 y.num) := (hcw _ _ hbl).trans y2
                have n3 : w2.cell? ⟨b, o + 4 + 3, none⟩ = some (.slice (some ⟨bz, oz, none⟩) y.kids.length 1) := (hcw _ _ hbl).trans y3
                have p0 : w2.cell? ⟨bz, oz, none⟩ = some (.string z'.kind) := (hcw _ _ hbz).trans c0
                have p1 : w2.cell? ⟨bz, oz + 1, none⟩ = some (.string z'.text) := (hcw _ _ hbz).trans c1
                have p2 : w2.cell? ⟨bz, oz + 2, none⟩ = some (.int .i64 z'.num) := (hcw _ _ hbz).trans c2
                have p3 : w2.cell? ⟨bz, oz + 3, none⟩ = some (.slice za z'.kids.length zc) := (hcw _ _ hbz).trans c3
                have d0 : w2.cell? ⟨w.heap.size, 0, none⟩ = some (.string t.kind) := ((bcell R2.out).1 w.heap.size 0 (by simp)).trans D0.out
                have d1 : w2.cell? ⟨w.heap.size, 1, none⟩ = some (.string t.text) := ((bcell R2.out).1 w.heap.size 1 (by simp)).trans D1.out
                have d2 : w2.cell? ⟨w.heap.size, 2, none⟩ = some (.int .i64 t.num) := ((bcell R2.out).1 w.heap.size 2 (by simp)).trans D2.out
                have d3 : w2.cell? ⟨w.heap.size, 3, none⟩ = some (.slice (some ⟨b, o, none⟩) t.kids.length c) := ((bcell R2.out).1 w.heap.size 3 (by simp)).trans D3.out
                clear hcw hfw
                have BY := Lib.hid (B2.out.trans ((below1 w2 (.cells #[.string y.kind, .string y.text, .int .i64 y.num, .slice (some ⟨bz, oz, none⟩) y.kids.length 1] 24)).mono B2.out.size))
                have RY := Lib.hid (R2.out.trans ((below1 w2 (.cells #[.string y.kind, .string y.text, .int .i64 y.num, .slice (some ⟨bz, oz, none⟩) y.kids.length 1] 24)).mono R2.out.size))
                have le : w.heap.size < w2.heap.size := by have := R2.out.size; simp at this; omega
                have lbe : b < w2.heap.size := by omega
                have K0 : Hid ((w2.alloc (.cells #[.string y.kind, .string y.text, .int .i64 y.num, .slice (some ⟨bz, oz, none⟩) y.kids.length 1] 24)).cell? ⟨w2.heap.size, 0, none⟩ = some (.string y.kind)) := (World.cell?_alloc_at (w := w2) _ _ _ _ rfl).trans (by simp)
                have K1 : Hid ((w2.alloc (.cells #[.string y.kind, .string y.text, .int .i64 y.num, .slice (some ⟨bz, oz, none⟩) y.kids.length 1] 24)).cell? ⟨w2.heap.size, 1, none⟩ = some (.string y.text)) := (World.cell?_alloc_at (w := w2) _ _ _ _ rfl).trans (by simp)
                have K2 : Hid ((w2.alloc (.cells #[.string y.kind, .string y.text, .int .i64 y.num, .slice (some ⟨bz, oz, none⟩) y.kids.length 1] 24)).cell? ⟨w2.heap.size, 2, none⟩ = some (.int .i64 y.num)) := (World.cell?_alloc_at (w := w2) _ _ _ _ rfl).trans (by simp)
                have K3 : Hid ((w2.alloc (.cells #[.string y.kind, .string y.text, .int .i64 y.num, .slice (some ⟨bz, oz, none⟩) y.kids.length 1] 24)).cell? ⟨w2.heap.size, 3, none⟩ = some (.slice (some ⟨bz, oz, none⟩) y.kids.length 1)) := (World.cell?_alloc_at (w := w2) _ _ _ _ rfl).trans (by simp)
                go_wp2_with fail
                with_reducible refine (HPC.out _ BY.out).mono ?_
                rintro e w3 ⟨b3, rfl, hp3, hb3⟩
                have B3 := Lib.hid (BY.out.trans (hb3.mono BY.out.size))
                have R3 := Lib.hid (RY.out.trans (hb3.mono RY.out.size))
                have S3 := Lib.hid hb3
                cases b3 with
                | false =>
                  clear hp3 hb3
                  go_wp2_with fail
                  go_ret
                  exact ⟨_, rfl, fun e => Bool.noConfusion e, B3.out⟩
                | true =>
                  have P3 := Lib.hid (hp3 rfl)
                  clear m0 m1 m2 m3 n0 n1 n2 n3 p0 p1 p2 p3 d0 d1 d2 d3
                  clear hp3 hb3
                  obtain ⟨hcw, hfw⟩ := bcell B3.out
                  have m0 : w3.cell? ⟨b, o, none⟩ = some (.string x.kind) := (hcw _ _ hbl).trans x0
                  have m1 : w3.cell? ⟨b, o + 1, none⟩ = some (.string x.text) := (hcw _ _ hbl).trans x1
                  have m2 : w3.cell? ⟨b, o + 2, none⟩ = some (.int .i64 x.num) := (hcw _ _ hbl).trans x2
                  have m3 : w3.cell? ⟨b, o + 3, none⟩ = some (.slice xa x.kids.length xc) := (hcw _ _ hbl).trans x3
                  have n0 : w3.cell? ⟨b, o + 4, none⟩ = some (.string y.kind) := (hcw _ _ hbl).trans y0
                  have n1 : w3.cell? ⟨b, o + 4 + 1, none⟩ = some (.string y.text) := (hcw _ _ hbl).trans y1
                  have n2 : w3.cell? ⟨b, o + 4 + 2, none⟩ = some (.int .i64 y.num) := (hcw _ _ hbl).trans y2
                  have n3 : w3.cell? ⟨b, o + 4 + 3, none⟩ = some (.slice (some ⟨bz, oz, none⟩) y.kids.length 1) := (hcw _ _ hbl).trans y3
                  have p0 : w3.cell? ⟨bz, oz, none⟩ = some (.string z'.kind) := (hcw _ _ hbz).trans c0
                  have p1 : w3.cell? ⟨bz, oz + 1, none⟩ = some (.string z'.text) := (hcw _ _ hbz).trans c1
                  have p2 : w3.cell? ⟨bz, oz + 2, none⟩ = some (.int .i64 z'.num) := (hcw _ _ hbz).trans c2
                  have p3 : w3.cell? ⟨bz, oz + 3, none⟩ = some (.slice za z'.kids.length zc) := (hcw _ _ hbz).trans c3
                  have d0 : w3.cell? ⟨w.heap.size, 0, none⟩ = some (.string t.kind) := ((bcell R3.out).1 w.heap.size 0 (by simp)).trans D0.out
                  have d1 : w3.cell? ⟨w.heap.size, 1, none⟩ = some (.string t.text) := ((bcell R3.out).1 w.heap.size 1 (by simp)).trans D1.out
                  have d2 : w3.cell? ⟨w.heap.size, 2, none⟩ = some (.int .i64 t.num) := ((bcell R3.out).1 w.heap.size 2 (by simp)).trans D2.out
                  have d3 : w3.cell? ⟨w.heap.size, 3, none⟩ = some (.slice (some ⟨b, o, none⟩) t.kids.length c) := ((bcell R3.out).1 w.heap.size 3 (by simp)).trans D3.out
                  have e0 : w3.cell? ⟨w2.heap.size, 0, none⟩ = some (.string y.kind) := ((bcell S3.out).1 w2.heap.size 0 (by simp)).trans K0.out
                  have e1 : w3.cell? ⟨w2.heap.size, 1, none⟩ = some (.string y.text) := ((bcell S3.out).1 w2.heap.size 1 (by simp)).trans K1.out
                  have e2 : w3.cell? ⟨w2.heap.size, 2, none⟩ = some (.int .i64 y.num) := ((bcell S3.out).1 w2.heap.size 2 (by simp)).trans K2.out
                  have e3 : w3.cell? ⟨w2.heap.size, 3, none⟩ = some (.slice (some ⟨bz, oz, none⟩) y.kids.length 1) := ((bcell S3.out).1 w2.heap.size 3 (by simp)).trans K3.out
                  clear hcw hfw
                  go_wp2_with fail
                  refine (returnsC d x _ _ ⟨HI.out.tabs.below B3.out, HX.out.below B3.out⟩ P2.out).mono ?_
                  rintro e w4 ⟨b4, rfl, _, hb4⟩
                  have B4 := Lib.hid (B3.out.trans (hb4.mono B3.out.size))
                  have R4 := Lib.hid (R3.out.trans (hb4.mono R3.out.size))
                  have S4 := Lib.hid (S3.out.trans (hb4.mono S3.out.size))
                  clear m0 m1 m2 m3 n0 n1 n2 n3 p0 p1 p2 p3 d0 d1 d2 d3 e0 e1 e2 e3
                  clear hb4
                  obtain ⟨hcw, hfw⟩ := bcell B4.out
                  have m0 : w4.cell? ⟨b, o, none⟩ = some (.string x.kind) := (hcw _ _ hbl).trans x0
                  have m1 : w4.cell? ⟨b, o + 1, none⟩ = some (.string x.text) := (hcw _ _ hbl).trans x1
                  have m2 : w4.cell? ⟨b, o + 2, none⟩ = some (.int .i64 x.num) := (hcw _ _ hbl).trans x2
                  have m3 : w4.cell? ⟨b, o + 3, none⟩ = some (.slice xa x.kids.length xc) := (hcw _ _ hbl).trans x3
                  have n0 : w4.cell? ⟨b, o + 4, none⟩ = some (.string y.kind) := (hcw _ _ hbl).trans y0
                  have n1 : w4.cell? ⟨b, o + 4 + 1, none⟩ = some (.string y.text) := (hcw _ _ hbl).trans y1
                  have n2 : w4.cell? ⟨b, o + 4 + 2, none⟩ = some (.int .i64 y.num) := (hcw _ _ hbl).trans y2
                  have n3 : w4.cell? ⟨b, o + 4 + 3, none⟩ = some (.slice (some ⟨bz, oz, none⟩) y.kids.length 1) := (hcw _ _ hbl).trans y3
                  have p0 : w4.cell? ⟨bz, oz, none⟩ = some (.string z'.kind) := (hcw _ _ hbz).trans c0
                  have p1 : w4.cell? ⟨bz, oz + 1, none⟩ = some (.string z'.text) := (hcw _ _ hbz).trans c1
                  have p2 : w4.cell? ⟨bz, oz + 2, none⟩ = some (.int .i64 z'.num) := (hcw _ _ hbz).trans c2
                  have p3 : w4.cell? ⟨bz, oz + 3, none⟩ = some (.slice za z'.kids.length zc) := (hcw _ _ hbz).trans c3
                  have d0 : w4.cell? ⟨w.heap.size, 0, none⟩ = some (.string t.kind) := ((bcell R4.out).1 w.heap.size 0 (by simp)).trans D0.out
                  have d1 : w4.cell? ⟨w.heap.size, 1, none⟩ = some (.string t.text) := ((bcell R4.out).1 w.heap.size 1 (by simp)).trans D1.out
                  have d2 : w4.cell? ⟨w.heap.size, 2, none⟩ = some (.int .i64 t.num) := ((bcell R4.out).1 w.heap.size 2 (by simp)).trans D2.out
                  have d3 : w4.cell? ⟨w.heap.size, 3, none⟩ = some (.slice (some ⟨b, o, none⟩) t.kids.length c) := ((bcell R4.out).1 w.heap.size 3 (by simp)).trans D3.out
                  have e0 : w4.cell? ⟨w2.heap.size, 0, none⟩ = some (.string y.kind) := ((bcell S4.out).1 w2.heap.size 0 (by simp)).trans K0.out
                  have e1 : w4.cell? ⟨w2.heap.size, 1, none⟩ = some (.string y.text) := ((bcell S4.out).1 w2.heap.size 1 (by simp)).trans K1.out
                  have e2 : w4.cell? ⟨w2.heap.size, 2, none⟩ = some (.int .i64 y.num) := ((bcell S4.out).1 w2.heap.size 2 (by simp)).trans K2.out
                  have e3 : w4.cell? ⟨w2.heap.size, 3, none⟩ = some (.slice (some ⟨bz, oz, none⟩) y.kids.length 1) := ((bcell S4.out).1 w2.heap.size 3 (by simp)).trans K3.out
                  clear hcw hfw
                  cases b4 with
                  | true =>
                    go_wp2_with fail
                    refine (HR.out z' _ _ ⟨HI.out.tabs.below B4.out, HZ.out.below B4.out⟩).mono ?_
                    rintro e w5 ⟨b5, rfl, hp5, hb5⟩
                    have B5 := Lib.hid (B4.out.trans (hb5.mono B4.out.size))
                    have R5 := Lib.hid (R4.out.trans (hb5.mono R4.out.size))
                    have S5 := Lib.hid (S4.out.trans (hb5.mono S4.out.size))
                    cases b5 with
                    | false =>
                      clear hp5 hb5
                      go_wp2_with fail
                      go_ret
                      exact ⟨_, rfl, fun e => Bool.noConfusion e, B5.out⟩
                    | true =>
                      have P5 := Lib.hid (hp5 rfl)
                      clear m0 m1 m2 m3 n0 n1 n2 n3 p0 p1 p2 p3 d0 d1 d2 d3 e0 e1 e2 e3
                      clear hp5 hb5
                      obtain ⟨hcw, hfw⟩ := bcell B5.out
                      have m0 : w5.cell? ⟨b, o, none⟩ = some (.string x.kind) := (hcw _ _ hbl).trans x0
                      have m1 : w5.cell? ⟨b, o + 1, none⟩ = some (.string x.text) := (hcw _ _ hbl).trans x1
                      have m2 : w5.cell? ⟨b, o + 2, none⟩ = some (.int .i64 x.num) := (hcw _ _ hbl).trans x2
                      have m3 : w5.cell? ⟨b, o + 3, none⟩ = some (.slice xa x.kids.length xc) := (hcw _ _ hbl).trans x3
                      have n0 : w5.cell? ⟨b, o + 4, none⟩ = some (.string y.kind) := (hcw _ _ hbl).trans y0
                      have n1 : w5.cell? ⟨b, o + 4 + 1, none⟩ = some (.string y.text) := (hcw _ _ hbl).trans y1
                      have n2 : w5.cell? ⟨b, o + 4 + 2, none⟩ = some (.int .i64 y.num) := (hcw _ _ hbl).trans y2
                      have n3 : w5.cell? ⟨b, o + 4 + 3, none⟩ = some (.slice (some ⟨bz, oz, none⟩) y.kids.length 1) := (hcw _ _ hbl).trans y3
                      have p0 : w5.cell? ⟨bz, oz, none⟩ = some (.string z'.kind) := (hcw _ _ hbz).trans c0
                      have p1 : w5.cell? ⟨bz, oz + 1, none⟩ = some (.string z'.text) := (hcw _ _ hbz).trans c1
                      have p2 : w5.cell? ⟨bz, oz + 2, none⟩ = some (.int .i64 z'.num) := (hcw _ _ hbz).trans c2
                      have p3 : w5.cell? ⟨bz, oz + 3, none⟩ = some (.slice za z'.kids.length zc) := (hcw _ _ hbz).trans c3
                      have d0 : w5.cell? ⟨w.heap.size, 0, none⟩ = some (.string t.kind) := ((bcell R5.out).1 w.heap.size 0 (by simp)).trans D0.out
                      have d1 : w5.cell? ⟨w.heap.size, 1, none⟩ = some (.string t.text) := ((bcell R5.out).1 w.heap.size 1 (by simp)).trans D1.out
                      have d2 : w5.cell? ⟨w.heap.size, 2, none⟩ = some (.int .i64 t.num) := ((bcell R5.out).1 w.heap.size 2 (by simp)).trans D2.out
                      have d3 : w5.cell? ⟨w.heap.size, 3, none⟩ = some (.slice (some ⟨b, o, none⟩) t.kids.length c) := ((bcell R5.out).1 w.heap.size 3 (by simp)).trans D3.out
                      have e0 : w5.cell? ⟨w2.heap.size, 0, none⟩ = some (.string y.kind) := ((bcell S5.out).1 w2.heap.size 0 (by simp)).trans K0.out
                      have e1 : w5.cell? ⟨w2.heap.size, 1, none⟩ = some (.string y.text) := ((bcell S5.out).1 w2.heap.size 1 (by simp)).trans K1.out
                      have e2 : w5.cell? ⟨w2.heap.size, 2, none⟩ = some (.int .i64 y.num) := ((bcell S5.out).1 w2.heap.size 2 (by simp)).trans K2.out
                      have e3 : w5.cell? ⟨w2.heap.size, 3, none⟩ = some (.slice (some ⟨bz, oz, none⟩) y.kids.length 1) := ((bcell S5.out).1 w2.heap.size 3 (by simp)).trans K3.out
                      clear hcw hfw
                      go_wp2_with fail
                      refine (turnedC (d - 1) z' _ _ (HZ.out.below B5.out)).mono ?_
                      rintro e w6 ⟨b6, rfl, _, hb6⟩
                      have B6 := Lib.hid (B5.out.trans (hb6.mono B5.out.size))
                      have R6 := Lib.hid (R5.out.trans (hb6.mono R5.out.size))
                      have S6 := Lib.hid (S5.out.trans (hb6.mono S5.out.size))
                      clear hb6
                      cases b6
                      · go_wp2_with fail
                        go_ret
                        exact ⟨_, rfl, fun _ => fun_fine E.out P1.out KE.out P2.out (bFunctionType (a := y.kind) j1) (empty_of_nil j2) (by simpa using j3) EZ.out P5.out.1 P3.out HY.out, B6.out⟩
                      · go_wp2_with fail
                        go_ret
                        exact ⟨_, rfl, fun e => Bool.noConfusion e, B6.out⟩
                  | false =>
                    go_wp2_with fail
                    with_reducible refine (SM.out _ B4.out).mono ?_
                    rintro e w5 ⟨b5, rfl, hp5, hb5⟩
                    have B5 := Lib.hid (B4.out.trans (hb5.mono B4.out.size))
                    cases b5 with
                    | false =>
                      clear hp5 hb5
                      go_wp2_with fail
                      go_ret
                      exact ⟨_, rfl, fun e => Bool.noConfusion e, B5.out⟩
                    | true =>
                      have P5 := Lib.hid (hp5.1 rfl)
                      clear hp5 hb5
                      go_wp2_with fail
                      go_ret
                      exact ⟨_, rfl, fun _ => fun_fine E.out P1.out KE.out P2.out (bFunctionType (a := y.kind) j1) (empty_of_nil j2) (by simpa using j3) EZ.out (good_nil P5.out HZ.out) P3.out HY.out, B5.out⟩
        · have R : Hid (Below (w.alloc (.cells #[.string t.kind, .string t.text, .int .i64 t.num, .slice (some ⟨b, o, none⟩) t.kids.length c] 24)).heap.size (w.alloc (.cells #[.string t.kind, .string t.text, .int .i64 t.num, .slice (some ⟨b, o, none⟩) t.kids.length c] 24)) (w.alloc (.cells #[.string t.kind, .string t.text, .int .i64 t.num, .slice (some ⟨b, o, none⟩) t.kids.length c] 24))) := Below.refl _ _
          have D0 : Hid ((w.alloc (.cells #[.string t.kind, .string t.text, .int .i64 t.num, .slice (some ⟨b, o, none⟩) t.kids.length c] 24)).cell? ⟨w.heap.size, 0, none⟩ = some (.string t.kind)) := (World.cell?_alloc_at (w := w) _ _ _ _ rfl).trans (by simp)
          have D1 : Hid ((w.alloc (.cells #[.string t.kind, .string t.text, .int .i64 t.num, .slice (some ⟨b, o, none⟩) t.kids.length c] 24)).cell? ⟨w.heap.size, 1, none⟩ = some (.string t.text)) := (World.cell?_alloc_at (w := w) _ _ _ _ rfl).trans (by simp)
          have D2 : Hid ((w.alloc (.cells #[.string t.kind, .string t.text, .int .i64 t.num, .slice (some ⟨b, o, none⟩) t.kids.length c] 24)).cell? ⟨w.heap.size, 2, none⟩ = some (.int .i64 t.num)) := (World.cell?_alloc_at (w := w) _ _ _ _ rfl).trans (by simp)
          have D3 : Hid ((w.alloc (.cells #[.string t.kind, .string t.text, .int .i64 t.num, .slice (some ⟨b, o, none⟩) t.kids.length c] 24)).cell? ⟨w.heap.size, 3, none⟩ = some (.slice (some ⟨b, o, none⟩) t.kids.length c)) := (World.cell?_alloc_at (w := w) _ _ _ _ rfl).trans (by simp)
          go_enter Tryz.func12, Tryz.ntmps12
          go_wp2_with fail
          refine (PLHN.out _ B.out).mono ?_
          rintro e w1 ⟨b1, rfl, hp1, hb1⟩
          have B1 := Lib.hid (B.out.trans (hb1.mono B.out.size))
          have R1 := Lib.hid (R.out.trans (hb1.mono R.out.size))
          cases b1 with
          | false =>
            clear hp1 hb1
            go_wp2_with fail
            go_ret
            exact ⟨_, rfl, fun e => Bool.noConfusion e, B1.out⟩
          | true =>
            have P1 := Lib.hid (hp1 rfl)
            clear hp1 hb1
            obtain ⟨hcw, hfw⟩ := bcell B1.out
            have m0 : w1.cell? ⟨b, o, none⟩ = some (.string x.kind) := (hcw _ _ hbl).trans x0
            have m1 : w1.cell? ⟨b, o + 1, none⟩ = some (.string x.text) := (hcw _ _ hbl).trans x1
            have m2 : w1.cell? ⟨b, o + 2, none⟩ = some (.int .i64 x.num) := (hcw _ _ hbl).trans x2
            have m3 : w1.cell? ⟨b, o + 3, none⟩ = some (.slice xa x.kids.length xc) := (hcw _ _ hbl).trans x3
            have n0 : w1.cell? ⟨b, o + 4, none⟩ = some (.string y.kind) := (hcw _ _ hbl).trans y0
            have n1 : w1.cell? ⟨b, o + 4 + 1, none⟩ = some (.string y.text) := (hcw _ _ hbl).trans y1
            have n2 : w1.cell? ⟨b, o + 4 + 2, none⟩ = some (.int .i64 y.num) := (hcw _ _ hbl).trans y2
            have n3 : w1.cell? ⟨b, o + 4 + 3, none⟩ = some (.slice ya y.kids.length yc) := (hcw _ _ hbl).trans y3
            have d0 : w1.cell? ⟨w.heap.size, 0, none⟩ = some (.string t.kind) := ((bcell R1.out).1 w.heap.size 0 (by simp)).trans D0.out
            have d1 : w1.cell? ⟨w.heap.size, 1, none⟩ = some (.string t.text) := ((bcell R1.out).1 w.heap.size 1 (by simp)).trans D1.out
            have d2 : w1.cell? ⟨w.heap.size, 2, none⟩ = some (.int .i64 t.num) := ((bcell R1.out).1 w.heap.size 2 (by simp)).trans D2.out
            have d3 : w1.cell? ⟨w.heap.size, 3, none⟩ = some (.slice (some ⟨b, o, none⟩) t.kids.length c) := ((bcell R1.out).1 w.heap.size 3 (by simp)).trans D3.out
            clear hcw hfw
            go_wp2_with fail
            refine (HFN.out x _ _ ⟨HI.out.tabs.below B1.out, HX.out.below B1.out⟩).mono ?_
            rintro e w2 ⟨b2, rfl, hp2, hb2⟩
            have B2 := Lib.hid (B1.out.trans (hb2.mono B1.out.size))
            have R2 := Lib.hid (R1.out.trans (hb2.mono R1.out.size))
            cases b2 with
            | false =>
              clear hp2 hb2
              go_wp2_with fail
              go_ret
              exact ⟨_, rfl, fun e => Bool.noConfusion e, B2.out⟩
            | true =>
              have P2 := Lib.hid (hp2 rfl)
              clear m0 m1 m2 m3 n0 n1 n2 n3 d0 d1 d2 d3
              clear hp2 hb2
              obtain ⟨hcw, hfw⟩ := bcell B2.out
              have m0 : w2.cell? ⟨b, o, none⟩ = some (.string x.kind) := (hcw _ _ hbl).trans x0
              have m1 : w2.cell? ⟨b, o + 1, none⟩ = some (.string x.text) := (hcw _ _ hbl).trans x1
              have m2 : w2.cell? ⟨b, o + 2, none⟩ = some (.int .i64 x.num) := (hcw _ _ hbl).trans x2
              have m3 : w2.cell? ⟨b, o + 3, none⟩ = some (.slice xa x.kids.length xc) := (hcw _ _ hbl).trans x3
              have n0 : w2.cell? ⟨b, o + 4, none⟩ = some (.string y.kind) := (hcw _ _ hbl).trans y0
              have n1 : w2.cell? ⟨b, o + 4 + 1, none⟩ = some (.string y.text) := (hcw _ _ hbl).trans y1
              have n2 : w2.cell? ⟨b, o + 4 + 2, none⟩ = some (.int .i64 y.num) := (hcw _ _ hbl).trans y2
              have n3 : w2.cell? ⟨b, o + 4 + 3, none⟩ = some (.slice ya y.kids.length yc) := (hcw _ _ hbl).trans y3
              have d0 : w2.cell? ⟨w.heap.size, 0, none⟩ = some (.string t.kind) := ((bcell R2.out).1 w.heap.size 0 (by simp)).trans D0.out
              have d1 : w2.cell? ⟨w.heap.size, 1, none⟩ = some (.string t.text) := ((bcell R2.out).1 w.heap.size 1 (by simp)).trans D1.out
              have d2 : w2.cell? ⟨w.heap.size, 2, none⟩ = some (.int .i64 t.num) := ((bcell R2.out).1 w.heap.size 2 (by simp)).trans D2.out
              have d3 : w2.cell? ⟨w.heap.size, 3, none⟩ = some (.slice (some ⟨b, o, none⟩) t.kids.length c) := ((bcell R2.out).1 w.heap.size 3 (by simp)).trans D3.out
              clear hcw hfw
              go_wp2_with fail
              all_goals go_ret
              all_goals exact ⟨_, rfl, fun e => Bool.noConfusion e, B2.out.trans ((below1 w2 _).mono B2.out.size)⟩
        · have R : Hid (Below (w.alloc (.cells #[.string t.kind, .string t.text, .int .i64 t.num, .slice (some ⟨b, o, none⟩) t.kids.length c] 24)).heap.size (w.alloc (.cells #[.string t.kind, .string t.text, .int .i64 t.num, .slice (some ⟨b, o, none⟩) t.kids.length c] 24)) (w.alloc (.cells #[.string t.kind, .string t.text, .int .i64 t.num, .slice (some ⟨b, o, none⟩) t.kids.length c] 24))) := Below.refl _ _
          have D0 : Hid ((w.alloc (.cells #[.string t.kind, .string t.text, .int .i64 t.num, .slice (some ⟨b, o, none⟩) t.kids.length c] 24)).cell? ⟨w.heap.size, 0, none⟩ = some (.string t.kind)) := (World.cell?_alloc_at (w := w) _ _ _ _ rfl).trans (by simp)
          have D1 : Hid ((w.alloc (.cells #[.string t.kind, .string t.text, .int .i64 t.num, .slice (some ⟨b, o, none⟩) t.kids.length c] 24)).cell? ⟨w.heap.size, 1, none⟩ = some (.string t.text)) := (World.cell?_alloc_at (w := w) _ _ _ _ rfl).trans (by simp)
          have D2 : Hid ((w.alloc (.cells #[.string t.kind, .string t.text, .int .i64 t.num, .slice (some ⟨b, o, none⟩) t.kids.length c] 24)).cell? ⟨w.heap.size, 2, none⟩ = some (.int .i64 t.num)) := (World.cell?_alloc_at (w := w) _ _ _ _ rfl).trans (by simp)
          have D3 : Hid ((w.alloc (.cells #[.string t.kind, .string t.text, .int .i64 t.num, .slice (some ⟨b, o, none⟩) t.kids.length c] 24)).cell? ⟨w.heap.size, 3, none⟩ = some (.slice (some ⟨b, o, none⟩) t.kids.length c)) := (World.cell?_alloc_at (w := w) _ _ _ _ rfl).trans (by simp)
          go_enter Tryz.func12, Tryz.ntmps12
          go_wp2_with fail
          refine (PLHN.out _ B.out).mono ?_
          rintro e w1 ⟨b1, rfl, hp1, hb1⟩
          have B1 := Lib.hid (B.out.trans (hb1.mono B.out.size))
          have R1 := Lib.hid (R.out.trans (hb1.mono R.out.size))
          cases b1 with
          | false =>
            clear hp1 hb1
            go_wp2_with fail
            go_ret
            exact ⟨_, rfl, fun e => Bool.noConfusion e, B1.out⟩
          | true =>
            have P1 := Lib.hid (hp1 rfl)
            clear hp1 hb1
            obtain ⟨hcw, hfw⟩ := bcell B1.out
            have m0 : w1.cell? ⟨b, o, none⟩ = some (.string x.kind) := (hcw _ _ hbl).trans x0
            have m1 : w1.cell? ⟨b, o + 1, none⟩ = some (.string x.text) := (hcw _ _ hbl).trans x1
            have m2 : w1.cell? ⟨b, o + 2, none⟩ = some (.int .i64 x.num) := (hcw _ _ hbl).trans x2
            have m3 : w1.cell? ⟨b, o + 3, none⟩ = some (.slice xa x.kids.length xc) := (hcw _ _ hbl).trans x3
            have n0 : w1.cell? ⟨b, o + 4, none⟩ = some (.string y.kind) := (hcw _ _ hbl).trans y0
            have n1 : w1.cell? ⟨b, o + 4 + 1, none⟩ = some (.string y.text) := (hcw _ _ hbl).trans y1
            have n2 : w1.cell? ⟨b, o + 4 + 2, none⟩ = some (.int .i64 y.num) := (hcw _ _ hbl).trans y2
            have n3 : w1.cell? ⟨b, o + 4 + 3, none⟩ = some (.slice ya y.kids.length yc) := (hcw _ _ hbl).trans y3
            have d0 : w1.cell? ⟨w.heap.size, 0, none⟩ = some (.string t.kind) := ((bcell R1.out).1 w.heap.size 0 (by simp)).trans D0.out
            have d1 : w1.cell? ⟨w.heap.size, 1, none⟩ = some (.string t.text) := ((bcell R1.out).1 w.heap.size 1 (by simp)).trans D1.out
            have d2 : w1.cell? ⟨w.heap.size, 2, none⟩ = some (.int .i64 t.num) := ((bcell R1.out).1 w.heap.size 2 (by simp)).trans D2.out
            have d3 : w1.cell? ⟨w.heap.size, 3, none⟩ = some (.slice (some ⟨b, o, none⟩) t.kids.length c) := ((bcell R1.out).1 w.heap.size 3 (by simp)).trans D3.out
            clear hcw hfw
            go_wp2_with fail
            refine (HFN.out x _ _ ⟨HI.out.tabs.below B1.out, HX.out.below B1.out⟩).mono ?_
            rintro e w2 ⟨b2, rfl, hp2, hb2⟩
            have B2 := Lib.hid (B1.out.trans (hb2.mono B1.out.size))
            have R2 := Lib.hid (R1.out.trans (hb2.mono R1.out.size))
            cases b2 with
            | false =>
              clear hp2 hb2
              go_wp2_with fail
              go_ret
              exact ⟨_, rfl, fun e => Bool.noConfusion e, B2.out⟩
            | true =>
              have P2 := Lib.hid (hp2 rfl)
              clear m0 m1 m2 m3 n0 n1 n2 n3 d0 d1 d2 d3
              clear hp2 hb2
              obtain ⟨hcw, hfw⟩ := bcell B2.out
              have m0 : w2.cell? ⟨b, o, none⟩ = some (.string x.kind) := (hcw _ _ hbl).trans x0
              have m1 : w2.cell? ⟨b, o + 1, none⟩ = some (.string x.text) := (hcw _ _ hbl).trans x1
              have m2 : w2.cell? ⟨b, o + 2, none⟩ = some (.int .i64 x.num) := (hcw _ _ hbl).trans x2
              have m3 : w2.cell? ⟨b, o + 3, none⟩ = some (.slice xa x.kids.length xc) := (hcw _ _ hbl).trans x3
              have n0 : w2.cell? ⟨b, o + 4, none⟩ = some (.string y.kind) := (hcw _ _ hbl).trans y0
              have n1 : w2.cell? ⟨b, o + 4 + 1, none⟩ = some (.string y.text) := (hcw _ _ hbl).trans y1
              have n2 : w2.cell? ⟨b, o + 4 + 2, none⟩ = some (.int .i64 y.num) := (hcw _ _ hbl).trans y2
              have n3 : w2.cell? ⟨b, o + 4 + 3, none⟩ = some (.slice ya y.kids.length yc) := (hcw _ _ hbl).trans y3
              have d0 : w2.cell? ⟨w.heap.size, 0, none⟩ = some (.string t.kind) := ((bcell R2.out).1 w.heap.size 0 (by simp)).trans D0.out
              have d1 : w2.cell? ⟨w.heap.size, 1, none⟩ = some (.string t.text) := ((bcell R2.out).1 w.heap.size 1 (by simp)).trans D1.out
              have d2 : w2.cell? ⟨w.heap.size, 2, none⟩ = some (.int .i64 t.num) := ((bcell R2.out).1 w.heap.size 2 (by simp)).trans D2.out
              have d3 : w2.cell? ⟨w.heap.size, 3, none⟩ = some (.slice (some ⟨b, o, none⟩) t.kids.length c) := ((bcell R2.out).1 w.heap.size 3 (by simp)).trans D3.out
              clear hcw hfw
              go_wp2_with fail
              all_goals go_ret
              all_goals exact ⟨_, rfl, fun e => Bool.noConfusion e, B2.out.trans ((below1 w2 _).mono B2.out.size)⟩
        · have R : Hid (Below (w.alloc (.cells #[.string t.kind, .string t.text, .int .i64 t.num, .slice (some ⟨b, o, none⟩) t.kids.length c] 24)).heap.size (w.alloc (.cells #[.string t.kind, .string t.text, .int .i64 t.num, .slice (some ⟨b, o, none⟩) t.kids.length c] 24)) (w.alloc (.cells #[.string t.kind, .string t.text, .int .i64 t.num, .slice (some ⟨b, o, none⟩) t.kids.length c] 24))) := Below.refl _ _
          have D0 : Hid ((w.alloc (.cells #[.string t.kind, .string t.text, .int .i64 t.num, .slice (some ⟨b, o, none⟩) t.kids.length c] 24)).cell? ⟨w.heap.size, 0, none⟩ = some (.string t.kind)) := (World.cell?_alloc_at (w := w) _ _ _ _ rfl).trans (by simp)
          have D1 : Hid ((w.alloc (.cells #[.string t.kind, .string t.text, .int .i64 t.num, .slice (some ⟨b, o, none⟩) t.kids.length c] 24)).cell? ⟨w.heap.size, 1, none⟩ = some (.string t.text)) := (World.cell?_alloc_at (w := w) _ _ _ _ rfl).trans (by simp)
          have D2 : Hid ((w.alloc (.cells #[.string t.kind, .string t.text, .int .i64 t.num, .slice (some ⟨b, o, none⟩) t.kids.length c] 24)).cell? ⟨w.heap.size, 2, none⟩ = some (.int .i64 t.num)) := (World.cell?_alloc_at (w := w) _ _ _ _ rfl).trans (by simp)
          have D3 : Hid ((w.alloc (.cells #[.string t.kind, .string t.text, .int .i64 t.num, .slice (some ⟨b, o, none⟩) t.kids.length c] 24)).cell? ⟨w.heap.size, 3, none⟩ = some (.slice (some ⟨b, o, none⟩) t.kids.length c)) := (World.cell?_alloc_at (w := w) _ _ _ _ rfl).trans (by simp)
          go_enter Tryz.func12, Tryz.ntmps12
          go_wp2_with fail
          refine (PLHN.out _ B.out).mono ?_
          rintro e w1 ⟨b1, rfl, hp1, hb1⟩
          have B1 := Lib.hid (B.out.trans (hb1.mono B.out.size))
          have R1 := Lib.hid (R.out.trans (hb1.mono R.out.size))
          cases b1 with
          | false =>
            clear hp1 hb1
            go_wp2_with fail
            go_ret
            exact ⟨_, rfl, fun e => Bool.noConfusion e, B1.out⟩
          | true =>
            have P1 := Lib.hid (hp1 rfl)
            clear hp1 hb1
            obtain ⟨hcw, hfw⟩ := bcell B1.out
            have m0 : w1.cell? ⟨b, o, none⟩ = some (.string x.kind) := (hcw _ _ hbl).trans x0
            have m1 : w1.cell? ⟨b, o + 1, none⟩ = some (.string x.text) := (hcw _ _ hbl).trans x1
            have m2 : w1.cell? ⟨b, o + 2, none⟩ = some (.int .i64 x.num) := (hcw _ _ hbl).trans x2
            have m3 : w1.cell? ⟨b, o + 3, none⟩ = some (.slice xa x.kids.length xc) := (hcw _ _ hbl).trans x3
            have n0 : w1.cell? ⟨b, o + 4, none⟩ = some (.string y.kind) := (hcw _ _ hbl).trans y0
            have n1 : w1.cell? ⟨b, o + 4 + 1, none⟩ = some (.string y.text) := (hcw _ _ hbl).trans y1
            have n2 : w1.cell? ⟨b, o + 4 + 2, none⟩ = some (.int .i64 y.num) := (hcw _ _ hbl).trans y2
            have n3 : w1.cell? ⟨b, o + 4 + 3, none⟩ = some (.slice ya y.kids.length yc) := (hcw _ _ hbl).trans y3
            have d0 : w1.cell? ⟨w.heap.size, 0, none⟩ = some (.string t.kind) := ((bcell R1.out).1 w.heap.size 0 (by simp)).trans D0.out
            have d1 : w1.cell? ⟨w.heap.size, 1, none⟩ = some (.string t.text) := ((bcell R1.out).1 w.heap.size 1 (by simp)).trans D1.out
            have d2 : w1.cell? ⟨w.heap.size, 2, none⟩ = some (.int .i64 t.num) := ((bcell R1.out).1 w.heap.size 2 (by simp)).trans D2.out
            have d3 : w1.cell? ⟨w.heap.size, 3, none⟩ = some (.slice (some ⟨b, o, none⟩) t.kids.length c) := ((bcell R1.out).1 w.heap.size 3 (by simp)).trans D3.out
            clear hcw hfw
            go_wp2_with fail
            refine (HFN.out x _ _ ⟨HI.out.tabs.below B1.out, HX.out.below B1.out⟩).mono ?_
            rintro e w2 ⟨b2, rfl, hp2, hb2⟩
            have B2 := Lib.hid (B1.out.trans (hb2.mono B1.out.size))
            have R2 := Lib.hid (R1.out.trans (hb2.mono R1.out.size))
            cases b2 with
            | false =>
              clear hp2 hb2
              go_wp2_with fail
              go_ret
              exact ⟨_, rfl, fun e => Bool.noConfusion e, B2.out⟩
            | true =>
              have P2 := Lib.hid (hp2 rfl)
              clear m0 m1 m2 m3 n0 n1 n2 n3 d0 d1 d2 d3
              clear hp2 hb2
              obtain ⟨hcw, hfw⟩ := bcell B2.out
              have m0 : w2.cell? ⟨b, o, none⟩ = some (.string x.kind) := (hcw _ _ hbl).trans x0
              have m1 : w2.cell? ⟨b, o + 1, none⟩ = some (.string x.text) := (hcw _ _ hbl).trans x1
              have m2 : w2.cell? ⟨b, o + 2, none⟩ = some (.int .i64 x.num) := (hcw _ _ hbl).trans x2
              have m3 : w2.cell? ⟨b, o + 3, none⟩ = some (.slice xa x.kids.length xc) := (hcw _ _ hbl).trans x3
              have n0 : w2.cell? ⟨b, o + 4, none⟩ = some (.string y.kind) := (hcw _ _ hbl).trans y0
              have n1 : w2.cell? ⟨b, o + 4 + 1, none⟩ = some (.string y.text) := (hcw _ _ hbl).trans y1
              have n2 : w2.cell? ⟨b, o + 4 + 2, none⟩ = some (.int .i64 y.num) := (hcw _ _ hbl).trans y2
              have n3 : w2.cell? ⟨b, o + 4 + 3, none⟩ = some (.slice ya y.kids.length yc) := (hcw _ _ hbl).trans y3
              have d0 : w2.cell? ⟨w.heap.size, 0, none⟩ = some (.string t.kind) := ((bcell R2.out).1 w.heap.size 0 (by simp)).trans D0.out
              have d1 : w2.cell? ⟨w.heap.size, 1, none⟩ = some (.string t.text) := ((bcell R2.out).1 w.heap.size 1 (by simp)).trans D1.out
              have d2 : w2.cell? ⟨w.heap.size, 2, none⟩ = some (.int .i64 t.num) := ((bcell R2.out).1 w.heap.size 2 (by simp)).trans D2.out
              have d3 : w2.cell? ⟨w.heap.size, 3, none⟩ = some (.slice (some ⟨b, o, none⟩) t.kids.length c) := ((bcell R2.out).1 w.heap.size 3 (by simp)).trans D3.out
              clear hcw hfw
              go_wp2_with fail
              all_goals go_ret
              all_goals exact ⟨_, rfl, fun e => Bool.noConfusion e, B2.out.trans ((below1 w2 _).mono B2.out.size)⟩
        · have R : Hid (Below (w.alloc (.cells #[.string t.kind, .string t.text, .int .i64 t.num, .slice (some ⟨b, o, none⟩) t.kids.length c] 24)).heap.size (w.alloc (.cells #[.string t.kind, .string t.text, .int .i64 t.num, .slice (some ⟨b, o, none⟩) t.kids.length c] 24)) (w.alloc (.cells #[.string t.kind, .string t.text, .int .i64 t.num, .slice (some ⟨b, o, none⟩) t.kids.length c] 24))) := Below.refl _ _
          have D0 : Hid ((w.alloc (.cells #[.string t.kind, .string t.text, .int .i64 t.num, .slice (some ⟨b, o, none⟩) t.kids.length c] 24)).cell? ⟨w.heap.size, 0, none⟩ = some (.string t.kind)) := (World.cell?_alloc_at (w := w) _ _ _ _ rfl).trans (by simp)
          have D1 : Hid ((w.alloc (.cells #[.string t.kind, .string t.text, .int .i64 t.num, .slice (some ⟨b, o, none⟩) t.kids.length c] 24)).cell? ⟨w.heap.size, 1, none⟩ = some (.string t.text)) := (World.cell?_alloc_at (w := w) _ _ _ _ rfl).trans (by simp)
          have D2 : Hid ((w.alloc (.cells #[.string t.kind, .string t.text, .int .i64 t.num, .slice (some ⟨b, o, none⟩) t.kids.length c] 24)).cell? ⟨w.heap.size, 2, none⟩ = some (.int .i64 t.num)) := (World.cell?_alloc_at (w := w) _ _ _ _ rfl).trans (by simp)
          have D3 : Hid ((w.alloc (.cells #[.string t.kind, .string t.text, .int .i64 t.num, .slice (some ⟨b, o, none⟩) t.kids.length c] 24)).cell? ⟨w.heap.size, 3, none⟩ = some (.slice (some ⟨b, o, none⟩) t.kids.length c)) := (World.cell?_alloc_at (w := w) _ _ _ _ rfl).trans (by simp)
          go_enter Tryz.func12, Tryz.ntmps12
          go_wp2_with fail
          refine (PLHN.out _ B.out).mono ?_
          rintro e w1 ⟨b1, rfl, hp1, hb1⟩
          have B1 := Lib.hid (B.out.trans (hb1.mono B.out.size))
          have R1 := Lib.hid (R.out.trans (hb1.mono R.out.size))
          cases b1 with
          | false =>
            clear hp1 hb1
            go_wp2_with fail
            go_ret
            exact ⟨_, rfl, fun e => Bool.noConfusion e, B1.out⟩
          | true =>
            have P1 := Lib.hid (hp1 rfl)
            clear hp1 hb1
            obtain ⟨hcw, hfw⟩ := bcell B1.out
            have m0 : w1.cell? ⟨b, o, none⟩ = some (.string x.kind) := (hcw _ _ hbl).trans x0
            have m1 : w1.cell? ⟨b, o + 1, none⟩ = some (.string x.text) := (hcw _ _ hbl).trans x1
            have m2 : w1.cell? ⟨b, o + 2, none⟩ = some (.int .i64 x.num) := (hcw _ _ hbl).trans x2
            have m3 : w1.cell? ⟨b, o + 3, none⟩ = some (.slice xa x.kids.length xc) := (hcw _ _ hbl).trans x3
            have n0 : w1.cell? ⟨b, o + 4, none⟩ = some (.string y.kind) := (hcw _ _ hbl).trans y0
            have n1 : w1.cell? ⟨b, o + 4 + 1, none⟩ = some (.string y.text) := (hcw _ _ hbl).trans y1
            have n2 : w1.cell? ⟨b, o + 4 + 2, none⟩ = some (.int .i64 y.num) := (hcw _ _ hbl).trans y2
            have n3 : w1.cell? ⟨b, o + 4 + 3, none⟩ = some (.slice ya y.kids.length yc) := (hcw _ _ hbl).trans y3
            have d0 : w1.cell? ⟨w.heap.size, 0, none⟩ = some (.string t.kind) := ((bcell R1.out).1 w.heap.size 0 (by simp)).trans D0.out
            have d1 : w1.cell? ⟨w.heap.size, 1, none⟩ = some (.string t.text) := ((bcell R1.out).1 w.heap.size 1 (by simp)).trans D1.out
            have d2 : w1.cell? ⟨w.heap.size, 2, none⟩ = some (.int .i64 t.num) := ((bcell R1.out).1 w.heap.size 2 (by simp)).trans D2.out
            have d3 : w1.cell? ⟨w.heap.size, 3, none⟩ = some (.slice (some ⟨b, o, none⟩) t.kids.length c) := ((bcell R1.out).1 w.heap.size 3 (by simp)).trans D3.out
            clear hcw hfw
            go_wp2_with fail
            refine (HFN.out x _ _ ⟨HI.out.tabs.below B1.out, HX.out.below B1.out⟩).mono ?_
            rintro e w2 ⟨b2, rfl, hp2, hb2⟩
            have B2 := Lib.hid (B1.out.trans (hb2.mono B1.out.size))
            have R2 := Lib.hid (R1.out.trans (hb2.mono R1.out.size))
            cases b2 with
            | false =>
              clear hp2 hb2
              go_wp2_with fail
              go_ret
              exact ⟨_, rfl, fun e => Bool.noConfusion e, B2.out⟩
            | true =>
              have P2 := Lib.hid (hp2 rfl)
              clear m0 m1 m2 m3 n0 n1 n2 n3 d0 d1 d2 d3
              clear hp2 hb2
              obtain ⟨hcw, hfw⟩ := bcell B2.out
              have m0 : w2.cell? ⟨b, o, none⟩ = some (.string x.kind) := (hcw _ _ hbl).trans x0
              have m1 : w2.cell? ⟨b, o + 1, none⟩ = some (.string x.text) := (hcw _ _ hbl).trans x1
              have m2 : w2.cell? ⟨b, o + 2, none⟩ = some (.int .i64 x.num) := (hcw _ _ hbl).trans x2
              have m3 : w2.cell? ⟨b, o + 3, none⟩ = some (.slice xa x.kids.length xc) := (hcw _ _ hbl).trans x3
              have n0 : w2.cell? ⟨b, o + 4, none⟩ = some (.string y.kind) := (hcw _ _ hbl).trans y0
              have n1 : w2.cell? ⟨b, o + 4 + 1, none⟩ = some (.string y.text) := (hcw _ _ hbl).trans y1
              have n2 : w2.cell? ⟨b, o + 4 + 2, none⟩ = some (.int .i64 y.num) := (hcw _ _ hbl).trans y2
              have n3 : w2.cell? ⟨b, o + 4 + 3, none⟩ = some (.slice ya y.kids.length yc) := (hcw _ _ hbl).trans y3
              have d0 : w2.cell? ⟨w.heap.size, 0, none⟩ = some (.string t.kind) := ((bcell R2.out).1 w.heap.size 0 (by simp)).trans D0.out
              have d1 : w2.cell? ⟨w.heap.size, 1, none⟩ = some (.string t.text) := ((bcell R2.out).1 w.heap.size 1 (by simp)).trans D1.out
              have d2 : w2.cell? ⟨w.heap.size, 2, none⟩ = some (.int .i64 t.num) := ((bcell R2.out).1 w.heap.size 2 (by simp)).trans D2.out
              have d3 : w2.cell? ⟨w.heap.size, 3, none⟩ = some (.slice (some ⟨b, o, none⟩) t.kids.length c) := ((bcell R2.out).1 w.heap.size 3 (by simp)).trans D3.out
              clear hcw hfw
              go_wp2_with fail
              all_goals go_ret
              all_goals exact ⟨_, rfl, fun e => Bool.noConfusion e, B2.out.trans ((below1 w2 _).mono B2.out.size)⟩
      · go_enter Tryz.func12, Tryz.ntmps12
        go_wp2_with fail
        refine (PLHN.out _ B.out).mono ?_
        rintro e w1 ⟨b1, rfl, hp1, hb1⟩
        have B1 := Lib.hid (B.out.trans (hb1.mono B.out.size))
        cases b1 with
        | true => exact (hl2 (hp1 rfl).2.2).elim
        | false =>
          clear hp1 hb1
          go_wp2_with fail
          go_ret
          exact ⟨_, rfl, fun e => Bool.noConfusion e, B1.out⟩
    · have k0 := kind_ne (a := t.kind) kTyped e0 (l := [84, 121, 112, 101, 100]) rfl
      clear e0
      go_enter Tryz.func12, Tryz.ntmps12
      go_wp2_with fail
      go_ret
      exact ⟨_, rfl, fun e => Bool.noConfusion e, below1 _ _⟩

set_option maxRecDepth 100000 in
set_option maxHeartbeats 4000000 in
theorem inScopeC (d : Nat) (t : Tree) (kv : Value) (w : World) (h : KidsAt w d t kv) (hf : Fine d t) :
    Calls Tryz.prog 28 #[.agg #[.string t.kind, .string t.text, .int .i64 t.num, kv]] w (Ans w True) := by
  cases d with
  | zero => exact h.elim
  | succ d =>
    obtain ⟨hk, ht, hwf, a, c, rfl, hl, hc, hkids⟩ := h
    by_cases e0 : t.kind = kTemplate
    · have k0 := kind_is (a := t.kind) kTemplate e0 (l := [84, 101, 109, 112, 108, 97, 116, 101]) rfl
      obtain ⟨x, l, ex, fx⟩ := fine_template hf e0
      have hlen : 0 < t.kids.length := by rw [ex]; simp
      obtain ⟨x', b, o, xa, xc, hx0, _, rfl, hbl, ⟨x0, x1, x2, x3⟩, KX⟩ := kid0 hkids hlen
      obtain rfl : x = x' := by rw [ex] at hx0; simpa using hx0
      by_cases e1 : x.kind = kQualified
      · have k1 := kind_is (a := x.kind) kQualified e1 (l := [81, 117, 97, 108, 105, 102, 105, 101, 100]) rfl
        cases d with
        | zero => exact KX.elim
        | succ d =>
          obtain ⟨_, _, _, xa', xc', exa, _, _, hxk⟩ := KX
          obtain ⟨rfl, rfl⟩ : xa = xa' ∧ xc = xc' := by simpa using exa
          obtain ⟨u, v, eu, fu, fv⟩ := fine_binary fx (by rw [e1]; decide)
          obtain ⟨u', v', b', o', ku, kw, KE, rfl, hbl', hlen', ⟨y0, y1, y2, y3⟩, _, KU, KV⟩ := kids2 hxk (by rw [eu]; rfl)
          have hlx : 0 < x.kids.length := by omega
          have HU := Lib.hid KU
          clear hkids hxk KU KV fx fu fv eu ex hx0 hf e0 e1 exa
          go_enter Tryz.func28, Tryz.ntmps28
          go_wp2_with fail
          refine (isStdC u' ku d _ (HU.out.below (below1 w _))).mono ?_
          rintro e w1 ⟨b1, rfl, _, hb1⟩
          have B1 := Lib.hid ((below1 w _).trans (hb1.mono (below1 w _).size))
          clear hb1
          cases b1
          all_goals go_wp2_with fail
          all_goals go_ret
          all_goals exact ⟨_, rfl, fun _ => trivial, B1.out⟩
      · have k1 := kind_ne (a := x.kind) kQualified e1 (l := [81, 117, 97, 108, 105, 102, 105, 101, 100]) rfl
        clear hkids KX fx ex hx0 hf e0 e1
        go_enter Tryz.func28, Tryz.ntmps28
        go_wp2_with fail
        go_ret
        exact ⟨_, rfl, fun _ => trivial, below1 w _⟩
    · have k0 := kind_ne (a := t.kind) kTemplate e0 (l := [84, 101, 109, 112, 108, 97, 116, 101]) rfl
      by_cases e1 : t.kind = kQualified
      · have k1 := kind_is (a := t.kind) kQualified e1 (l := [81, 117, 97, 108, 105, 102, 105, 101, 100]) rfl
        obtain ⟨u, v, eu, fu, fv⟩ := fine_binary hf (by rw [e1]; decide)
        obtain ⟨u', v', b', o', ku, kw, KE, rfl, hbl', hlen', ⟨y0, y1, y2, y3⟩, _, KU, KV⟩ := kids2 hkids (by rw [eu]; rfl)
        have hlx : 0 < t.kids.length := by omega
        have HU := Lib.hid KU
        clear hkids KU KV fu fv eu hf e0 e1
        go_enter Tryz.func28, Tryz.ntmps28
        go_wp2_with fail
        refine (isStdC u' ku d _ (HU.out.below (below1 w _))).mono ?_
        rintro e w1 ⟨b1, rfl, _, hb1⟩
        have B1 := Lib.hid ((below1 w _).trans (hb1.mono (below1 w _).size))
        clear hb1
        cases b1
        all_goals go_wp2_with fail
        all_goals go_ret
        all_goals exact ⟨_, rfl, fun _ => trivial, B1.out⟩
      · have k1 := kind_ne (a := t.kind) kQualified e1 (l := [81, 117, 97, 108, 105, 102, 105, 101, 100]) rfl
        clear hkids hf e0 e1
        go_enter Tryz.func28, Tryz.ntmps28
        go_wp2_with fail
        go_ret
        exact ⟨_, rfl, fun _ => trivial, below1 w _⟩

set_option maxRecDepth 100000 in
set_option maxHeartbeats 4000000 in
theorem isMethodEC (d : Nat) : Tests 13 d := by
  intro t kv w h
  cases d with
  | zero => exact h.kids.elim
  | succ d =>
    have HI := Lib.hid h
    obtain ⟨hk, ht, hwf, a, c, rfl, hl, hc, hkids⟩ := h.kids
    have HK := Lib.hid hkids
    have B := Lib.hid (below1 w (.cells #[.string t.kind, .string t.text, .int .i64 t.num, .slice a t.kids.length c] 24))
    have PL : ∀ w1 n, Below w.heap.size w w1 → Calls Tryz.prog 21 #[.agg #[.string t.kind, .string t.text, .int .i64 t.num, .slice a t.kids.length c], .int .i64 (n : Nat)] w1 (Ans w1 (PlainT t n)) := fun w1 n hb => plainC t _ n (d + 1) _ (h.kids.below hb)
    have PLH := Lib.hid PL
    clear hkids PL
    clear h
    by_cases hl2 : t.kids.length = 2
    · have HL2 := Lib.hid hl2
      obtain ⟨x, y, b, o, kx, ky, KE, rfl, hbl, hlen, ⟨x0, x1, x2, x3⟩, ⟨y0, y1, y2, y3⟩, KX, KY⟩ := kids2 HK.out hl2
      have HX := Lib.hid KX
      have HY := Lib.hid KY
      clear KX KY hl2
      obtain ⟨xa, xc, rfl⟩ := HX.out.form
      obtain ⟨ya, yc, rfl⟩ := HY.out.form
      have hl0 : 0 < t.kids.length := by omega
      have R : Hid (Below (w.alloc (.cells #[.string t.kind, .string t.text, .int .i64 t.num, .slice (some ⟨b, o, none⟩) t.kids.length c] 24)).heap.size (w.alloc (.cells #[.string t.kind, .string t.text, .int .i64 t.num, .slice (some ⟨b, o, none⟩) t.kids.length c] 24)) (w.alloc (.cells #[.string t.kind, .string t.text, .int .i64 t.num, .slice (some ⟨b, o, none⟩) t.kids.length c] 24))) := Below.refl _ _
      have D0 : Hid ((w.alloc (.cells #[.string t.kind, .string t.text, .int .i64 t.num, .slice (some ⟨b, o, none⟩) t.kids.length c] 24)).cell? ⟨w.heap.size, 0, none⟩ = some (.string t.kind)) := (World.cell?_alloc_at (w := w) _ _ _ _ rfl).trans (by simp)
      have D1 : Hid ((w.alloc (.cells #[.string t.kind, .string t.text, .int .i64 t.num, .slice (some ⟨b, o, none⟩) t.kids.length c] 24)).cell? ⟨w.heap.size, 1, none⟩ = some (.string t.text)) := (World.cell?_alloc_at (w := w) _ _ _ _ rfl).trans (by simp)
      have D2 : Hid ((w.alloc (.cells #[.string t.kind, .string t.text, .int .i64 t.num, .slice (some ⟨b, o, none⟩) t.kids.length c] 24)).cell? ⟨w.heap.size, 2, none⟩ = some (.int .i64 t.num)) := (World.cell?_alloc_at (w := w) _ _ _ _ rfl).trans (by simp)
      have D3 : Hid ((w.alloc (.cells #[.string t.kind, .string t.text, .int .i64 t.num, .slice (some ⟨b, o, none⟩) t.kids.length c] 24)).cell? ⟨w.heap.size, 3, none⟩ = some (.slice (some ⟨b, o, none⟩) t.kids.length c)) := (World.cell?_alloc_at (w := w) _ _ _ _ rfl).trans (by simp)
      go_enter Tryz.func13, Tryz.ntmps13
      go_wp2_with fail
      refine (isMethodC (d + 1) t _ _ (HI.out.kids.below B.out)).mono ?_
      rintro e w1 ⟨b1, rfl, hp1, hb1⟩
      have B1 := Lib.hid (B.out.trans (hb1.mono B.out.size))
      have R1 := Lib.hid (R.out.trans (hb1.mono R.out.size))
      cases b1 with
      | false =>
        clear hp1 hb1
        go_wp2_with fail
        go_ret
        exact ⟨_, rfl, fun e => Bool.noConfusion e, B1.out⟩
      | true =>
        have P1 := Lib.hid (hp1 rfl)
        clear hp1 hb1
        obtain ⟨hcw, hfw⟩ := bcell B1.out
        have m0 : w1.cell? ⟨b, o, none⟩ = some (.string x.kind) := (hcw _ _ hbl).trans x0
        have m1 : w1.cell? ⟨b, o + 1, none⟩ = some (.string x.text) := (hcw _ _ hbl).trans x1
        have m2 : w1.cell? ⟨b, o + 2, none⟩ = some (.int .i64 x.num) := (hcw _ _ hbl).trans x2
        have m3 : w1.cell? ⟨b, o + 3, none⟩ = some (.slice xa x.kids.length xc) := (hcw _ _ hbl).trans x3
        have n0 : w1.cell? ⟨b, o + 4, none⟩ = some (.string y.kind) := (hcw _ _ hbl).trans y0
        have n1 : w1.cell? ⟨b, o + 4 + 1, none⟩ = some (.string y.text) := (hcw _ _ hbl).trans y1
        have n2 : w1.cell? ⟨b, o + 4 + 2, none⟩ = some (.int .i64 y.num) := (hcw _ _ hbl).trans y2
        have n3 : w1.cell? ⟨b, o + 4 + 3, none⟩ = some (.slice ya y.kids.length yc) := (hcw _ _ hbl).trans y3
        have d0 : w1.cell? ⟨w.heap.size, 0, none⟩ = some (.string t.kind) := ((bcell R1.out).1 w.heap.size 0 (by simp)).trans D0.out
        have d1 : w1.cell? ⟨w.heap.size, 1, none⟩ = some (.string t.text) := ((bcell R1.out).1 w.heap.size 1 (by simp)).trans D1.out
        have d2 : w1.cell? ⟨w.heap.size, 2, none⟩ = some (.int .i64 t.num) := ((bcell R1.out).1 w.heap.size 2 (by simp)).trans D2.out
        have d3 : w1.cell? ⟨w.heap.size, 3, none⟩ = some (.slice (some ⟨b, o, none⟩) t.kids.length c) := ((bcell R1.out).1 w.heap.size 3 (by simp)).trans D3.out
        clear hcw hfw
        go_wp2_with fail
        refine (isFunctionC d x _ _ ⟨HI.out.tabs.below B1.out, HX.out.below B1.out⟩).mono ?_
        rintro e w2 ⟨b2, rfl, hp2, hb2⟩
        have B2 := Lib.hid (B1.out.trans (hb2.mono B1.out.size))
        have R2 := Lib.hid (R1.out.trans (hb2.mono R1.out.size))
        cases b2 with
        | false =>
          clear hp2 hb2
          go_wp2_with fail
          go_ret
          exact ⟨_, rfl, fun e => Bool.noConfusion e, B2.out⟩
        | true =>
          have P2 := Lib.hid (hp2 rfl)
          clear m0 m1 m2 m3 n0 n1 n2 n3 d0 d1 d2 d3
          clear hp2 hb2
          obtain ⟨hcw, hfw⟩ := bcell B2.out
          have m0 : w2.cell? ⟨b, o, none⟩ = some (.string x.kind) := (hcw _ _ hbl).trans x0
          have m1 : w2.cell? ⟨b, o + 1, none⟩ = some (.string x.text) := (hcw _ _ hbl).trans x1
          have m2 : w2.cell? ⟨b, o + 2, none⟩ = some (.int .i64 x.num) := (hcw _ _ hbl).trans x2
          have m3 : w2.cell? ⟨b, o + 3, none⟩ = some (.slice xa x.kids.length xc) := (hcw _ _ hbl).trans x3
          have n0 : w2.cell? ⟨b, o + 4, none⟩ = some (.string y.kind) := (hcw _ _ hbl).trans y0
          have n1 : w2.cell? ⟨b, o + 4 + 1, none⟩ = some (.string y.text) := (hcw _ _ hbl).trans y1
          have n2 : w2.cell? ⟨b, o + 4 + 2, none⟩ = some (.int .i64 y.num) := (hcw _ _ hbl).trans y2
          have n3 : w2.cell? ⟨b, o + 4 + 3, none⟩ = some (.slice ya y.kids.length yc) := (hcw _ _ hbl).trans y3
          have d0 : w2.cell? ⟨w.heap.size, 0, none⟩ = some (.string t.kind) := ((bcell R2.out).1 w.heap.size 0 (by simp)).trans D0.out
          have d1 : w2.cell? ⟨w.heap.size, 1, none⟩ = some (.string t.text) := ((bcell R2.out).1 w.heap.size 1 (by simp)).trans D1.out
          have d2 : w2.cell? ⟨w.heap.size, 2, none⟩ = some (.int .i64 t.num) := ((bcell R2.out).1 w.heap.size 2 (by simp)).trans D2.out
          have d3 : w2.cell? ⟨w.heap.size, 3, none⟩ = some (.slice (some ⟨b, o, none⟩) t.kids.length c) := ((bcell R2.out).1 w.heap.size 3 (by simp)).trans D3.out
          clear hcw hfw
          cases d with
          | zero => exact HX.out.elim
          | succ d =>
            obtain ⟨u, v, eu, fu, _⟩ := fine_binary P2.out.1 (by rw [P2.out.2]; decide)
            obtain ⟨u', bz, oz, za, zc, hu0, _, exa, hbz, ⟨c0, c1, c2, c3⟩, KU⟩ := kid0_of HX.out (by rw [eu]; simp)
            subst exa
            obtain rfl : u = u' := by rw [eu] at hu0; simpa using hu0
            have hlx : 0 < x.kids.length := by rw [eu]; simp
            have HU := Lib.hid KU
            have FU := Lib.hid fu
            clear eu hu0 KU fu m0 m1 m2 m3 n0 n1 n2 n3 d0 d1 d2 d3
            obtain ⟨hcw, hfw⟩ := bcell B2.out
            have m0 : w2.cell? ⟨b, o, none⟩ = some (.string x.kind) := (hcw _ _ hbl).trans x0
            have m1 : w2.cell? ⟨b, o + 1, none⟩ = some (.string x.text) := (hcw _ _ hbl).trans x1
            have m2 : w2.cell? ⟨b, o + 2, none⟩ = some (.int .i64 x.num) := (hcw _ _ hbl).trans x2
            have m3 : w2.cell? ⟨b, o + 3, none⟩ = some (.slice (some ⟨bz, oz, none⟩) x.kids.length xc) := (hcw _ _ hbl).trans x3
            have n0 : w2.cell? ⟨b, o + 4, none⟩ = some (.string y.kind) := (hcw _ _ hbl).trans y0
            have n1 : w2.cell? ⟨b, o + 4 + 1, none⟩ = some (.string y.text) := (hcw _ _ hbl).trans y1
            have n2 : w2.cell? ⟨b, o + 4 + 2, none⟩ = some (.int .i64 y.num) := (hcw _ _ hbl).trans y2
            have n3 : w2.cell? ⟨b, o + 4 + 3, none⟩ = some (.slice ya y.kids.length yc) := (hcw _ _ hbl).trans y3
            have p0 : w2.cell? ⟨bz, oz, none⟩ = some (.string u.kind) := (hcw _ _ hbz).trans c0
            have p1 : w2.cell? ⟨bz, oz + 1, none⟩ = some (.string u.text) := (hcw _ _ hbz).trans c1
            have p2 : w2.cell? ⟨bz, oz + 2, none⟩ = some (.int .i64 u.num) := (hcw _ _ hbz).trans c2
            have p3 : w2.cell? ⟨bz, oz + 3, none⟩ = some (.slice za u.kids.length zc) := (hcw _ _ hbz).trans c3
            have d0 : w2.cell? ⟨w.heap.size, 0, none⟩ = some (.string t.kind) := ((bcell R2.out).1 w.heap.size 0 (by simp)).trans D0.out
            have d1 : w2.cell? ⟨w.heap.size, 1, none⟩ = some (.string t.text) := ((bcell R2.out).1 w.heap.size 1 (by simp)).trans D1.out
            have d2 : w2.cell? ⟨w.heap.size, 2, none⟩ = some (.int .i64 t.num) := ((bcell R2.out).1 w.heap.size 2 (by simp)).trans D2.out
            have d3 : w2.cell? ⟨w.heap.size, 3, none⟩ = some (.slice (some ⟨b, o, none⟩) t.kids.length c) := ((bcell R2.out).1 w.heap.size 3 (by simp)).trans D3.out
            clear hcw hfw
            go_wp2_with fail
            refine (inScopeC d u _ _ (HU.out.below B2.out) FU.out).mono ?_
            rintro e w3 ⟨b3, rfl, _, hb3⟩
            have B3 := Lib.hid (B2.out.trans (hb3.mono B2.out.size))
            have R3 := Lib.hid (R2.out.trans (hb3.mono R2.out.size))
            clear hb3
            cases b3
            · go_wp2_with fail
              go_ret
              exact ⟨_, rfl, fun e => Bool.noConfusion e, B3.out⟩
            · go_wp2_with fail
              go_ret
              exact ⟨_, rfl, fun _ => method_fine P1.out KE.out P2.out.1, B3.out⟩
    · go_enter Tryz.func13, Tryz.ntmps13
      go_wp2_with fail
      refine (isMethodC (d + 1) t _ _ (HI.out.kids.below B.out)).mono ?_
      rintro e w1 ⟨b1, rfl, hp1, hb1⟩
      have B1 := Lib.hid (B.out.trans (hb1.mono B.out.size))
      cases b1 with
      | true =>
        obtain ⟨_, _, x, y, e, _⟩ := hp1 rfl
        exact (hl2 (by rw [e]; rfl)).elim
      | false =>
        clear hp1 hb1
        go_wp2_with fail
        go_ret
        exact ⟨_, rfl, fun e => Bool.noConfusion e, B1.out⟩

set_option maxRecDepth 100000 in
set_option maxHeartbeats 4000000 in
theorem isEncodingC (d : Nat) : Tests 6 d := by
  intro t kv w h
  obtain ⟨a, c, rfl⟩ := h.kids.form
  have HI := Lib.hid h
  have HC := Lib.hid (known d).cls
  have B := Lib.hid (below1 w (.cells #[.string t.kind, .string t.text, .int .i64 t.num, .slice a t.kids.length c] 24))
  clear h
  have R : Hid (Below (w.alloc (.cells #[.string t.kind, .string t.text, .int .i64 t.num, .slice a t.kids.length c] 24)).heap.size (w.alloc (.cells #[.string t.kind, .string t.text, .int .i64 t.num, .slice a t.kids.length c] 24)) (w.alloc (.cells #[.string t.kind, .string t.text, .int .i64 t.num, .slice a t.kids.length c] 24))) := Below.refl _ _
  have D0 : Hid ((w.alloc (.cells #[.string t.kind, .string t.text, .int .i64 t.num, .slice a t.kids.length c] 24)).cell? ⟨w.heap.size, 0, none⟩ = some (.string t.kind)) := (World.cell?_alloc_at (w := w) _ _ _ _ rfl).trans (by simp)
  have D1 : Hid ((w.alloc (.cells #[.string t.kind, .string t.text, .int .i64 t.num, .slice a t.kids.length c] 24)).cell? ⟨w.heap.size, 1, none⟩ = some (.string t.text)) := (World.cell?_alloc_at (w := w) _ _ _ _ rfl).trans (by simp)
  have D2 : Hid ((w.alloc (.cells #[.string t.kind, .string t.text, .int .i64 t.num, .slice a t.kids.length c] 24)).cell? ⟨w.heap.size, 2, none⟩ = some (.int .i64 t.num)) := (World.cell?_alloc_at (w := w) _ _ _ _ rfl).trans (by simp)
  have D3 : Hid ((w.alloc (.cells #[.string t.kind, .string t.text, .int .i64 t.num, .slice a t.kids.length c] 24)).cell? ⟨w.heap.size, 3, none⟩ = some (.slice a t.kids.length c)) := (World.cell?_alloc_at (w := w) _ _ _ _ rfl).trans (by simp)
  go_enter Tryz.func6, Tryz.ntmps6
  go_wp2_with fail
  refine (isFunctionC d t _ _ ⟨HI.out.tabs.below B.out, HI.out.kids.below B.out⟩).mono ?_
  rintro e w1 ⟨b1, rfl, hp1, hb1⟩
  have B1 := Lib.hid (B.out.trans (hb1.mono B.out.size))
  have R1 := Lib.hid (R.out.trans (hb1.mono R.out.size))
  cases b1 with
  | true =>
    have P1 := Lib.hid (hp1 rfl)
    clear hp1 hb1
    go_wp2_with fail
    go_ret
    exact ⟨_, rfl, fun _ => P1.out.1, B1.out⟩
  | false =>
    clear hp1 hb1
    obtain ⟨hcw, hfw⟩ := bcell B1.out
    have d0 : w1.cell? ⟨w.heap.size, 0, none⟩ = some (.string t.kind) := ((bcell R1.out).1 w.heap.size 0 (by simp)).trans D0.out
    have d1 : w1.cell? ⟨w.heap.size, 1, none⟩ = some (.string t.text) := ((bcell R1.out).1 w.heap.size 1 (by simp)).trans D1.out
    have d2 : w1.cell? ⟨w.heap.size, 2, none⟩ = some (.int .i64 t.num) := ((bcell R1.out).1 w.heap.size 2 (by simp)).trans D2.out
    have d3 : w1.cell? ⟨w.heap.size, 3, none⟩ = some (.slice a t.kids.length c) := ((bcell R1.out).1 w.heap.size 3 (by simp)).trans D3.out
    clear hcw hfw
    go_wp2_with fail
    refine (isMethodEC d t _ _ ⟨HI.out.tabs.below B1.out, HI.out.kids.below B1.out⟩).mono ?_
    rintro e w2 ⟨b2, rfl, hp2, hb2⟩
    have B2 := Lib.hid (B1.out.trans (hb2.mono B1.out.size))
    have R2 := Lib.hid (R1.out.trans (hb2.mono R1.out.size))
    cases b2 with
    | true =>
      have P2 := Lib.hid (hp2 rfl)
      clear hp2 hb2
      go_wp2_with fail
      go_ret
      exact ⟨_, rfl, fun _ => P2.out, B2.out⟩
    | false =>
      clear d0 d1 d2 d3
      clear hp2 hb2
      obtain ⟨hcw, hfw⟩ := bcell B2.out
      have d0 : w2.cell? ⟨w.heap.size, 0, none⟩ = some (.string t.kind) := ((bcell R2.out).1 w.heap.size 0 (by simp)).trans D0.out
      have d1 : w2.cell? ⟨w.heap.size, 1, none⟩ = some (.string t.text) := ((bcell R2.out).1 w.heap.size 1 (by simp)).trans D1.out
      have d2 : w2.cell? ⟨w.heap.size, 2, none⟩ = some (.int .i64 t.num) := ((bcell R2.out).1 w.heap.size 2 (by simp)).trans D2.out
      have d3 : w2.cell? ⟨w.heap.size, 3, none⟩ = some (.slice a t.kids.length c) := ((bcell R2.out).1 w.heap.size 3 (by simp)).trans D3.out
      clear hcw hfw
      go_wp2_with fail
      refine (HC.out t _ _ ⟨HI.out.tabs.below B2.out, HI.out.kids.below B2.out⟩).mono ?_
      rintro e w3 ⟨b3, rfl, hp3, hb3⟩
      have B3 := Lib.hid (B2.out.trans (hb3.mono B2.out.size))
      have R3 := Lib.hid (R2.out.trans (hb3.mono R2.out.size))
      cases b3 with
      | true =>
        have P3 := Lib.hid (hp3 rfl)
        clear hp3 hb3
        go_wp2_with fail
        go_ret
        exact ⟨_, rfl, fun _ => P3.out, B3.out⟩
      | false =>
        clear hp3 hb3
        go_wp2_with fail
        go_ret
        exact ⟨_, rfl, fun e => Bool.noConfusion e, B3.out⟩
end Go.Proofs.YtlfbmpenekiigaaGreatDoor
