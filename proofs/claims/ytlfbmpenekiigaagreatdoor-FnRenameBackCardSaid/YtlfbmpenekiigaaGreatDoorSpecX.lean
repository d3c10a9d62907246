/- Conversions, names of functions, whether what a function returns belongs to its name: what the tests tell; conditions: the node reads as a tree, the tables hold texts. -/
import Derived.Test.YtlfbmpenekiigaaGreatDoorSpecW
namespace Go.Proofs.YtlfbmpenekiigaaGreatDoor
open Go.ChangeShapes Go.WideShapes Go.ChangeAt Go.RowKit
set_option linter.unusedVariables false

theorem cast_fine {d : Nat} {w : World} {y z : Tree} {ky : Value} (hk : y.kind = kCast) (hp : PlainT y 1) (ez : y.kids = [z]) (hz : Fine (d - 1) z) (hy : KidsAt w d y ky) : Fine d y := by
  cases d with
  | zero => exact hy.elim
  | succ d => exact unaryP_fine (by rw [hk]; decide) hp ez hz

set_option maxRecDepth 100000 in
set_option maxHeartbeats 4000000 in
theorem isCastC (d : Nat) : Tests 44 d := by
  intro t kv w h
  cases d with
  | zero => exact h.kids.elim
  | succ d =>
    have HI := Lib.hid h
    obtain ⟨hk, ht, hwf, a, c, rfl, hl, hc, hkids⟩ := h.kids
    have HK := Lib.hid hkids
    have B := Lib.hid (below1 w (.cells #[.string t.kind, .string t.text, .int .i64 t.num, .slice a t.kids.length c] 24))
    have PL : ∀ w1 n, Below w.heap.size w w1 → Calls Tryz.prog 21 #[.agg #[.string t.kind, .string t.text, .int .i64 t.num, .slice a t.kids.length c], .int .i64 (n : Nat)] w1 (Ans w1 (PlainT t n)) := fun w1 n hb => plainC t _ n (d + 1) _ (h.kids.below hb)
    have PLH := Lib.hid PL
    clear hkids PL
    have PLHN : Hid (∀ w1, Below w.heap.size w w1 → Calls Tryz.prog 21 #[.agg #[.string t.kind, .string t.text, .int .i64 t.num, .slice a t.kids.length c], .int .i64 2] w1 (Ans w1 (PlainT t 2))) := fun w1 hb => PLH.out w1 2 hb
    have HC := Lib.hid (known d).cls
    have HTY := Lib.hid (known (d - 1)).typ
    clear h
    by_cases e0 : t.kind = kQualified
    · have k0 := kind_is (a := t.kind) kQualified e0 (l := [81, 117, 97, 108, 105, 102, 105, 101, 100]) rfl
      have E := Lib.hid e0
      clear e0
      by_cases hl2 : t.kids.length = 2
      · have HL2 := Lib.hid hl2
        obtain ⟨x, y, b, o, kx, ky, KE, rfl, hbl, hlen, ⟨x0, x1, x2, x3⟩, ⟨y0, y1, y2, y3⟩, KX, KY⟩ := kids2 HK.out hl2
        have HX := Lib.hid KX
        have HY := Lib.hid KY
        clear KX KY hl2
        obtain ⟨xa, xc, rfl⟩ := HX.out.form
        obtain ⟨ya, yc, rfl⟩ := HY.out.form
        have hl0 : 0 < t.kids.length := by omega
        have PLY : Hid (∀ w1, Below w.heap.size w w1 → Calls Tryz.prog 21 #[.agg #[.string y.kind, .string y.text, .int .i64 y.num, .slice ya y.kids.length yc], .int .i64 1] w1 (Ans w1 (PlainT y 1))) := fun w1 hb => plainC y _ 1 d _ (HY.out.below hb)
        cases hy : (y.kind.toList == [67, 97, 115, 116])
        · have R : Hid (Below (w.alloc (.cells #[.string t.kind, .string t.text, .int .i64 t.num, .slice (some ⟨b, o, none⟩) t.kids.length c] 24)).heap.size (w.alloc (.cells #[.string t.kind, .string t.text, .int .i64 t.num, .slice (some ⟨b, o, none⟩) t.kids.length c] 24)) (w.alloc (.cells #[.string t.kind, .string t.text, .int .i64 t.num, .slice (some ⟨b, o, none⟩) t.kids.length c] 24))) := Below.refl _ _
          have D0 : Hid ((w.alloc (.cells #[.string t.kind, .string t.text, .int .i64 t.num, .slice (some ⟨b, o, none⟩) t.kids.length c] 24)).cell? ⟨w.heap.size, 0, none⟩ = some (.string t.kind)) := (World.cell?_alloc_at (w := w) _ _ _ _ rfl).trans (by simp)
          have D1 : Hid ((w.alloc (.cells #[.string t.kind, .string t.text, .int .i64 t.num, .slice (some ⟨b, o, none⟩) t.kids.length c] 24)).cell? ⟨w.heap.size, 1, none⟩ = some (.string t.text)) := (World.cell?_alloc_at (w := w) _ _ _ _ rfl).trans (by simp)
          have D2 : Hid ((w.alloc (.cells #[.string t.kind, .string t.text, .int .i64 t.num, .slice (some ⟨b, o, none⟩) t.kids.length c] 24)).cell? ⟨w.heap.size, 2, none⟩ = some (.int .i64 t.num)) := (World.cell?_alloc_at (w := w) _ _ _ _ rfl).trans (by simp)
          have D3 : Hid ((w.alloc (.cells #[.string t.kind, .string t.text, .int .i64 t.num, .slice (some ⟨b, o, none⟩) t.kids.length c] 24)).cell? ⟨w.heap.size, 3, none⟩ = some (.slice (some ⟨b, o, none⟩) t.kids.length c)) := (World.cell?_alloc_at (w := w) _ _ _ _ rfl).trans (by simp)
          go_enter Tryz.func44, Tryz.ntmps44
          go_wp2_with fail
          refine (PLHN.out _ B.out).mono ?_
          rintro e w1 ⟨b1, rfl, hp1, hb1⟩
          have B1 := Lib.hid (B.out.trans (hb1.mono B.out.size))
          have R1 := Lib.hid (R.out.trans (hb1.mono R.out.size))
          cases b1 with
          | false =>
            clear hp1 hb1
            go_wp2_with fail
            go_ret
            exact ⟨_, rfl, fun e => Bool.noConfusion e, B1.out⟩
          | true =>
            have P1 := Lib.hid (hp1 rfl)
            clear hp1 hb1
            obtain ⟨hcw, hfw⟩ := bcell B1.out
            have m0 : w1.cell? ⟨b, o, none⟩ = some (.string x.kind) := (hcw _ _ hbl).trans x0
            have m1 : w1.cell? ⟨b, o + 1, none⟩ = some (.string x.text) := (hcw _ _ hbl).trans x1
            have m2 : w1.cell? ⟨b, o + 2, none⟩ = some (.int .i64 x.num) := (hcw _ _ hbl).trans x2
            have m3 : w1.cell? ⟨b, o + 3, none⟩ = some (.slice xa x.kids.length xc) := (hcw _ _ hbl).trans x3
            have n0 : w1.cell? ⟨b, o + 4, none⟩ = some (.string y.kind) := (hcw _ _ hbl).trans y0
            have n1 : w1.cell? ⟨b, o + 4 + 1, none⟩ = some (.string y.text) := (hcw _ _ hbl).trans y1
            have n2 : w1.cell? ⟨b, o + 4 + 2, none⟩ = some (.int .i64 y.num) := (hcw _ _ hbl).trans y2
            have n3 : w1.cell? ⟨b, o + 4 + 3, none⟩ = some (.slice ya y.kids.length yc) := (hcw _ _ hbl).trans y3
            have d0 : w1.cell? ⟨w.heap.size, 0, none⟩ = some (.string t.kind) := ((bcell R1.out).1 w.heap.size 0 (by simp)).trans D0.out
            have d1 : w1.cell? ⟨w.heap.size, 1, none⟩ = some (.string t.text) := ((bcell R1.out).1 w.heap.size 1 (by simp)).trans D1.out
            have d2 : w1.cell? ⟨w.heap.size, 2, none⟩ = some (.int .i64 t.num) := ((bcell R1.out).1 w.heap.size 2 (by simp)).trans D2.out
            have d3 : w1.cell? ⟨w.heap.size, 3, none⟩ = some (.slice (some ⟨b, o, none⟩) t.kids.length c) := ((bcell R1.out).1 w.heap.size 3 (by simp)).trans D3.out
            clear hcw hfw
            go_wp2_with fail
            refine (HC.out x _ _ ⟨HI.out.tabs.below B1.out, HX.out.below B1.out⟩).mono ?_
            rintro e w2 ⟨b2, rfl, hp2, hb2⟩
            have B2 := Lib.hid (B1.out.trans (hb2.mono B1.out.size))
            have R2 := Lib.hid (R1.out.trans (hb2.mono R1.out.size))
            cases b2 with
            | false =>
              clear hp2 hb2
              go_wp2_with fail
              go_ret
              exact ⟨_, rfl, fun e => Bool.noConfusion e, B2.out⟩
            | true =>
              have P2 := Lib.hid (hp2 rfl)
              clear m0 m1 m2 m3 n0 n1 n2 n3 d0 d1 d2 d3
              clear hp2 hb2
              obtain ⟨hcw, hfw⟩ := bcell B2.out
              have m0 : w2.cell? ⟨b, o, none⟩ = some (.string x.kind) := (hcw _ _ hbl).trans x0
              have m1 : w2.cell? ⟨b, o + 1, none⟩ = some (.string x.text) := (hcw _ _ hbl).trans x1
              have m2 : w2.cell? ⟨b, o + 2, none⟩ = some (.int .i64 x.num) := (hcw _ _ hbl).trans x2
              have m3 : w2.cell? ⟨b, o + 3, none⟩ = some (.slice xa x.kids.length xc) := (hcw _ _ hbl).trans x3
              have n0 : w2.cell? ⟨b, o + 4, none⟩ = some (.string y.kind) := (hcw _ _ hbl).trans y0
              have n1 : w2.cell? ⟨b, o + 4 + 1, none⟩ = some (.string y.text) := (hcw _ _ hbl).trans y1
              have n2 : w2.cell? ⟨b, o + 4 + 2, none⟩ = some (.int .i64 y.num) := (hcw _ _ hbl).trans y2
              have n3 : w2.cell? ⟨b, o + 4 + 3, none⟩ = some (.slice ya y.kids.length yc) := (hcw _ _ hbl).trans y3
              have d0 : w2.cell? ⟨w.heap.size, 0, none⟩ = some (.string t.kind) := ((bcell R2.out).1 w.heap.size 0 (by simp)).trans D0.out
              have d1 : w2.cell? ⟨w.heap.size, 1, none⟩ = some (.string t.text) := ((bcell R2.out).1 w.heap.size 1 (by simp)).trans D1.out
              have d2 : w2.cell? ⟨w.heap.size, 2, none⟩ = some (.int .i64 t.num) := ((bcell R2.out).1 w.heap.size 2 (by simp)).trans D2.out
              have d3 : w2.cell? ⟨w.heap.size, 3, none⟩ = some (.slice (some ⟨b, o, none⟩) t.kids.length c) := ((bcell R2.out).1 w.heap.size 3 (by simp)).trans D3.out
              clear hcw hfw
              go_wp2_with fail
              go_ret
              exact ⟨_, rfl, fun e => Bool.noConfusion e, B2.out.trans ((below1 w2 _).mono B2.out.size)⟩
        · have R : Hid (Below (w.alloc (.cells #[.string t.kind, .string t.text, .int .i64 t.num, .slice (some ⟨b, o, none⟩) t.kids.length c] 24)).heap.size (w.alloc (.cells #[.string t.kind, .string t.text, .int .i64 t.num, .slice (some ⟨b, o, none⟩) t.kids.length c] 24)) (w.alloc (.cells #[.string t.kind, .string t.text, .int .i64 t.num, .slice (some ⟨b, o, none⟩) t.kids.length c] 24))) := Below.refl _ _
          have D0 : Hid ((w.alloc (.cells #[.string t.kind, .string t.text, .int .i64 t.num, .slice (some ⟨b, o, none⟩) t.kids.length c] 24)).cell? ⟨w.heap.size, 0, none⟩ = some (.string t.kind)) := (World.cell?_alloc_at (w := w) _ _ _ _ rfl).trans (by simp)
          have D1 : Hid ((w.alloc (.cells #[.string t.kind, .string t.text, .int .i64 t.num, .slice (some ⟨b, o, none⟩) t.kids.length c] 24)).cell? ⟨w.heap.size, 1, none⟩ = some (.string t.text)) := (World.cell?_alloc_at (w := w) _ _ _ _ rfl).trans (by simp)
          have D2 : Hid ((w.alloc (.cells #[.string t.kind, .string t.text, .int .i64 t.num, .slice (some ⟨b, o, none⟩) t.kids.length c] 24)).cell? ⟨w.heap.size, 2, none⟩ = some (.int .i64 t.num)) := (World.cell?_alloc_at (w := w) _ _ _ _ rfl).trans (by simp)
          have D3 : Hid ((w.alloc (.cells #[.string t.kind, .string t.text, .int .i64 t.num, .slice (some ⟨b, o, none⟩) t.kids.length c] 24)).cell? ⟨w.heap.size, 3, none⟩ = some (.slice (some ⟨b, o, none⟩) t.kids.length c)) := (World.cell?_alloc_at (w := w) _ _ _ _ rfl).trans (by simp)
          go_enter Tryz.func44, Tryz.ntmps44
          go_wp2_with fail
          refine (PLHN.out _ B.out).mono ?_
          rintro e w1 ⟨b1, rfl, hp1, hb1⟩
          have B1 := Lib.hid (B.out.trans (hb1.mono B.out.size))
          have R1 := Lib.hid (R.out.trans (hb1.mono R.out.size))
          cases b1 with
          | false =>
            clear hp1 hb1
            go_wp2_with fail
            go_ret
            exact ⟨_, rfl, fun e => Bool.noConfusion e, B1.out⟩
          | true =>
            have P1 := Lib.hid (hp1 rfl)
            clear hp1 hb1
            obtain ⟨hcw, hfw⟩ := bcell B1.out
            have m0 : w1.cell? ⟨b, o, none⟩ = some (.string x.kind) := (hcw _ _ hbl).trans x0
            have m1 : w1.cell? ⟨b, o + 1, none⟩ = some (.string x.text) := (hcw _ _ hbl).trans x1
            have m2 : w1.cell? ⟨b, o + 2, none⟩ = some (.int .i64 x.num) := (hcw _ _ hbl).trans x2
            have m3 : w1.cell? ⟨b, o + 3, none⟩ = some (.slice xa x.kids.length xc) := (hcw _ _ hbl).trans x3
            have n0 : w1.cell? ⟨b, o + 4, none⟩ = some (.string y.kind) := (hcw _ _ hbl).trans y0
            have n1 : w1.cell? ⟨b, o + 4 + 1, none⟩ = some (.string y.text) := (hcw _ _ hbl).trans y1
            have n2 : w1.cell? ⟨b, o + 4 + 2, none⟩ = some (.int .i64 y.num) := (hcw _ _ hbl).trans y2
            have n3 : w1.cell? ⟨b, o + 4 + 3, none⟩ = some (.slice ya y.kids.length yc) := (hcw _ _ hbl).trans y3
            have d0 : w1.cell? ⟨w.heap.size, 0, none⟩ = some (.string t.kind) := ((bcell R1.out).1 w.heap.size 0 (by simp)).trans D0.out
            have d1 : w1.cell? ⟨w.heap.size, 1, none⟩ = some (.string t.text) := ((bcell R1.out).1 w.heap.size 1 (by simp)).trans D1.out
            have d2 : w1.cell? ⟨w.heap.size, 2, none⟩ = some (.int .i64 t.num) := ((bcell R1.out).1 w.heap.size 2 (by simp)).trans D2.out
            have d3 : w1.cell? ⟨w.heap.size, 3, none⟩ = some (.slice (some ⟨b, o, none⟩) t.kids.length c) := ((bcell R1.out).1 w.heap.size 3 (by simp)).trans D3.out
            clear hcw hfw
            go_wp2_with fail
            refine (HC.out x _ _ ⟨HI.out.tabs.below B1.out, HX.out.below B1.out⟩).mono ?_
            rintro e w2 ⟨b2, rfl, hp2, hb2⟩
            have B2 := Lib.hid (B1.out.trans (hb2.mono B1.out.size))
            have R2 := Lib.hid (R1.out.trans (hb2.mono R1.out.size))
            cases b2 with
            | false =>
              clear hp2 hb2
              go_wp2_with fail
              go_ret
              exact ⟨_, rfl, fun e => Bool.noConfusion e, B2.out⟩
            | true =>
              have P2 := Lib.hid (hp2 rfl)
              clear m0 m1 m2 m3 n0 n1 n2 n3 d0 d1 d2 d3
              clear hp2 hb2
              obtain ⟨hcw, hfw⟩ := bcell B2.out
              have m0 : w2.cell? ⟨b, o, none⟩ = some (.string x.kind) := (hcw _ _ hbl).trans x0
              have m1 : w2.cell? ⟨b, o + 1, none⟩ = some (.string x.text) := (hcw _ _ hbl).trans x1
              have m2 : w2.cell? ⟨b, o + 2, none⟩ = some (.int .i64 x.num) := (hcw _ _ hbl).trans x2
              have m3 : w2.cell? ⟨b, o + 3, none⟩ = some (.slice xa x.kids.length xc) := (hcw _ _ hbl).trans x3
              have n0 : w2.cell? ⟨b, o + 4, none⟩ = some (.string y.kind) := (hcw _ _ hbl).trans y0
              have n1 : w2.cell? ⟨b, o + 4 + 1, none⟩ = some (.string y.text) := (hcw _ _ hbl).trans y1
              have n2 : w2.cell? ⟨b, o + 4 + 2, none⟩ = some (.int .i64 y.num) := (hcw _ _ hbl).trans y2
              have n3 : w2.cell? ⟨b, o + 4 + 3, none⟩ = some (.slice ya y.kids.length yc) := (hcw _ _ hbl).trans y3
              have d0 : w2.cell? ⟨w.heap.size, 0, none⟩ = some (.string t.kind) := ((bcell R2.out).1 w.heap.size 0 (by simp)).trans D0.out
              have d1 : w2.cell? ⟨w.heap.size, 1, none⟩ = some (.string t.text) := ((bcell R2.out).1 w.heap.size 1 (by simp)).trans D1.out
              have d2 : w2.cell? ⟨w.heap.size, 2, none⟩ = some (.int .i64 t.num) := ((bcell R2.out).1 w.heap.size 2 (by simp)).trans D2.out
              have d3 : w2.cell? ⟨w.heap.size, 3, none⟩ = some (.slice (some ⟨b, o, none⟩) t.kids.length c) := ((bcell R2.out).1 w.heap.size 3 (by simp)).trans D3.out
              clear hcw hfw
              have BY := Lib.hid (B2.out.trans ((below1 w2 (.cells #[.string y.kind, .string y.text, .int .i64 y.num, .slice ya y.kids.length yc] 24)).mono B2.out.size))
              have RY := Lib.hid (R2.out.trans ((below1 w2 (.cells #[.string y.kind, .string y.text, .int .i64 y.num, .slice ya y.kids.length yc] 24)).mono R2.out.size))
              have le : w.heap.size < w2.heap.size := by have := R2.out.size; simp at this; omega
              have lbe : b < w2.heap.size := by omega
              have K0 : Hid ((w2.alloc (.cells #[.string y.kind, .string y.text, .int .i64 y.num, .slice ya y.kids.length yc] 24)).cell? ⟨w2.heap.size, 0, none⟩ = some (.string y.kind)) := (World.cell?_alloc_at (w := w2) _ _ _ _ rfl).trans (by simp)
              have K1 : Hid ((w2.alloc (.cells #[.string y.kind, .string y.text, .int .i64 y.num, .slice ya y.kids.length yc] 24)).cell? ⟨w2.heap.size, 1, none⟩ = some (.string y.text)) := (World.cell?_alloc_at (w := w2) _ _ _ _ rfl).trans (by simp)
              have K2 : Hid ((w2.alloc (.cells #[.string y.kind, .string y.text, .int .i64 y.num, .slice ya y.kids.length yc] 24)).cell? ⟨w2.heap.size, 2, none⟩ = some (.int .i64 y.num)) := (World.cell?_alloc_at (w := w2) _ _ _ _ rfl).trans (by simp)
              have K3 : Hid ((w2.alloc (.cells #[.string y.kind, .string y.text, .int .i64 y.num, .slice ya y.kids.length yc] 24)).cell? ⟨w2.heap.size, 3, none⟩ = some (.slice ya y.kids.length yc)) := (World.cell?_alloc_at (w := w2) _ _ _ _ rfl).trans (by simp)
              go_wp2_with fail
              refine (PLY.out _ BY.out).mono ?_
              rintro e w3 ⟨b3, rfl, hp3, hb3⟩
              have B3 := Lib.hid (BY.out.trans (hb3.mono BY.out.size))
              have R3 := Lib.hid (RY.out.trans (hb3.mono RY.out.size))
              have S3 := Lib.hid hb3
              cases b3 with
              | false =>
                clear hp3 hb3
                go_wp2_with fail
                go_ret
                exact ⟨_, rfl, fun e => Bool.noConfusion e, B3.out⟩
              | true =>
                have P3 := Lib.hid (hp3 rfl)
                clear m0 m1 m2 m3 n0 n1 n2 n3 d0 d1 d2 d3
                clear hp3 hb3
                obtain ⟨hcw, hfw⟩ := bcell B3.out
                have m0 : w3.cell? ⟨b, o, none⟩ = some (.string x.kind) := (hcw _ _ hbl).trans x0
                have m1 : w3.cell? ⟨b, o + 1, none⟩ = some (.string x.text) := (hcw _ _ hbl).trans x1
                have m2 : w3.cell? ⟨b, o + 2, none⟩ = some (.int .i64 x.num) := (hcw _ _ hbl).trans x2
                have m3 : w3.cell? ⟨b, o + 3, none⟩ = some (.slice xa x.kids.length xc) := (hcw _ _ hbl).trans x3
                have n0 : w3.cell? ⟨b, o + 4, none⟩ = some (.string y.kind) := (hcw _ _ hbl).trans y0
                have n1 : w3.cell? ⟨b, o + 4 + 1, none⟩ = some (.string y.text) := (hcw _ _ hbl).trans y1
                have n2 : w3.cell? ⟨b, o + 4 + 2, none⟩ = some (.int .i64 y.num) := (hcw _ _ hbl).trans y2
                have n3 : w3.cell? ⟨b, o + 4 + 3, none⟩ = some (.slice ya y.kids.length yc) := (hcw _ _ hbl).trans y3
                have d0 : w3.cell? ⟨w.heap.size, 0, none⟩ = some (.string t.kind) := ((bcell R3.out).1 w.heap.size 0 (by simp)).trans D0.out
                have d1 : w3.cell? ⟨w.heap.size, 1, none⟩ = some (.string t.text) := ((bcell R3.out).1 w.heap.size 1 (by simp)).trans D1.out
                have d2 : w3.cell? ⟨w.heap.size, 2, none⟩ = some (.int .i64 t.num) := ((bcell R3.out).1 w.heap.size 2 (by simp)).trans D2.out
                have d3 : w3.cell? ⟨w.heap.size, 3, none⟩ = some (.slice (some ⟨b, o, none⟩) t.kids.length c) := ((bcell R3.out).1 w.heap.size 3 (by simp)).trans D3.out
                have e0 : w3.cell? ⟨w2.heap.size, 0, none⟩ = some (.string y.kind) := ((bcell S3.out).1 w2.heap.size 0 (by simp)).trans K0.out
                have e1 : w3.cell? ⟨w2.heap.size, 1, none⟩ = some (.string y.text) := ((bcell S3.out).1 w2.heap.size 1 (by simp)).trans K1.out
                have e2 : w3.cell? ⟨w2.heap.size, 2, none⟩ = some (.int .i64 y.num) := ((bcell S3.out).1 w2.heap.size 2 (by simp)).trans K2.out
                have e3 : w3.cell? ⟨w2.heap.size, 3, none⟩ = some (.slice ya y.kids.length yc) := ((bcell S3.out).1 w2.heap.size 3 (by simp)).trans K3.out
                clear hcw hfw
                obtain ⟨z, bz, oz, za, zc, hz0, _, eya, hbz, ⟨c0, c1, c2, c3⟩, KZ⟩ := kid0_of HY.out (by rw [P3.out.2.2]; decide)
                subst eya
                obtain ⟨z', ez⟩ := one_of_len' P3.out.2.2
                obtain rfl : z' = z := by rw [ez] at hz0; simpa using hz0
                have EZ := Lib.hid ez
                have HZ := Lib.hid KZ
                have hly : 0 < y.kids.length := by rw [ez]; simp
                clear ez hz0 KZ
                clear m0 m1 m2 m3 n0 n1 n2 n3 d0 d1 d2 d3 e0 e1 e2 e3
                obtain ⟨hcw, hfw⟩ := bcell B3.out
                have m0 : w3.cell? ⟨b, o, none⟩ = some (.string x.kind) := (hcw _ _ hbl).trans x0
                have m1 : w3.cell? ⟨b, o + 1, none⟩ = some (.string x.text) := (hcw _ _ hbl).trans x1
                have m2 : w3.cell? ⟨b, o + 2, none⟩ = some (.int .i64 x.num) := (hcw _ _ hbl).trans x2
                have m3 : w3.cell? ⟨b, o + 3, none⟩ = some (.slice xa x.kids.length xc) := (hcw _ _ hbl).trans x3
                have n0 : w3.cell? ⟨b, o + 4, none⟩ = some (.string y.kind) := (hcw _ _ hbl).trans y0
                have n1 : w3.cell? ⟨b, o + 4 + 1, none⟩ = some (.string y.text) := (hcw _ _ hbl).trans y1
                have n2 : w3.cell? ⟨b, o + 4 + 2, none⟩ = some (.int .i64 y.num) := (hcw _ _ hbl).trans y2
                have n3 : w3.cell? ⟨b, o + 4 + 3, none⟩ = some (.slice (some ⟨bz, oz, none⟩) y.kids.length yc) := (hcw _ _ hbl).trans y3
                have p0 : w3.cell? ⟨bz, oz, none⟩ = some (.string z'.kind) := (hcw _ _ hbz).trans c0
                have p1 : w3.cell? ⟨bz, oz + 1, none⟩ = some (.string z'.text) := (hcw _ _ hbz).trans c1
                have p2 : w3.cell? ⟨bz, oz + 2, none⟩ = some (.int .i64 z'.num) := (hcw _ _ hbz).trans c2
                have p3 : w3.cell? ⟨bz, oz + 3, none⟩ = some (.slice za z'.kids.length zc) := (hcw _ _ hbz).trans c3
                have d0 : w3.cell? ⟨w.heap.size, 0, none⟩ = some (.string t.kind) := ((bcell R3.out).1 w.heap.size 0 (by simp)).trans D0.out
                have d1 : w3.cell? ⟨w.heap.size, 1, none⟩ = some (.string t.text) := ((bcell R3.out).1 w.heap.size 1 (by simp)).trans D1.out
                have d2 : w3.cell? ⟨w.heap.size, 2, none⟩ = some (.int .i64 t.num) := ((bcell R3.out).1 w.heap.size 2 (by simp)).trans D2.out
                have d3 : w3.cell? ⟨w.heap.size, 3, none⟩ = some (.slice (some ⟨b, o, none⟩) t.kids.length c) := ((bcell R3.out).1 w.heap.size 3 (by simp)).trans D3.out
                have e0 : w3.cell? ⟨w2.heap.size, 0, none⟩ = some (.string y.kind) := ((bcell S3.out).1 w2.heap.size 0 (by simp)).trans K0.out
                have e1 : w3.cell? ⟨w2.heap.size, 1, none⟩ = some (.string y.text) := ((bcell S3.out).1 w2.heap.size 1 (by simp)).trans K1.out
                have e2 : w3.cell? ⟨w2.heap.size, 2, none⟩ = some (.int .i64 y.num) := ((bcell S3.out).1 w2.heap.size 2 (by simp)).trans K2.out
                have e3 : w3.cell? ⟨w2.heap.size, 3, none⟩ = some (.slice (some ⟨bz, oz, none⟩) y.kids.length yc) := ((bcell S3.out).1 w2.heap.size 3 (by simp)).trans K3.out
                clear hcw hfw
                go_wp2_with fail
                refine (HTY.out z' _ _ ⟨HI.out.tabs.below B3.out, HZ.out.below B3.out⟩).mono ?_
                rintro e w4 ⟨b4, rfl, hp4, hb4⟩
                have B4 := Lib.hid (B3.out.trans (hb4.mono B3.out.size))
                have R4 := Lib.hid (R3.out.trans (hb4.mono R3.out.size))
                have S4 := Lib.hid (S3.out.trans (hb4.mono S3.out.size))
                cases b4 with
                | false =>
                  clear hp4 hb4
                  go_wp2_with fail
                  go_ret
                  exact ⟨_, rfl, fun e => Bool.noConfusion e, B4.out⟩
                | true =>
                  have P4 := Lib.hid (hp4 rfl)
                  clear m0 m1 m2 m3 n0 n1 n2 n3 p0 p1 p2 p3 d0 d1 d2 d3 e0 e1 e2 e3
                  clear hp4 hb4
                  obtain ⟨hcw, hfw⟩ := bcell B4.out
                  have m0 : w4.cell? ⟨b, o, none⟩ = some (.string x.kind) := (hcw _ _ hbl).trans x0
                  have m1 : w4.cell? ⟨b, o + 1, none⟩ = some (.string x.text) := (hcw _ _ hbl).trans x1
                  have m2 : w4.cell? ⟨b, o + 2, none⟩ = some (.int .i64 x.num) := (hcw _ _ hbl).trans x2
                  have m3 : w4.cell? ⟨b, o + 3, none⟩ = some (.slice xa x.kids.length xc) := (hcw _ _ hbl).trans x3
                  have n0 : w4.cell? ⟨b, o + 4, none⟩ = some (.string y.kind) := (hcw _ _ hbl).trans y0
                  have n1 : w4.cell? ⟨b, o + 4 + 1, none⟩ = some (.string y.text) := (hcw _ _ hbl).trans y1
                  have n2 : w4.cell? ⟨b, o + 4 + 2, none⟩ = some (.int .i64 y.num) := (hcw _ _ hbl).trans y2
                  have n3 : w4.cell? ⟨b, o + 4 + 3, none⟩ = some (.slice (some ⟨bz, oz, none⟩) y.kids.length yc) := (hcw _ _ hbl).trans y3
                  have p0 : w4.cell? ⟨bz, oz, none⟩ = some (.string z'.kind) := (hcw _ _ hbz).trans c0
                  have p1 : w4.cell? ⟨bz, oz + 1, none⟩ = some (.string z'.text) := (hcw _ _ hbz).trans c1
                  have p2 : w4.cell? ⟨bz, oz + 2, none⟩ = some (.int .i64 z'.num) := (hcw _ _ hbz).trans c2
                  have p3 : w4.cell? ⟨bz, oz + 3, none⟩ = some (.slice za z'.kids.length zc) := (hcw _ _ hbz).trans c3
                  have d0 : w4.cell? ⟨w.heap.size, 0, none⟩ = some (.string t.kind) := ((bcell R4.out).1 w.heap.size 0 (by simp)).trans D0.out
                  have d1 : w4.cell? ⟨w.heap.size, 1, none⟩ = some (.string t.text) := ((bcell R4.out).1 w.heap.size 1 (by simp)).trans D1.out
                  have d2 : w4.cell? ⟨w.heap.size, 2, none⟩ = some (.int .i64 t.num) := ((bcell R4.out).1 w.heap.size 2 (by simp)).trans D2.out
                  have d3 : w4.cell? ⟨w.heap.size, 3, none⟩ = some (.slice (some ⟨b, o, none⟩) t.kids.length c) := ((bcell R4.out).1 w.heap.size 3 (by simp)).trans D3.out
                  have e0 : w4.cell? ⟨w2.heap.size, 0, none⟩ = some (.string y.kind) := ((bcell S4.out).1 w2.heap.size 0 (by simp)).trans K0.out
                  have e1 : w4.cell? ⟨w2.heap.size, 1, none⟩ = some (.string y.text) := ((bcell S4.out).1 w2.heap.size 1 (by simp)).trans K1.out
                  have e2 : w4.cell? ⟨w2.heap.size, 2, none⟩ = some (.int .i64 y.num) := ((bcell S4.out).1 w2.heap.size 2 (by simp)).trans K2.out
                  have e3 : w4.cell? ⟨w2.heap.size, 3, none⟩ = some (.slice (some ⟨bz, oz, none⟩) y.kids.length yc) := ((bcell S4.out).1 w2.heap.size 3 (by simp)).trans K3.out
                  clear hcw hfw
                  go_wp2_with fail
                  refine (turnedC (d - 1) z' _ _ (HZ.out.below B4.out)).mono ?_
                  rintro e w5 ⟨b5, rfl, hp5, hb5⟩
                  have B5 := Lib.hid (B4.out.trans (hb5.mono B4.out.size))
                  have R5 := Lib.hid (R4.out.trans (hb5.mono R4.out.size))
                  have S5 := Lib.hid (S4.out.trans (hb5.mono S4.out.size))
                  cases b5 with
                  | true =>
                    clear hp5 hb5
                    go_wp2_with fail
                    go_ret
                    exact ⟨_, rfl, fun e => Bool.noConfusion e, B5.out⟩
                  | false =>
                    clear m0 m1 m2 m3 n0 n1 n2 n3 p0 p1 p2 p3 d0 d1 d2 d3 e0 e1 e2 e3
                    clear hp5 hb5
                    obtain ⟨hcw, hfw⟩ := bcell B5.out
                    have m0 : w5.cell? ⟨b, o, none⟩ = some (.string x.kind) := (hcw _ _ hbl).trans x0
                    have m1 : w5.cell? ⟨b, o + 1, none⟩ = some (.string x.text) := (hcw _ _ hbl).trans x1
                    have m2 : w5.cell? ⟨b, o + 2, none⟩ = some (.int .i64 x.num) := (hcw _ _ hbl).trans x2
                    have m3 : w5.cell? ⟨b, o + 3, none⟩ = some (.slice xa x.kids.length xc) := (hcw _ _ hbl).trans x3
                    have n0 : w5.cell? ⟨b, o + 4, none⟩ = some (.string y.kind) := (hcw _ _ hbl).trans y0
                    have n1 : w5.cell? ⟨b, o + 4 + 1, none⟩ = some (.string y.text) := (hcw _ _ hbl).trans y1
                    have n2 : w5.cell? ⟨b, o + 4 + 2, none⟩ = some (.int .i64 y.num) := (hcw _ _ hbl).trans y2
                    have n3 : w5.cell? ⟨b, o + 4 + 3, none⟩ = some (.slice (some ⟨bz, oz, none⟩) y.kids.length yc) := (hcw _ _ hbl).trans y3
                    have p0 : w5.cell? ⟨bz, oz, none⟩ = some (.string z'.kind) := (hcw _ _ hbz).trans c0
                    have p1 : w5.cell? ⟨bz, oz + 1, none⟩ = some (.string z'.text) := (hcw _ _ hbz).trans c1
                    have p2 : w5.cell? ⟨bz, oz + 2, none⟩ = some (.int .i64 z'.num) := (hcw _ _ hbz).trans c2
                    have p3 : w5.cell? ⟨bz, oz + 3, none⟩ = some (.slice za z'.kids.length zc) := (hcw _ _ hbz).trans c3
                    have d0 : w5.cell? ⟨w.heap.size, 0, none⟩ = some (.string t.kind) := ((bcell R5.out).1 w.heap.size 0 (by simp)).trans D0.out
                    have d1 : w5.cell? ⟨w.heap.size, 1, none⟩ = some (.string t.text) := ((bcell R5.out).1 w.heap.size 1 (by simp)).trans D1.out
                    have d2 : w5.cell? ⟨w.heap.size, 2, none⟩ = some (.int .i64 t.num) := ((bcell R5.out).1 w.heap.size 2 (by simp)).trans D2.out
                    have d3 : w5.cell? ⟨w.heap.size, 3, none⟩ = some (.slice (some ⟨b, o, none⟩) t.kids.length c) := ((bcell R5.out).1 w.heap.size 3 (by simp)).trans D3.out
                    have e0 : w5.cell? ⟨w2.heap.size, 0, none⟩ = some (.string y.kind) := ((bcell S5.out).1 w2.heap.size 0 (by simp)).trans K0.out
                    have e1 : w5.cell? ⟨w2.heap.size, 1, none⟩ = some (.string y.text) := ((bcell S5.out).1 w2.heap.size 1 (by simp)).trans K1.out
                    have e2 : w5.cell? ⟨w2.heap.size, 2, none⟩ = some (.int .i64 y.num) := ((bcell S5.out).1 w2.heap.size 2 (by simp)).trans K2.out
                    have e3 : w5.cell? ⟨w2.heap.size, 3, none⟩ = some (.slice (some ⟨bz, oz, none⟩) y.kids.length yc) := ((bcell S5.out).1 w2.heap.size 3 (by simp)).trans K3.out
                    clear hcw hfw
                    go_wp2_with fail
                    refine (isReferenceC z' _ (d - 1) _ (HZ.out.below B5.out)).mono ?_
                    rintro e w6 ⟨b6, rfl, hp6, hb6⟩
                    have B6 := Lib.hid (B5.out.trans (hb6.mono B5.out.size))
                    have R6 := Lib.hid (R5.out.trans (hb6.mono R5.out.size))
                    have S6 := Lib.hid (S5.out.trans (hb6.mono S5.out.size))
                    cases b6 with
                    | true =>
                      clear hp6 hb6
                      go_wp2_with fail
                      go_ret
                      exact ⟨_, rfl, fun e => Bool.noConfusion e, B6.out⟩
                    | false =>
                      clear m0 m1 m2 m3 n0 n1 n2 n3 p0 p1 p2 p3 d0 d1 d2 d3 e0 e1 e2 e3
                      clear hp6 hb6
                      obtain ⟨hcw, hfw⟩ := bcell B6.out
                      have m0 : w6.cell? ⟨b, o, none⟩ = some (.string x.kind) := (hcw _ _ hbl).trans x0
                      have m1 : w6.cell? ⟨b, o + 1, none⟩ = some (.string x.text) := (hcw _ _ hbl).trans x1
                      have m2 : w6.cell? ⟨b, o + 2, none⟩ = some (.int .i64 x.num) := (hcw _ _ hbl).trans x2
                      have m3 : w6.cell? ⟨b, o + 3, none⟩ = some (.slice xa x.kids.length xc) := (hcw _ _ hbl).trans x3
                      have n0 : w6.cell? ⟨b, o + 4, none⟩ = some (.string y.kind) := (hcw _ _ hbl).trans y0
                      have n1 : w6.cell? ⟨b, o + 4 + 1, none⟩ = some (.string y.text) := (hcw _ _ hbl).trans y1
                      have n2 : w6.cell? ⟨b, o + 4 + 2, none⟩ = some (.int .i64 y.num) := (hcw _ _ hbl).trans y2
                      have n3 : w6.cell? ⟨b, o + 4 + 3, none⟩ = some (.slice (some ⟨bz, oz, none⟩) y.kids.length yc) := (hcw _ _ hbl).trans y3
                      have p0 : w6.cell? ⟨bz, oz, none⟩ = some (.string z'.kind) := (hcw _ _ hbz).trans c0
                      have p1 : w6.cell? ⟨bz, oz + 1, none⟩ = some (.string z'.text) := (hcw _ _ hbz).trans c1
                      have p2 : w6.cell? ⟨bz, oz + 2, none⟩ = some (.int .i64 z'.num) := (hcw _ _ hbz).trans c2
                      have p3 : w6.cell? ⟨bz, oz + 3, none⟩ = some (.slice za z'.kids.length zc) := (hcw _ _ hbz).trans c3
                      have d0 : w6.cell? ⟨w.heap.size, 0, none⟩ = some (.string t.kind) := ((bcell R6.out).1 w.heap.size 0 (by simp)).trans D0.out
                      have d1 : w6.cell? ⟨w.heap.size, 1, none⟩ = some (.string t.text) := ((bcell R6.out).1 w.heap.size 1 (by simp)).trans D1.out
                      have d2 : w6.cell? ⟨w.heap.size, 2, none⟩ = some (.int .i64 t.num) := ((bcell R6.out).1 w.heap.size 2 (by simp)).trans D2.out
                      have d3 : w6.cell? ⟨w.heap.size, 3, none⟩ = some (.slice (some ⟨b, o, none⟩) t.kids.length c) := ((bcell R6.out).1 w.heap.size 3 (by simp)).trans D3.out
                      have e0 : w6.cell? ⟨w2.heap.size, 0, none⟩ = some (.string y.kind) := ((bcell S6.out).1 w2.heap.size 0 (by simp)).trans K0.out
                      have e1 : w6.cell? ⟨w2.heap.size, 1, none⟩ = some (.string y.text) := ((bcell S6.out).1 w2.heap.size 1 (by simp)).trans K1.out
                      have e2 : w6.cell? ⟨w2.heap.size, 2, none⟩ = some (.int .i64 y.num) := ((bcell S6.out).1 w2.heap.size 2 (by simp)).trans K2.out
                      have e3 : w6.cell? ⟨w2.heap.size, 3, none⟩ = some (.slice (some ⟨bz, oz, none⟩) y.kids.length yc) := ((bcell S6.out).1 w2.heap.size 3 (by simp)).trans K3.out
                      clear hcw hfw
                      go_wp2_with fail
                      refine (hasC _ (d - 1) z' _ _ (HZ.out.below B6.out)).mono ?_
                      rintro e w7 ⟨b7, rfl, _, hb7⟩
                      have B7 := Lib.hid (B6.out.trans (hb7.mono B6.out.size))
                      have R7 := Lib.hid (R6.out.trans (hb7.mono R6.out.size))
                      have S7 := Lib.hid (S6.out.trans (hb7.mono S6.out.size))
                      clear hb7
                      cases b7
                      · go_wp2_with fail
                        go_ret
                        exact ⟨_, rfl, fun _ => binary_fine (by rw [E.out]; decide) P1.out KE.out P2.out (cast_fine (bCast (a := y.kind) hy) P3.out EZ.out P4.out HY.out), B7.out⟩
                      · go_wp2_with fail
                        go_ret
                        exact ⟨_, rfl, fun e => Bool.noConfusion e, B7.out⟩
      · go_enter Tryz.func44, Tryz.ntmps44
        go_wp2_with fail
        refine (PLHN.out _ B.out).mono ?_
        rintro e w1 ⟨b1, rfl, hp1, hb1⟩
        have B1 := Lib.hid (B.out.trans (hb1.mono B.out.size))
        cases b1 with
        | true => exact (hl2 (hp1 rfl).2.2).elim
        | false =>
          clear hp1 hb1
          go_wp2_with fail
          go_ret
          exact ⟨_, rfl, fun e => Bool.noConfusion e, B1.out⟩
    · have k0 := kind_ne (a := t.kind) kQualified e0 (l := [81, 117, 97, 108, 105, 102, 105, 101, 100]) rfl
      clear e0
      go_enter Tryz.func44, Tryz.ntmps44
      go_wp2_with fail
      go_ret
      exact ⟨_, rfl, fun e => Bool.noConfusion e, below1 _ _⟩

set_option maxRecDepth 100000 in
set_option maxHeartbeats 4000000 in
theorem isFunctionNameC (d : Nat) : Tests 22 d := by
  intro t kv w h
  cases d with
  | zero => exact h.kids.elim
  | succ d =>
    have HI := Lib.hid h
    obtain ⟨hk, ht, hwf, a, c, rfl, hl, hc, hkids⟩ := h.kids
    have HK := Lib.hid hkids
    have B := Lib.hid (below1 w (.cells #[.string t.kind, .string t.text, .int .i64 t.num, .slice a t.kids.length c] 24))
    have PL : ∀ w1 n, Below w.heap.size w w1 → Calls Tryz.prog 21 #[.agg #[.string t.kind, .string t.text, .int .i64 t.num, .slice a t.kids.length c], .int .i64 (n : Nat)] w1 (Ans w1 (PlainT t n)) := fun w1 n hb => plainC t _ n (d + 1) _ (h.kids.below hb)
    have PLH := Lib.hid PL
    clear hkids PL
    have HT := Lib.hid (isTemplateC (d + 1) (fun e _ => known e))
    have HW0 := Lib.hid (isWordC d)
    have HO0 := Lib.hid (fun t kv w h => isOperatorNameC d t kv w h)
    have HM0 := Lib.hid (isMakerC d)
    have HW1 := Lib.hid (isWordC (d + 1))
    have HO1 := Lib.hid (fun t kv w h => isOperatorNameC (d + 1) t kv w h)
    have HM1 := Lib.hid (isMakerC (d + 1))
    have HC1 := Lib.hid (isCastC (d + 1))
    clear h
    by_cases e0 : t.kind = kTemplate
    · have k0 := kind_is (a := t.kind) kTemplate e0 (l := [84, 101, 109, 112, 108, 97, 116, 101]) rfl
      have E := Lib.hid e0
      clear e0
      by_cases hl2 : 0 < t.kids.length
      · obtain ⟨x, b, o, xa, xc, hx0, hxm, rfl, hbl, ⟨x0, x1, x2, x3⟩, KX⟩ := kid0 HK.out hl2
        have HX := Lib.hid KX
        have HX0 := Lib.hid hx0
        clear KX hx0 hxm
        cases hkt : (x.kind.toList == [84, 101, 109, 112, 108, 97, 116, 101])
        · have R : Hid (Below (w.alloc (.cells #[.string t.kind, .string t.text, .int .i64 t.num, .slice (some ⟨b, o, none⟩) t.kids.length c] 24)).heap.size (w.alloc (.cells #[.string t.kind, .string t.text, .int .i64 t.num, .slice (some ⟨b, o, none⟩) t.kids.length c] 24)) (w.alloc (.cells #[.string t.kind, .string t.text, .int .i64 t.num, .slice (some ⟨b, o, none⟩) t.kids.length c] 24))) := Below.refl _ _
          have D0 : Hid ((w.alloc (.cells #[.string t.kind, .string t.text, .int .i64 t.num, .slice (some ⟨b, o, none⟩) t.kids.length c] 24)).cell? ⟨w.heap.size, 0, none⟩ = some (.string t.kind)) := (World.cell?_alloc_at (w := w) _ _ _ _ rfl).trans (by simp)
          have D1 : Hid ((w.alloc (.cells #[.string t.kind, .string t.text, .int .i64 t.num, .slice (some ⟨b, o, none⟩) t.kids.length c] 24)).cell? ⟨w.heap.size, 1, none⟩ = some (.string t.text)) := (World.cell?_alloc_at (w := w) _ _ _ _ rfl).trans (by simp)
          have D2 : Hid ((w.alloc (.cells #[.string t.kind, .string t.text, .int .i64 t.num, .slice (some ⟨b, o, none⟩) t.kids.length c] 24)).cell? ⟨w.heap.size, 2, none⟩ = some (.int .i64 t.num)) := (World.cell?_alloc_at (w := w) _ _ _ _ rfl).trans (by simp)
          have D3 : Hid ((w.alloc (.cells #[.string t.kind, .string t.text, .int .i64 t.num, .slice (some ⟨b, o, none⟩) t.kids.length c] 24)).cell? ⟨w.heap.size, 3, none⟩ = some (.slice (some ⟨b, o, none⟩) t.kids.length c)) := (World.cell?_alloc_at (w := w) _ _ _ _ rfl).trans (by simp)
          go_enter Tryz.func22, Tryz.ntmps22
          go_wp2_with fail
          refine (HT.out t _ _ ⟨HI.out.tabs.below B.out, HI.out.kids.below B.out⟩).mono ?_
          rintro e w1 ⟨b1, rfl, hp1, hb1⟩
          have B1 := Lib.hid (B.out.trans (hb1.mono B.out.size))
          have R1 := Lib.hid (R.out.trans (hb1.mono R.out.size))
          cases b1 with
          | false =>
            clear hp1 hb1
            go_wp2_with fail
            go_ret
            exact ⟨_, rfl, fun e => Bool.noConfusion e, B1.out⟩
          | true =>
            have P1 := Lib.hid (hp1 rfl)
            clear hp1 hb1
            obtain ⟨hcw, hfw⟩ := bcell B1.out
            have m0 : w1.cell? ⟨b, o, none⟩ = some (.string x.kind) := (hcw _ _ hbl).trans x0
            have m1 : w1.cell? ⟨b, o + 1, none⟩ = some (.string x.text) := (hcw _ _ hbl).trans x1
            have m2 : w1.cell? ⟨b, o + 2, none⟩ = some (.int .i64 x.num) := (hcw _ _ hbl).trans x2
            have m3 : w1.cell? ⟨b, o + 3, none⟩ = some (.slice xa x.kids.length xc) := (hcw _ _ hbl).trans x3
            have d0 : w1.cell? ⟨w.heap.size, 0, none⟩ = some (.string t.kind) := ((bcell R1.out).1 w.heap.size 0 (by simp)).trans D0.out
            have d1 : w1.cell? ⟨w.heap.size, 1, none⟩ = some (.string t.text) := ((bcell R1.out).1 w.heap.size 1 (by simp)).trans D1.out
            have d2 : w1.cell? ⟨w.heap.size, 2, none⟩ = some (.int .i64 t.num) := ((bcell R1.out).1 w.heap.size 2 (by simp)).trans D2.out
            have d3 : w1.cell? ⟨w.heap.size, 3, none⟩ = some (.slice (some ⟨b, o, none⟩) t.kids.length c) := ((bcell R1.out).1 w.heap.size 3 (by simp)).trans D3.out
            clear hcw hfw
            go_wp2_with fail
            refine (isStdC x _ d _ (HX.out.below B1.out)).mono ?_
            rintro e w2 ⟨b2, rfl, hp2, hb2⟩
            have B2 := Lib.hid (B1.out.trans (hb2.mono B1.out.size))
            have R2 := Lib.hid (R1.out.trans (hb2.mono R1.out.size))
            cases b2 with
            | true =>
              clear hp2 hb2
              go_wp2_with fail
              go_ret
              exact ⟨_, rfl, fun e => Bool.noConfusion e, B2.out⟩
            | false =>
              clear m0 m1 m2 m3 d0 d1 d2 d3
              clear hp2 hb2
              obtain ⟨hcw, hfw⟩ := bcell B2.out
              have m0 : w2.cell? ⟨b, o, none⟩ = some (.string x.kind) := (hcw _ _ hbl).trans x0
              have m1 : w2.cell? ⟨b, o + 1, none⟩ = some (.string x.text) := (hcw _ _ hbl).trans x1
              have m2 : w2.cell? ⟨b, o + 2, none⟩ = some (.int .i64 x.num) := (hcw _ _ hbl).trans x2
              have m3 : w2.cell? ⟨b, o + 3, none⟩ = some (.slice xa x.kids.length xc) := (hcw _ _ hbl).trans x3
              have d0 : w2.cell? ⟨w.heap.size, 0, none⟩ = some (.string t.kind) := ((bcell R2.out).1 w.heap.size 0 (by simp)).trans D0.out
              have d1 : w2.cell? ⟨w.heap.size, 1, none⟩ = some (.string t.text) := ((bcell R2.out).1 w.heap.size 1 (by simp)).trans D1.out
              have d2 : w2.cell? ⟨w.heap.size, 2, none⟩ = some (.int .i64 t.num) := ((bcell R2.out).1 w.heap.size 2 (by simp)).trans D2.out
              have d3 : w2.cell? ⟨w.heap.size, 3, none⟩ = some (.slice (some ⟨b, o, none⟩) t.kids.length c) := ((bcell R2.out).1 w.heap.size 3 (by simp)).trans D3.out
              clear hcw hfw
              go_wp2_with fail
              refine (HW0.out x _ _ ⟨HI.out.tabs.below B2.out, HX.out.below B2.out⟩).mono ?_
              rintro e w3 ⟨b3, rfl, hp3, hb3⟩
              have B3 := Lib.hid (B2.out.trans (hb3.mono B2.out.size))
              have R3 := Lib.hid (R2.out.trans (hb3.mono R2.out.size))
              cases b3 with
              | true =>
                have P3 := Lib.hid (hp3 rfl)
                clear hp3 hb3
                go_wp2_with fail
                go_ret
                exact ⟨_, rfl, fun _ => template_fine E.out P1.out (fun z hz => by rw [HX0.out] at hz; cases hz; exact P3.out), B3.out⟩
              | false =>
                clear m0 m1 m2 m3 d0 d1 d2 d3
                clear hp3 hb3
                obtain ⟨hcw, hfw⟩ := bcell B3.out
                have m0 : w3.cell? ⟨b, o, none⟩ = some (.string x.kind) := (hcw _ _ hbl).trans x0
                have m1 : w3.cell? ⟨b, o + 1, none⟩ = some (.string x.text) := (hcw _ _ hbl).trans x1
                have m2 : w3.cell? ⟨b, o + 2, none⟩ = some (.int .i64 x.num) := (hcw _ _ hbl).trans x2
                have m3 : w3.cell? ⟨b, o + 3, none⟩ = some (.slice xa x.kids.length xc) := (hcw _ _ hbl).trans x3
                have d0 : w3.cell? ⟨w.heap.size, 0, none⟩ = some (.string t.kind) := ((bcell R3.out).1 w.heap.size 0 (by simp)).trans D0.out
                have d1 : w3.cell? ⟨w.heap.size, 1, none⟩ = some (.string t.text) := ((bcell R3.out).1 w.heap.size 1 (by simp)).trans D1.out
                have d2 : w3.cell? ⟨w.heap.size, 2, none⟩ = some (.int .i64 t.num) := ((bcell R3.out).1 w.heap.size 2 (by simp)).trans D2.out
                have d3 : w3.cell? ⟨w.heap.size, 3, none⟩ = some (.slice (some ⟨b, o, none⟩) t.kids.length c) := ((bcell R3.out).1 w.heap.size 3 (by simp)).trans D3.out
                clear hcw hfw
                go_wp2_with fail
                refine (HO0.out x _ _ ⟨HI.out.tabs.below B3.out, HX.out.below B3.out⟩).mono ?_
                rintro e w4 ⟨b4, rfl, hp4, hb4⟩
                have B4 := Lib.hid (B3.out.trans (hb4.mono B3.out.size))
                have R4 := Lib.hid (R3.out.trans (hb4.mono R3.out.size))
                cases b4 with
                | true =>
                  have P4 := Lib.hid (hp4 rfl)
                  clear hp4 hb4
                  go_wp2_with fail
                  go_ret
                  exact ⟨_, rfl, fun _ => template_fine E.out P1.out (fun z hz => by rw [HX0.out] at hz; cases hz; exact P4.out), B4.out⟩
                | false =>
                  clear m0 m1 m2 m3 d0 d1 d2 d3
                  clear hp4 hb4
                  obtain ⟨hcw, hfw⟩ := bcell B4.out
                  have m0 : w4.cell? ⟨b, o, none⟩ = some (.string x.kind) := (hcw _ _ hbl).trans x0
                  have m1 : w4.cell? ⟨b, o + 1, none⟩ = some (.string x.text) := (hcw _ _ hbl).trans x1
                  have m2 : w4.cell? ⟨b, o + 2, none⟩ = some (.int .i64 x.num) := (hcw _ _ hbl).trans x2
                  have m3 : w4.cell? ⟨b, o + 3, none⟩ = some (.slice xa x.kids.length xc) := (hcw _ _ hbl).trans x3
                  have d0 : w4.cell? ⟨w.heap.size, 0, none⟩ = some (.string t.kind) := ((bcell R4.out).1 w.heap.size 0 (by simp)).trans D0.out
                  have d1 : w4.cell? ⟨w.heap.size, 1, none⟩ = some (.string t.text) := ((bcell R4.out).1 w.heap.size 1 (by simp)).trans D1.out
                  have d2 : w4.cell? ⟨w.heap.size, 2, none⟩ = some (.int .i64 t.num) := ((bcell R4.out).1 w.heap.size 2 (by simp)).trans D2.out
                  have d3 : w4.cell? ⟨w.heap.size, 3, none⟩ = some (.slice (some ⟨b, o, none⟩) t.kids.length c) := ((bcell R4.out).1 w.heap.size 3 (by simp)).trans D3.out
                  clear hcw hfw
                  go_wp2_with fail
                  refine (HM0.out x _ _ ⟨HI.out.tabs.below B4.out, HX.out.below B4.out⟩).mono ?_
                  rintro e w5 ⟨b5, rfl, hp5, hb5⟩
                  have B5 := Lib.hid (B4.out.trans (hb5.mono B4.out.size))
                  have R5 := Lib.hid (R4.out.trans (hb5.mono R4.out.size))
                  cases b5 with
                  | true =>
                    have P5 := Lib.hid (hp5 rfl)
                    clear hp5 hb5
                    go_wp2_with fail
                    go_ret
                    exact ⟨_, rfl, fun _ => template_fine E.out P1.out (fun z hz => by rw [HX0.out] at hz; cases hz; exact P5.out), B5.out⟩
                  | false =>
                    clear hp5 hb5
                    go_wp2_with fail
                    go_ret
                    exact ⟨_, rfl, fun e => Bool.noConfusion e, B5.out⟩
        · have R : Hid (Below (w.alloc (.cells #[.string t.kind, .string t.text, .int .i64 t.num, .slice (some ⟨b, o, none⟩) t.kids.length c] 24)).heap.size (w.alloc (.cells #[.string t.kind, .string t.text, .int .i64 t.num, .slice (some ⟨b, o, none⟩) t.kids.length c] 24)) (w.alloc (.cells #[.string t.kind, .string t.text, .int .i64 t.num, .slice (some ⟨b, o, none⟩) t.kids.length c] 24))) := Below.refl _ _
          have D0 : Hid ((w.alloc (.cells #[.string t.kind, .string t.text, .int .i64 t.num, .slice (some ⟨b, o, none⟩) t.kids.length c] 24)).cell? ⟨w.heap.size, 0, none⟩ = some (.string t.kind)) := (World.cell?_alloc_at (w := w) _ _ _ _ rfl).trans (by simp)
          have D1 : Hid ((w.alloc (.cells #[.string t.kind, .string t.text, .int .i64 t.num, .slice (some ⟨b, o, none⟩) t.kids.length c] 24)).cell? ⟨w.heap.size, 1, none⟩ = some (.string t.text)) := (World.cell?_alloc_at (w := w) _ _ _ _ rfl).trans (by simp)
          have D2 : Hid ((w.alloc (.cells #[.string t.kind, .string t.text, .int .i64 t.num, .slice (some ⟨b, o, none⟩) t.kids.length c] 24)).cell? ⟨w.heap.size, 2, none⟩ = some (.int .i64 t.num)) := (World.cell?_alloc_at (w := w) _ _ _ _ rfl).trans (by simp)
          have D3 : Hid ((w.alloc (.cells #[.string t.kind, .string t.text, .int .i64 t.num, .slice (some ⟨b, o, none⟩) t.kids.length c] 24)).cell? ⟨w.heap.size, 3, none⟩ = some (.slice (some ⟨b, o, none⟩) t.kids.length c)) := (World.cell?_alloc_at (w := w) _ _ _ _ rfl).trans (by simp)
          go_enter Tryz.func22, Tryz.ntmps22
          go_wp2_with fail
          refine (HT.out t _ _ ⟨HI.out.tabs.below B.out, HI.out.kids.below B.out⟩).mono ?_
          rintro e w1 ⟨b1, rfl, hp1, hb1⟩
          have B1 := Lib.hid (B.out.trans (hb1.mono B.out.size))
          have R1 := Lib.hid (R.out.trans (hb1.mono R.out.size))
          cases b1 with
          | false =>
            clear hp1 hb1
            go_wp2_with fail
            go_ret
            exact ⟨_, rfl, fun e => Bool.noConfusion e, B1.out⟩
          | true =>
            have P1 := Lib.hid (hp1 rfl)
            clear hp1 hb1
            obtain ⟨hcw, hfw⟩ := bcell B1.out
            have m0 : w1.cell? ⟨b, o, none⟩ = some (.string x.kind) := (hcw _ _ hbl).trans x0
            have m1 : w1.cell? ⟨b, o + 1, none⟩ = some (.string x.text) := (hcw _ _ hbl).trans x1
            have m2 : w1.cell? ⟨b, o + 2, none⟩ = some (.int .i64 x.num) := (hcw _ _ hbl).trans x2
            have m3 : w1.cell? ⟨b, o + 3, none⟩ = some (.slice xa x.kids.length xc) := (hcw _ _ hbl).trans x3
            have d0 : w1.cell? ⟨w.heap.size, 0, none⟩ = some (.string t.kind) := ((bcell R1.out).1 w.heap.size 0 (by simp)).trans D0.out
            have d1 : w1.cell? ⟨w.heap.size, 1, none⟩ = some (.string t.text) := ((bcell R1.out).1 w.heap.size 1 (by simp)).trans D1.out
            have d2 : w1.cell? ⟨w.heap.size, 2, none⟩ = some (.int .i64 t.num) := ((bcell R1.out).1 w.heap.size 2 (by simp)).trans D2.out
            have d3 : w1.cell? ⟨w.heap.size, 3, none⟩ = some (.slice (some ⟨b, o, none⟩) t.kids.length c) := ((bcell R1.out).1 w.heap.size 3 (by simp)).trans D3.out
            clear hcw hfw
            go_wp2_with fail
            go_ret
            exact ⟨_, rfl, fun e => Bool.noConfusion e, B1.out⟩
      · go_enter Tryz.func22, Tryz.ntmps22
        go_wp2_with fail
        refine (HT.out t _ _ ⟨HI.out.tabs.below B.out, HI.out.kids.below B.out⟩).mono ?_
        rintro e w1 ⟨b1, rfl, hp1, hb1⟩
        have B1 := Lib.hid (B.out.trans (hb1.mono B.out.size))
        cases b1 with
        | true =>
          obtain ⟨_, _, x, y, l, e, _⟩ := hp1 rfl
          exact (hl2 (by rw [e]; simp)).elim
        | false =>
          clear hp1 hb1
          go_wp2_with fail
          go_ret
          exact ⟨_, rfl, fun e => Bool.noConfusion e, B1.out⟩
    · have k0 := kind_ne (a := t.kind) kTemplate e0 (l := [84, 101, 109, 112, 108, 97, 116, 101]) rfl
      clear e0
      have R : Hid (Below (w.alloc (.cells #[.string t.kind, .string t.text, .int .i64 t.num, .slice a t.kids.length c] 24)).heap.size (w.alloc (.cells #[.string t.kind, .string t.text, .int .i64 t.num, .slice a t.kids.length c] 24)) (w.alloc (.cells #[.string t.kind, .string t.text, .int .i64 t.num, .slice a t.kids.length c] 24))) := Below.refl _ _
      have D0 : Hid ((w.alloc (.cells #[.string t.kind, .string t.text, .int .i64 t.num, .slice a t.kids.length c] 24)).cell? ⟨w.heap.size, 0, none⟩ = some (.string t.kind)) := (World.cell?_alloc_at (w := w) _ _ _ _ rfl).trans (by simp)
      have D1 : Hid ((w.alloc (.cells #[.string t.kind, .string t.text, .int .i64 t.num, .slice a t.kids.length c] 24)).cell? ⟨w.heap.size, 1, none⟩ = some (.string t.text)) := (World.cell?_alloc_at (w := w) _ _ _ _ rfl).trans (by simp)
      have D2 : Hid ((w.alloc (.cells #[.string t.kind, .string t.text, .int .i64 t.num, .slice a t.kids.length c] 24)).cell? ⟨w.heap.size, 2, none⟩ = some (.int .i64 t.num)) := (World.cell?_alloc_at (w := w) _ _ _ _ rfl).trans (by simp)
      have D3 : Hid ((w.alloc (.cells #[.string t.kind, .string t.text, .int .i64 t.num, .slice a t.kids.length c] 24)).cell? ⟨w.heap.size, 3, none⟩ = some (.slice a t.kids.length c)) := (World.cell?_alloc_at (w := w) _ _ _ _ rfl).trans (by simp)
      go_enter Tryz.func22, Tryz.ntmps22
      go_wp2_with fail
      refine (HW1.out t _ _ ⟨HI.out.tabs.below B.out, HI.out.kids.below B.out⟩).mono ?_
      rintro e w1 ⟨b1, rfl, hp1, hb1⟩
      have B1 := Lib.hid (B.out.trans (hb1.mono B.out.size))
      have R1 := Lib.hid (R.out.trans (hb1.mono R.out.size))
      cases b1 with
      | true =>
        have P1 := Lib.hid (hp1 rfl)
        clear hp1 hb1
        go_wp2_with fail
        go_ret
        exact ⟨_, rfl, fun _ => P1.out, B1.out⟩
      | false =>
        clear hp1 hb1
        obtain ⟨hcw, hfw⟩ := bcell B1.out
        have d0 : w1.cell? ⟨w.heap.size, 0, none⟩ = some (.string t.kind) := ((bcell R1.out).1 w.heap.size 0 (by simp)).trans D0.out
        have d1 : w1.cell? ⟨w.heap.size, 1, none⟩ = some (.string t.text) := ((bcell R1.out).1 w.heap.size 1 (by simp)).trans D1.out
        have d2 : w1.cell? ⟨w.heap.size, 2, none⟩ = some (.int .i64 t.num) := ((bcell R1.out).1 w.heap.size 2 (by simp)).trans D2.out
        have d3 : w1.cell? ⟨w.heap.size, 3, none⟩ = some (.slice a t.kids.length c) := ((bcell R1.out).1 w.heap.size 3 (by simp)).trans D3.out
        clear hcw hfw
        go_wp2_with fail
        refine (HO1.out t _ _ ⟨HI.out.tabs.below B1.out, HI.out.kids.below B1.out⟩).mono ?_
        rintro e w2 ⟨b2, rfl, hp2, hb2⟩
        have B2 := Lib.hid (B1.out.trans (hb2.mono B1.out.size))
        have R2 := Lib.hid (R1.out.trans (hb2.mono R1.out.size))
        cases b2 with
        | true =>
          have P2 := Lib.hid (hp2 rfl)
          clear hp2 hb2
          go_wp2_with fail
          go_ret
          exact ⟨_, rfl, fun _ => P2.out, B2.out⟩
        | false =>
          clear d0 d1 d2 d3
          clear hp2 hb2
          obtain ⟨hcw, hfw⟩ := bcell B2.out
          have d0 : w2.cell? ⟨w.heap.size, 0, none⟩ = some (.string t.kind) := ((bcell R2.out).1 w.heap.size 0 (by simp)).trans D0.out
          have d1 : w2.cell? ⟨w.heap.size, 1, none⟩ = some (.string t.text) := ((bcell R2.out).1 w.heap.size 1 (by simp)).trans D1.out
          have d2 : w2.cell? ⟨w.heap.size, 2, none⟩ = some (.int .i64 t.num) := ((bcell R2.out).1 w.heap.size 2 (by simp)).trans D2.out
          have d3 : w2.cell? ⟨w.heap.size, 3, none⟩ = some (.slice a t.kids.length c) := ((bcell R2.out).1 w.heap.size 3 (by simp)).trans D3.out
          clear hcw hfw
          go_wp2_with fail
          refine (HM1.out t _ _ ⟨HI.out.tabs.below B2.out, HI.out.kids.below B2.out⟩).mono ?_
          rintro e w3 ⟨b3, rfl, hp3, hb3⟩
          have B3 := Lib.hid (B2.out.trans (hb3.mono B2.out.size))
          have R3 := Lib.hid (R2.out.trans (hb3.mono R2.out.size))
          cases b3 with
          | true =>
            have P3 := Lib.hid (hp3 rfl)
            clear hp3 hb3
            go_wp2_with fail
            go_ret
            exact ⟨_, rfl, fun _ => P3.out, B3.out⟩
          | false =>
            clear d0 d1 d2 d3
            clear hp3 hb3
            obtain ⟨hcw, hfw⟩ := bcell B3.out
            have d0 : w3.cell? ⟨w.heap.size, 0, none⟩ = some (.string t.kind) := ((bcell R3.out).1 w.heap.size 0 (by simp)).trans D0.out
            have d1 : w3.cell? ⟨w.heap.size, 1, none⟩ = some (.string t.text) := ((bcell R3.out).1 w.heap.size 1 (by simp)).trans D1.out
            have d2 : w3.cell? ⟨w.heap.size, 2, none⟩ = some (.int .i64 t.num) := ((bcell R3.out).1 w.heap.size 2 (by simp)).trans D2.out
            have d3 : w3.cell? ⟨w.heap.size, 3, none⟩ = some (.slice a t.kids.length c) := ((bcell R3.out).1 w.heap.size 3 (by simp)).trans D3.out
            clear hcw hfw
            go_wp2_with fail
            refine (HC1.out t _ _ ⟨HI.out.tabs.below B3.out, HI.out.kids.below B3.out⟩).mono ?_
            rintro e w4 ⟨b4, rfl, hp4, hb4⟩
            have B4 := Lib.hid (B3.out.trans (hb4.mono B3.out.size))
            have R4 := Lib.hid (R3.out.trans (hb4.mono R3.out.size))
            cases b4 with
            | true =>
              have P4 := Lib.hid (hp4 rfl)
              clear hp4 hb4
              go_wp2_with fail
              go_ret
              exact ⟨_, rfl, fun _ => P4.out, B4.out⟩
            | false =>
              clear hp4 hb4
              go_wp2_with fail
              go_ret
              exact ⟨_, rfl, fun e => Bool.noConfusion e, B4.out⟩

set_option maxRecDepth 100000 in
set_option maxHeartbeats 4000000 in
theorem returnsC (d : Nat) (t : Tree) (kv : Value) (w : World) (h : In w d t kv) (hf : Fine d t) :
    Calls Tryz.prog 24 #[.agg #[.string t.kind, .string t.text, .int .i64 t.num, kv]] w (Ans w True) := by
  cases d with
  | zero => exact h.kids.elim
  | succ d =>
    have HI := Lib.hid h
    obtain ⟨hk, ht, hwf, a, c, rfl, hl, hc, hkids⟩ := h.kids
    have HK := Lib.hid hkids
    have B := Lib.hid (below1 w (.cells #[.string t.kind, .string t.text, .int .i64 t.num, .slice a t.kids.length c] 24))
    have PL : ∀ w1 n, Below w.heap.size w w1 → Calls Tryz.prog 21 #[.agg #[.string t.kind, .string t.text, .int .i64 t.num, .slice a t.kids.length c], .int .i64 (n : Nat)] w1 (Ans w1 (PlainT t n)) := fun w1 n hb => plainC t _ n (d + 1) _ (h.kids.below hb)
    have PLH := Lib.hid PL
    clear PL
    have HM := Lib.hid (isMakerC d)
    by_cases e0 : t.kind = kTemplate
    · have k0 := kind_is (a := t.kind) kTemplate e0 (l := [84, 101, 109, 112, 108, 97, 116, 101]) rfl
      obtain ⟨x', l, ex, fx⟩ := fine_template hf e0
      have hl2 : 0 < t.kids.length := by rw [ex]; simp
      obtain ⟨x, b, o, xa, xc, hx0, hxm, rfl, hbl, ⟨x0, x1, x2, x3⟩, KX⟩ := kid0 HK.out hl2
      have HX := Lib.hid KX
      clear KX hx0 hxm hkids h hf ex fx e0
      go_enter Tryz.func24, Tryz.ntmps24
      go_wp2_with fail
      refine (HM.out x _ _ ⟨HI.out.tabs.below B.out, HX.out.below B.out⟩).mono ?_
      rintro e w1 ⟨b1, rfl, hp1, hb1⟩
      have B1 := Lib.hid (B.out.trans (hb1.mono B.out.size))
      clear hp1 hb1
      cases b1
      all_goals go_wp2_with fail
      all_goals go_ret
      all_goals exact ⟨_, rfl, fun _ => trivial, B1.out⟩
    · have k0 := kind_ne (a := t.kind) kTemplate e0 (l := [84, 101, 109, 112, 108, 97, 116, 101]) rfl
      clear e0 h hf hkids
      go_enter Tryz.func24, Tryz.ntmps24
      go_wp2_with fail
      go_ret
      exact ⟨_, rfl, fun _ => trivial, B.out⟩
end Go.Proofs.YtlfbmpenekiigaaGreatDoor
