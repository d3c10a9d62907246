/- laws.FnRenameBack returns true, for every node and every two texts; conditions: the node reads as a tree, the tables hold texts, the texts are within their bound. -/
import Derived.Test.YtlfbmpenekiigaaGreatDoorRename
import Derived.Test.YtlfbmpenekiigaaGreatDoorSpecY
import Derived.BigQuiet
namespace Go.Proofs.YtlfbmpenekiigaaGreatDoor
open Go.ChangeShapes Go.WideShapes Go.ChangeAt Go.RowKit
set_option linter.unusedVariables false

set_option maxRecDepth 100000 in
set_option maxHeartbeats 4000000 in
theorem fits2C (d : Nat) (t : Tree) (kv : Value) (w : World) (h : KidsAt w d t kv) : Calls Tryz.prog 4 #[.agg #[.string t.kind, .string t.text, .int .i64 t.num, kv]] w (Ans w True) := by
  obtain ⟨h1, h2, a, c, rfl, h3, h4⟩ := h.parts
  have B := Lib.hid (below1 w (.cells #[.string t.kind, .string t.text, .int .i64 t.num, .slice a t.kids.length c] 24))
  clear h
  go_enter Tryz.func4, Tryz.ntmps4
  go_wp2_with fail
  all_goals go_ret
  all_goals exact ⟨_, rfl, fun _ => trivial, B.out⟩

set_option maxRecDepth 100000 in
set_option maxHeartbeats 4000000 in
theorem copiedC (d : Nat) (t : Tree) (kv : Value) (w : World) (h : KidsAt w d t kv) : Calls Tryz.prog 7 #[.agg #[.string t.kind, .string t.text, .int .i64 t.num, kv]] w (Ans w (All (fun x => x.kind ≠ kVendorQualifier) d t)) := by
  obtain ⟨a, c, rfl⟩ := h.form
  have HI := Lib.hid h
  have B := Lib.hid (below1 w (.cells #[.string t.kind, .string t.text, .int .i64 t.num, .slice a t.kids.length c] 24))
  clear h
  go_enter Tryz.func7, Tryz.ntmps7
  go_wp2_with fail
  refine (hasC kVendorQualifier d t _ _ (HI.out.below B.out)).mono ?_
  rintro e w1 ⟨b1, rfl, hp1, hb1⟩
  have B1 := Lib.hid (B.out.trans (hb1.mono B.out.size))
  cases b1
  · have P1 := Lib.hid (hp1 rfl)
    clear hp1 hb1
    go_wp2_with fail
    go_ret
    exact ⟨_, rfl, fun _ => P1.out, B1.out⟩
  · clear hp1 hb1
    go_wp2_with fail
    go_ret
    exact ⟨_, rfl, fun e => Bool.noConfusion e, B1.out⟩

def True1 (w : World) (e : Ending) (w' : World) : Prop := e = .returned (.bool true) ∧ Below w.heap.size w w'

set_option maxRecDepth 100000 in
set_option maxHeartbeats 4000000 in
theorem law_rename (d : Nat) (t : Tree) (kv : Value) (f g : ByteArray) (w : World) (h : In w d t kv) (hfz : f.size ≤ maxLen) (hgz : g.size ≤ maxLen) : Calls Tryz.prog 3 #[.agg #[.string t.kind, .string t.text, .int .i64 t.num, kv], .string f, .string g] w (True1 w) := by
  obtain ⟨a, c, rfl⟩ := h.kids.form
  have HI := Lib.hid h
  have HFZ := Lib.hid hfz
  have HGZ := Lib.hid hgz
  have B := Lib.hid (below1 w (.cells #[.string t.kind, .string t.text, .int .i64 t.num, .slice a t.kids.length c] 24))
  unfold maxLen at hfz hgz
  clear h
  have R : Hid (Below (w.alloc (.cells #[.string t.kind, .string t.text, .int .i64 t.num, .slice a t.kids.length c] 24)).heap.size (w.alloc (.cells #[.string t.kind, .string t.text, .int .i64 t.num, .slice a t.kids.length c] 24)) (w.alloc (.cells #[.string t.kind, .string t.text, .int .i64 t.num, .slice a t.kids.length c] 24))) := Below.refl _ _
  have D0 : Hid ((w.alloc (.cells #[.string t.kind, .string t.text, .int .i64 t.num, .slice a t.kids.length c] 24)).cell? ⟨w.heap.size, 0, none⟩ = some (.string t.kind)) := (World.cell?_alloc_at (w := w) _ _ _ _ rfl).trans (by simp)
  have D1 : Hid ((w.alloc (.cells #[.string t.kind, .string t.text, .int .i64 t.num, .slice a t.kids.length c] 24)).cell? ⟨w.heap.size, 1, none⟩ = some (.string t.text)) := (World.cell?_alloc_at (w := w) _ _ _ _ rfl).trans (by simp)
  have D2 : Hid ((w.alloc (.cells #[.string t.kind, .string t.text, .int .i64 t.num, .slice a t.kids.length c] 24)).cell? ⟨w.heap.size, 2, none⟩ = some (.int .i64 t.num)) := (World.cell?_alloc_at (w := w) _ _ _ _ rfl).trans (by simp)
  have D3 : Hid ((w.alloc (.cells #[.string t.kind, .string t.text, .int .i64 t.num, .slice a t.kids.length c] 24)).cell? ⟨w.heap.size, 3, none⟩ = some (.slice a t.kids.length c)) := (World.cell?_alloc_at (w := w) _ _ _ _ rfl).trans (by simp)
  by_cases hF : (2147483647 : Int) < (f.size : Int)
  · skip
    go_enter Tryz.func3, Tryz.ntmps3
    go_wp2_with fail
    refine (fits2C d t _ _ (HI.out.kids.below B.out)).mono ?_
    rintro e w1 ⟨b1, rfl, hp1, hb1⟩
    have B1 := Lib.hid (B.out.trans (hb1.mono B.out.size))
    have R1 := Lib.hid (R.out.trans (hb1.mono R.out.size))
    cases b1 with
    | false =>
      clear hp1 hb1
      go_wp2_with fail
      go_ret
      exact ⟨rfl, B1.out⟩
    | true =>
      clear hp1 hb1
      obtain ⟨hcw, hfw⟩ := bcell B1.out
      have d0 : w1.cell? ⟨w.heap.size, 0, none⟩ = some (.string t.kind) := ((bcell R1.out).1 w.heap.size 0 (by simp)).trans D0.out
      have d1 : w1.cell? ⟨w.heap.size, 1, none⟩ = some (.string t.text) := ((bcell R1.out).1 w.heap.size 1 (by simp)).trans D1.out
      have d2 : w1.cell? ⟨w.heap.size, 2, none⟩ = some (.int .i64 t.num) := ((bcell R1.out).1 w.heap.size 2 (by simp)).trans D2.out
      have d3 : w1.cell? ⟨w.heap.size, 3, none⟩ = some (.slice a t.kids.length c) := ((bcell R1.out).1 w.heap.size 3 (by simp)).trans D3.out
      clear hcw hfw
      go_wp2_with fail
      go_ret
      exact ⟨rfl, B1.out⟩
  by_cases hG : (2147483647 : Int) < (g.size : Int)
  · skip
    go_enter Tryz.func3, Tryz.ntmps3
    go_wp2_with fail
    refine (fits2C d t _ _ (HI.out.kids.below B.out)).mono ?_
    rintro e w1 ⟨b1, rfl, hp1, hb1⟩
    have B1 := Lib.hid (B.out.trans (hb1.mono B.out.size))
    have R1 := Lib.hid (R.out.trans (hb1.mono R.out.size))
    cases b1 with
    | false =>
      clear hp1 hb1
      go_wp2_with fail
      go_ret
      exact ⟨rfl, B1.out⟩
    | true =>
      clear hp1 hb1
      obtain ⟨hcw, hfw⟩ := bcell B1.out
      have d0 : w1.cell? ⟨w.heap.size, 0, none⟩ = some (.string t.kind) := ((bcell R1.out).1 w.heap.size 0 (by simp)).trans D0.out
      have d1 : w1.cell? ⟨w.heap.size, 1, none⟩ = some (.string t.text) := ((bcell R1.out).1 w.heap.size 1 (by simp)).trans D1.out
      have d2 : w1.cell? ⟨w.heap.size, 2, none⟩ = some (.int .i64 t.num) := ((bcell R1.out).1 w.heap.size 2 (by simp)).trans D2.out
      have d3 : w1.cell? ⟨w.heap.size, 3, none⟩ = some (.slice a t.kids.length c) := ((bcell R1.out).1 w.heap.size 3 (by simp)).trans D3.out
      clear hcw hfw
      go_wp2_with fail
      go_ret
      exact ⟨rfl, B1.out⟩
  go_enter Tryz.func3, Tryz.ntmps3
  go_wp2_with fail
  refine (fits2C d t _ _ (HI.out.kids.below B.out)).mono ?_
  rintro e w1 ⟨b1, rfl, hp1, hb1⟩
  have B1 := Lib.hid (B.out.trans (hb1.mono B.out.size))
  have R1 := Lib.hid (R.out.trans (hb1.mono R.out.size))
  cases b1 with
  | false =>
    clear hp1 hb1
    go_wp2_with fail
    go_ret
    exact ⟨rfl, B1.out⟩
  | true =>
    clear hp1 hb1
    obtain ⟨hcw, hfw⟩ := bcell B1.out
    have d0 : w1.cell? ⟨w.heap.size, 0, none⟩ = some (.string t.kind) := ((bcell R1.out).1 w.heap.size 0 (by simp)).trans D0.out
    have d1 : w1.cell? ⟨w.heap.size, 1, none⟩ = some (.string t.text) := ((bcell R1.out).1 w.heap.size 1 (by simp)).trans D1.out
    have d2 : w1.cell? ⟨w.heap.size, 2, none⟩ = some (.int .i64 t.num) := ((bcell R1.out).1 w.heap.size 2 (by simp)).trans D2.out
    have d3 : w1.cell? ⟨w.heap.size, 3, none⟩ = some (.slice a t.kids.length c) := ((bcell R1.out).1 w.heap.size 3 (by simp)).trans D3.out
    clear hcw hfw
    go_wp2_with fail
    refine (smallC d t _ _ (HI.out.kids.below B1.out)).mono ?_
    rintro e w2 ⟨b2, rfl, hp2, hb2⟩
    have B2 := Lib.hid (B1.out.trans (hb2.mono B1.out.size))
    have R2 := Lib.hid (R1.out.trans (hb2.mono R1.out.size))
    cases b2 with
    | false =>
      clear hp2 hb2
      go_wp2_with fail
      go_ret
      exact ⟨rfl, B2.out⟩
    | true =>
      have P2 := Lib.hid (hp2 rfl)
      clear d0 d1 d2 d3
      clear hp2 hb2
      obtain ⟨hcw, hfw⟩ := bcell B2.out
      have d0 : w2.cell? ⟨w.heap.size, 0, none⟩ = some (.string t.kind) := ((bcell R2.out).1 w.heap.size 0 (by simp)).trans D0.out
      have d1 : w2.cell? ⟨w.heap.size, 1, none⟩ = some (.string t.text) := ((bcell R2.out).1 w.heap.size 1 (by simp)).trans D1.out
      have d2 : w2.cell? ⟨w.heap.size, 2, none⟩ = some (.int .i64 t.num) := ((bcell R2.out).1 w.heap.size 2 (by simp)).trans D2.out
      have d3 : w2.cell? ⟨w.heap.size, 3, none⟩ = some (.slice a t.kids.length c) := ((bcell R2.out).1 w.heap.size 3 (by simp)).trans D3.out
      clear hcw hfw
      go_wp2_with fail
      refine (isEncodingC d t _ _ ⟨HI.out.tabs.below B2.out, HI.out.kids.below B2.out⟩).mono ?_
      rintro e w3 ⟨b3, rfl, hp3, hb3⟩
      have B3 := Lib.hid (B2.out.trans (hb3.mono B2.out.size))
      have R3 := Lib.hid (R2.out.trans (hb3.mono R2.out.size))
      cases b3 with
      | false =>
        clear hp3 hb3
        go_wp2_with fail
        go_ret
        exact ⟨rfl, B3.out⟩
      | true =>
        have P3 := Lib.hid (hp3 rfl)
        clear d0 d1 d2 d3
        clear hp3 hb3
        obtain ⟨hcw, hfw⟩ := bcell B3.out
        have d0 : w3.cell? ⟨w.heap.size, 0, none⟩ = some (.string t.kind) := ((bcell R3.out).1 w.heap.size 0 (by simp)).trans D0.out
        have d1 : w3.cell? ⟨w.heap.size, 1, none⟩ = some (.string t.text) := ((bcell R3.out).1 w.heap.size 1 (by simp)).trans D1.out
        have d2 : w3.cell? ⟨w.heap.size, 2, none⟩ = some (.int .i64 t.num) := ((bcell R3.out).1 w.heap.size 2 (by simp)).trans D2.out
        have d3 : w3.cell? ⟨w.heap.size, 3, none⟩ = some (.slice a t.kids.length c) := ((bcell R3.out).1 w.heap.size 3 (by simp)).trans D3.out
        clear hcw hfw
        go_wp2_with fail
        refine (copiedC d t _ _ (HI.out.kids.below B3.out)).mono ?_
        rintro e w4 ⟨b4, rfl, hp4, hb4⟩
        have B4 := Lib.hid (B3.out.trans (hb4.mono B3.out.size))
        have R4 := Lib.hid (R3.out.trans (hb4.mono R3.out.size))
        cases b4 with
        | false =>
          clear hp4 hb4
          go_wp2_with fail
          go_ret
          exact ⟨rfl, B4.out⟩
        | true =>
          have P4 := Lib.hid (hp4 rfl)
          clear d0 d1 d2 d3
          clear hp4 hb4
          obtain ⟨hcw, hfw⟩ := bcell B4.out
          have d0 : w4.cell? ⟨w.heap.size, 0, none⟩ = some (.string t.kind) := ((bcell R4.out).1 w.heap.size 0 (by simp)).trans D0.out
          have d1 : w4.cell? ⟨w.heap.size, 1, none⟩ = some (.string t.text) := ((bcell R4.out).1 w.heap.size 1 (by simp)).trans D1.out
          have d2 : w4.cell? ⟨w.heap.size, 2, none⟩ = some (.int .i64 t.num) := ((bcell R4.out).1 w.heap.size 2 (by simp)).trans D2.out
          have d3 : w4.cell? ⟨w.heap.size, 3, none⟩ = some (.slice a t.kids.length c) := ((bcell R4.out).1 w.heap.size 3 (by simp)).trans D3.out
          clear hcw hfw
          go_wp2_with fail
          refine (hasNameC g d t _ _ (HI.out.kids.below B4.out)).mono ?_
          rintro e w5 ⟨b5, rfl, hp5, hb5⟩
          have B5 := Lib.hid (B4.out.trans (hb5.mono B4.out.size))
          have R5 := Lib.hid (R4.out.trans (hb5.mono R4.out.size))
          cases b5 with
          | true =>
            clear hp5 hb5
            go_wp2_with fail
            go_ret
            exact ⟨rfl, B5.out⟩
          | false =>
            have P5 := Lib.hid (show ¬ has g d t from fun h => Bool.noConfusion (hp5.2 h))
            clear d0 d1 d2 d3
            clear hp5 hb5
            obtain ⟨hcw, hfw⟩ := bcell B5.out
            have d0 : w5.cell? ⟨w.heap.size, 0, none⟩ = some (.string t.kind) := ((bcell R5.out).1 w.heap.size 0 (by simp)).trans D0.out
            have d1 : w5.cell? ⟨w.heap.size, 1, none⟩ = some (.string t.text) := ((bcell R5.out).1 w.heap.size 1 (by simp)).trans D1.out
            have d2 : w5.cell? ⟨w.heap.size, 2, none⟩ = some (.int .i64 t.num) := ((bcell R5.out).1 w.heap.size 2 (by simp)).trans D2.out
            have d3 : w5.cell? ⟨w.heap.size, 3, none⟩ = some (.slice a t.kids.length c) := ((bcell R5.out).1 w.heap.size 3 (by simp)).trans D3.out
            clear hcw hfw
            go_wp2_with fail
            refine (hasNameC f d t _ _ (HI.out.kids.below B5.out)).mono ?_
            rintro e w6 ⟨b6, rfl, hp6, hb6⟩
            have B6 := Lib.hid (B5.out.trans (hb6.mono B5.out.size))
            have R6 := Lib.hid (R5.out.trans (hb6.mono R5.out.size))
            cases b6 with
            | false =>
              clear hp6 hb6
              go_wp2_with fail
              go_ret
              exact ⟨rfl, B6.out⟩
            | true =>
              have P6 := Lib.hid (hp6.1 rfl)
              clear d0 d1 d2 d3
              clear hp6 hb6
              obtain ⟨hcw, hfw⟩ := bcell B6.out
              have d0 : w6.cell? ⟨w.heap.size, 0, none⟩ = some (.string t.kind) := ((bcell R6.out).1 w.heap.size 0 (by simp)).trans D0.out
              have d1 : w6.cell? ⟨w.heap.size, 1, none⟩ = some (.string t.text) := ((bcell R6.out).1 w.heap.size 1 (by simp)).trans D1.out
              have d2 : w6.cell? ⟨w.heap.size, 2, none⟩ = some (.int .i64 t.num) := ((bcell R6.out).1 w.heap.size 2 (by simp)).trans D2.out
              have d3 : w6.cell? ⟨w.heap.size, 3, none⟩ = some (.slice a t.kids.length c) := ((bcell R6.out).1 w.heap.size 3 (by simp)).trans D3.out
              clear hcw hfw
              have GD := Lib.hid (show Good2 w d t (.slice a t.kids.length c) from ⟨HI.out.kids, P3.out.1, P3.out.kind, (P4.out.and P2.out).imp (fun x h => h), sized_of HI.out.kids P2.out⟩)
              go_wp2_with fail
              refine (renameC d t _ f g _ (GD.out.below B6.out) HGZ.out P6.out).mono ?_
              rintro e w7 ⟨kv1, rfl, hg1, hb7⟩
              obtain ⟨t1, ht1⟩ : ∃ t1, t1 = ren f g d t := ⟨_, rfl⟩
              rw [← ht1] at hg1 ⊢
              obtain ⟨ya, yc, rfl⟩ := hg1.kids.form
              have GD1 := Lib.hid hg1
              have HT1 := Lib.hid ht1
              have B7 := Lib.hid (B6.out.trans (hb7.mono B6.out.size))
              have R7 := Lib.hid (R6.out.trans (hb7.mono R6.out.size))
              clear d0 d1 d2 d3 ht1 hg1 hb7
              have BX := Lib.hid (B7.out.trans ((below1 w7 (.cells #[.string t1.kind, .string t1.text, .int .i64 t1.num, .slice ya t1.kids.length yc] 24)).mono B7.out.size))
              have RX := Lib.hid (R7.out.trans ((below1 w7 (.cells #[.string t1.kind, .string t1.text, .int .i64 t1.num, .slice ya t1.kids.length yc] 24)).mono R7.out.size))
              have G7 := Lib.hid (below1 w7 (.cells #[.string t1.kind, .string t1.text, .int .i64 t1.num, .slice ya t1.kids.length yc] 24))
              go_wp2_with fail
              refine (renameC d t1 _ g f _ (GD1.out.below G7.out) HFZ.out (by rw [HT1.out]; exact ren_has f g d t P6.out)).mono ?_
              rintro e w8 ⟨kv2, rfl, hg2, hb8⟩
              have e2 : ren g f d t1 = t := by rw [HT1.out]; exact ren_back f g d t P3.out.1 P5.out
              rw [e2] at hg2 ⊢
              obtain ⟨za, zc, rfl⟩ := hg2.kids.form
              have GD2 := Lib.hid hg2
              have B8 := Lib.hid (BX.out.trans (hb8.mono BX.out.size))
              have R8 := Lib.hid (RX.out.trans (hb8.mono RX.out.size))
              clear e2 hg2 hb8
              have d0 : w8.cell? ⟨w.heap.size, 0, none⟩ = some (.string t.kind) := ((bcell R8.out).1 w.heap.size 0 (by simp)).trans D0.out
              have d1 : w8.cell? ⟨w.heap.size, 1, none⟩ = some (.string t.text) := ((bcell R8.out).1 w.heap.size 1 (by simp)).trans D1.out
              have d2 : w8.cell? ⟨w.heap.size, 2, none⟩ = some (.int .i64 t.num) := ((bcell R8.out).1 w.heap.size 2 (by simp)).trans D2.out
              have d3 : w8.cell? ⟨w.heap.size, 3, none⟩ = some (.slice a t.kids.length c) := ((bcell R8.out).1 w.heap.size 3 (by simp)).trans D3.out
              have hl8 := World.block_lt_of_cell? w8 _ d0
              have BZ := Lib.hid (B8.out.trans ((below1 w8 (.cells #[.string t.kind, .string t.text, .int .i64 t.num, .slice za t.kids.length zc] 24)).mono B8.out.size))
              have G8 := Lib.hid (below1 w8 (.cells #[.string t.kind, .string t.text, .int .i64 t.num, .slice za t.kids.length zc] 24))
              go_wp2_with fail
              refine (sameC d t t d _ _ _ (GD2.out.kids.below G8.out) (HI.out.kids.below BZ.out)).mono ?_
              rintro e w9 ⟨b9, rfl, hp9, hb9⟩
              obtain rfl := hp9.2 rfl
              have B9 := Lib.hid (BZ.out.trans (hb9.mono BZ.out.size))
              clear hp9 hb9
              go_wp2_with fail
              go_ret
              exact ⟨rfl, B9.out⟩
end Go.Proofs.YtlfbmpenekiigaaGreatDoor
