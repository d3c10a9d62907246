/- laws.FnWalkRoot returns true, for every node; conditions: the node reads as a tree, the tables hold texts. -/
import Derived.Test.YteojmibojkkheaaGreatDoorWalk
import Derived.Test.YteojmibojkkheaaGreatDoorSpecY
import Derived.BigQuiet
namespace Go.Proofs.YteojmibojkkheaaGreatDoor
open Go.ChangeShapes Go.WideShapes Go.ChangeAt Go.RowKit
set_option linter.unusedVariables false

set_option maxRecDepth 100000 in
set_option maxHeartbeats 4000000 in
theorem fits2C (d : Nat) (t : Tree) (kv : Value) (w : World) (h : KidsAt w d t kv) : Calls Tryz.prog 4 #[.agg #[.string t.kind, .string t.text, .int .i64 t.num, kv]] w (Ans w True) := by
  obtain ⟨h1, h2, a, c, rfl, h3, h4⟩ := h.parts
  have B := Lib.hid (below1 w (.cells #[.string t.kind, .string t.text, .int .i64 t.num, .slice a t.kids.length c] 24))
  clear h
  go_enter Tryz.func4, Tryz.ntmps4
  go_wp2_with fail
  all_goals go_ret
  all_goals exact ⟨_, rfl, fun _ => trivial, B.out⟩

def True1 (w : World) (e : Ending) (w' : World) : Prop := e = .returned (.bool true) ∧ Below w.heap.size w w'

set_option maxRecDepth 100000 in
set_option maxHeartbeats 4000000 in
theorem law_walk (d : Nat) (t : Tree) (kv : Value) (w : World) (h : In w d t kv) : Calls Tryz.prog 3 #[.agg #[.string t.kind, .string t.text, .int .i64 t.num, kv]] w (True1 w) := by
  obtain ⟨a, c, rfl⟩ := h.kids.form
  have HI := Lib.hid h
  have HT := Lib.hid (known d).typ
  have B := Lib.hid (below1 w (.cells #[.string t.kind, .string t.text, .int .i64 t.num, .slice a t.kids.length c] 24))
  clear h
  have R : Hid (Below (w.alloc (.cells #[.string t.kind, .string t.text, .int .i64 t.num, .slice a t.kids.length c] 24)).heap.size (w.alloc (.cells #[.string t.kind, .string t.text, .int .i64 t.num, .slice a t.kids.length c] 24)) (w.alloc (.cells #[.string t.kind, .string t.text, .int .i64 t.num, .slice a t.kids.length c] 24))) := Below.refl _ _
  have D0 : Hid ((w.alloc (.cells #[.string t.kind, .string t.text, .int .i64 t.num, .slice a t.kids.length c] 24)).cell? ⟨w.heap.size, 0, none⟩ = some (.string t.kind)) := (World.cell?_alloc_at (w := w) _ _ _ _ rfl).trans (by simp)
  have D1 : Hid ((w.alloc (.cells #[.string t.kind, .string t.text, .int .i64 t.num, .slice a t.kids.length c] 24)).cell? ⟨w.heap.size, 1, none⟩ = some (.string t.text)) := (World.cell?_alloc_at (w := w) _ _ _ _ rfl).trans (by simp)
  have D2 : Hid ((w.alloc (.cells #[.string t.kind, .string t.text, .int .i64 t.num, .slice a t.kids.length c] 24)).cell? ⟨w.heap.size, 2, none⟩ = some (.int .i64 t.num)) := (World.cell?_alloc_at (w := w) _ _ _ _ rfl).trans (by simp)
  have D3 : Hid ((w.alloc (.cells #[.string t.kind, .string t.text, .int .i64 t.num, .slice a t.kids.length c] 24)).cell? ⟨w.heap.size, 3, none⟩ = some (.slice a t.kids.length c)) := (World.cell?_alloc_at (w := w) _ _ _ _ rfl).trans (by simp)
  go_enter Tryz.func3, Tryz.ntmps3
  go_wp2_with fail
  refine (fits2C d t _ _ (HI.out.kids.below B.out)).mono ?_
  rintro e w1 ⟨b1, rfl, hp1, hb1⟩
  have B1 := Lib.hid (B.out.trans (hb1.mono B.out.size))
  have R1 := Lib.hid (R.out.trans (hb1.mono R.out.size))
  cases b1 with
  | false =>
    clear hp1 hb1
    go_wp2_with fail
    go_ret
    exact ⟨rfl, B1.out⟩
  | true =>
    have P1 := Lib.hid (hp1 rfl)
    clear hp1 hb1
    obtain ⟨hcw, hfw⟩ := bcell B1.out
    have d0 : w1.cell? ⟨w.heap.size, 0, none⟩ = some (.string t.kind) := ((bcell R1.out).1 w.heap.size 0 (by simp)).trans D0.out
    have d1 : w1.cell? ⟨w.heap.size, 1, none⟩ = some (.string t.text) := ((bcell R1.out).1 w.heap.size 1 (by simp)).trans D1.out
    have d2 : w1.cell? ⟨w.heap.size, 2, none⟩ = some (.int .i64 t.num) := ((bcell R1.out).1 w.heap.size 2 (by simp)).trans D2.out
    have d3 : w1.cell? ⟨w.heap.size, 3, none⟩ = some (.slice a t.kids.length c) := ((bcell R1.out).1 w.heap.size 3 (by simp)).trans D3.out
    clear hcw hfw
    go_wp2_with fail
    refine (smallC d t _ _ (HI.out.kids.below B1.out)).mono ?_
    rintro e w2 ⟨b2, rfl, hp2, hb2⟩
    have B2 := Lib.hid (B1.out.trans (hb2.mono B1.out.size))
    have R2 := Lib.hid (R1.out.trans (hb2.mono R1.out.size))
    cases b2 with
    | false =>
      clear hp2 hb2
      go_wp2_with fail
      go_ret
      exact ⟨rfl, B2.out⟩
    | true =>
      have P2 := Lib.hid (hp2 rfl)
      clear d0 d1 d2 d3
      clear hp2 hb2
      obtain ⟨hcw, hfw⟩ := bcell B2.out
      have d0 : w2.cell? ⟨w.heap.size, 0, none⟩ = some (.string t.kind) := ((bcell R2.out).1 w.heap.size 0 (by simp)).trans D0.out
      have d1 : w2.cell? ⟨w.heap.size, 1, none⟩ = some (.string t.text) := ((bcell R2.out).1 w.heap.size 1 (by simp)).trans D1.out
      have d2 : w2.cell? ⟨w.heap.size, 2, none⟩ = some (.int .i64 t.num) := ((bcell R2.out).1 w.heap.size 2 (by simp)).trans D2.out
      have d3 : w2.cell? ⟨w.heap.size, 3, none⟩ = some (.slice a t.kids.length c) := ((bcell R2.out).1 w.heap.size 3 (by simp)).trans D3.out
      clear hcw hfw
      go_wp2_with fail
      refine (isEncodingC d t _ _ ⟨HI.out.tabs.below B2.out, HI.out.kids.below B2.out⟩).mono ?_
      rintro e w3 ⟨b3, rfl, hp3, hb3⟩
      have B3 := Lib.hid (B2.out.trans (hb3.mono B2.out.size))
      have R3 := Lib.hid (R2.out.trans (hb3.mono R2.out.size))
      cases b3 with
      | true =>
        have P3 := Lib.hid (hp3 rfl)
        clear d0 d1 d2 d3
        clear hp3 hb3
        obtain ⟨hcw, hfw⟩ := bcell B3.out
        have d0 : w3.cell? ⟨w.heap.size, 0, none⟩ = some (.string t.kind) := ((bcell R3.out).1 w.heap.size 0 (by simp)).trans D0.out
        have d1 : w3.cell? ⟨w.heap.size, 1, none⟩ = some (.string t.text) := ((bcell R3.out).1 w.heap.size 1 (by simp)).trans D1.out
        have d2 : w3.cell? ⟨w.heap.size, 2, none⟩ = some (.int .i64 t.num) := ((bcell R3.out).1 w.heap.size 2 (by simp)).trans D2.out
        have d3 : w3.cell? ⟨w.heap.size, 3, none⟩ = some (.slice a t.kids.length c) := ((bcell R3.out).1 w.heap.size 3 (by simp)).trans D3.out
        clear hcw hfw
        go_wp2_with fail
        refine (walkC d t _ _ ⟨HI.out.kids.below B3.out, P3.out.1, P2.out⟩ P3.out).mono ?_
        rintro e wz ⟨g, cap, rfl, hgz, hbz⟩
        have BZ := Lib.hid (B3.out.trans (hbz.mono B3.out.size))
        have RZ := Lib.hid (R3.out.trans (hbz.mono R3.out.size))
        clear d0 d1 d2 d3
        clear hbz
        have d0 : wz.cell? ⟨w.heap.size, 0, none⟩ = some (.string t.kind) := ((bcell RZ.out).1 w.heap.size 0 (by simp)).trans D0.out
        go_wp2_with fail
        go_quiet (fail)
        go_wp2_with fail
        go_ret
        exact ⟨rfl, below_drewN BZ.out _⟩
      | false =>
        clear d0 d1 d2 d3
        clear hp3 hb3
        obtain ⟨hcw, hfw⟩ := bcell B3.out
        have d0 : w3.cell? ⟨w.heap.size, 0, none⟩ = some (.string t.kind) := ((bcell R3.out).1 w.heap.size 0 (by simp)).trans D0.out
        have d1 : w3.cell? ⟨w.heap.size, 1, none⟩ = some (.string t.text) := ((bcell R3.out).1 w.heap.size 1 (by simp)).trans D1.out
        have d2 : w3.cell? ⟨w.heap.size, 2, none⟩ = some (.int .i64 t.num) := ((bcell R3.out).1 w.heap.size 2 (by simp)).trans D2.out
        have d3 : w3.cell? ⟨w.heap.size, 3, none⟩ = some (.slice a t.kids.length c) := ((bcell R3.out).1 w.heap.size 3 (by simp)).trans D3.out
        clear hcw hfw
        go_wp2_with fail
        refine (HT.out t _ _ ⟨HI.out.tabs.below B3.out, HI.out.kids.below B3.out⟩).mono ?_
        rintro e w4 ⟨b4, rfl, hp4, hb4⟩
        have B4 := Lib.hid (B3.out.trans (hb4.mono B3.out.size))
        have R4 := Lib.hid (R3.out.trans (hb4.mono R3.out.size))
        cases b4 with
        | false =>
          clear hp4 hb4
          go_wp2_with fail
          go_ret
          exact ⟨rfl, B4.out⟩
        | true =>
          have P4 := Lib.hid (hp4 rfl)
          clear d0 d1 d2 d3
          clear hp4 hb4
          obtain ⟨hcw, hfw⟩ := bcell B4.out
          have d0 : w4.cell? ⟨w.heap.size, 0, none⟩ = some (.string t.kind) := ((bcell R4.out).1 w.heap.size 0 (by simp)).trans D0.out
          have d1 : w4.cell? ⟨w.heap.size, 1, none⟩ = some (.string t.text) := ((bcell R4.out).1 w.heap.size 1 (by simp)).trans D1.out
          have d2 : w4.cell? ⟨w.heap.size, 2, none⟩ = some (.int .i64 t.num) := ((bcell R4.out).1 w.heap.size 2 (by simp)).trans D2.out
          have d3 : w4.cell? ⟨w.heap.size, 3, none⟩ = some (.slice a t.kids.length c) := ((bcell R4.out).1 w.heap.size 3 (by simp)).trans D3.out
          clear hcw hfw
          go_wp2_with fail
          refine (walkC d t _ _ ⟨HI.out.kids.below B4.out, P4.out.1, P2.out⟩ P4.out).mono ?_
          rintro e wz ⟨g, cap, rfl, hgz, hbz⟩
          have BZ := Lib.hid (B4.out.trans (hbz.mono B4.out.size))
          have RZ := Lib.hid (R4.out.trans (hbz.mono R4.out.size))
          clear d0 d1 d2 d3
          clear hbz
          have d0 : wz.cell? ⟨w.heap.size, 0, none⟩ = some (.string t.kind) := ((bcell RZ.out).1 w.heap.size 0 (by simp)).trans D0.out
          go_wp2_with fail
          go_quiet (fail)
          go_wp2_with fail
          go_ret
          exact ⟨rfl, below_drewN BZ.out _⟩
end Go.Proofs.YteojmibojkkheaaGreatDoor
