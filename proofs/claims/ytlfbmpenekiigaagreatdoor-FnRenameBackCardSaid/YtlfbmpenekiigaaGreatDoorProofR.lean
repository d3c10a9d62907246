/- The card of FnRenameBack, proved: the law returns true for every node and every two texts, and they read as before, where the tables of the builtin types and of the operators hold what the program's text lays; conditions: none but the card's own. -/
import Derived.Test.YtlfbmpenekiigaaGreatDoorLawR
import Derived.Test.YtlfbmpenekiigaaGreatDoorTable
import Derived.Test.YtlfbmpenekiigaaGreatDoorTie
import Derived.Test.YtlfbmpenekiigaaGreatDoorCards
import Derived.SevenTiedAt
import Derived.ShutString
namespace Go.Proofs.YtlfbmpenekiigaaGreatDoor.fnRenameBackProof
open Go.ChangeShapes Go.WideShapes Go.ChangeAt Go.RowKit
open Go.ChangeMaps (open_string shut_string)
set_option linter.unusedVariables false

theorem own : ownKnob Tryz.prog.godebug = none := by kernel_rfl
theorem laidOut : laidOutB Tryz.prog = true := by kernel_rfl
theorem gB : Tryz.prog.globalNamed "loop.example/pub-g01448/spec.builtins" = some 0 := by kernel_rfl
theorem tB : (Tryz.prog.globals[0]?).map (·.type) = some 159 := by kernel_rfl
theorem gO : Tryz.prog.globalNamed "loop.example/pub-g01448/spec.operators" = some 1 := by kernel_rfl
theorem tO : (Tryz.prog.globals[1]?).map (·.type) = some 161 := by kernel_rfl
theorem cStr : Tryz.prog.cellsOf 9 = 1 := by kernel_rfl

def bList : List (List UInt8) := [[118], [118, 111, 105, 100], [119], [119, 99, 104, 97, 114, 95, 116], [98], [98, 111, 111, 108], [99], [99, 104, 97, 114], [97], [115, 105, 103, 110, 101, 100, 32, 99, 104, 97, 114], [104], [117, 110, 115, 105, 103, 110, 101, 100, 32, 99, 104, 97, 114], [115], [115, 104, 111, 114, 116], [116], [117, 110, 115, 105, 103, 110, 101, 100, 32, 115, 104, 111, 114, 116], [105], [105, 110, 116], [106], [117, 110, 115, 105, 103, 110, 101, 100, 32, 105, 110, 116], [108], [108, 111, 110, 103], [109], [117, 110, 115, 105, 103, 110, 101, 100, 32, 108, 111, 110, 103], [120], [108, 111, 110, 103, 32, 108, 111, 110, 103], [121], [117, 110, 115, 105, 103, 110, 101, 100, 32, 108, 111, 110, 103, 32, 108, 111, 110, 103], [110], [95, 95, 105, 110, 116, 49, 50, 56], [111], [117, 110, 115, 105, 103, 110, 101, 100, 32, 95, 95, 105, 110, 116, 49, 50, 56], [102], [102, 108, 111, 97, 116], [100], [100, 111, 117, 98, 108, 101], [101], [108, 111, 110, 103, 32, 100, 111, 117, 98, 108, 101], [103], [95, 95, 102, 108, 111, 97, 116, 49, 50, 56], [122], [46, 46, 46], [68, 100], [100, 101, 99, 105, 109, 97, 108, 54, 52], [68, 101], [100, 101, 99, 105, 109, 97, 108, 49, 50, 56], [68, 102], [100, 101, 99, 105, 109, 97, 108, 51, 50], [68, 115], [99, 104, 97, 114, 49, 54, 95, 116], [68, 105], [99, 104, 97, 114, 51, 50, 95, 116], [68, 117], [99, 104, 97, 114, 56, 95, 116], [68, 97], [97, 117, 116, 111]]
def oList : List (List UInt8) := [[110, 119], [110, 101, 119], [110, 97], [110, 101, 119, 91, 93], [100, 108], [100, 101, 108, 101, 116, 101], [100, 97], [100, 101, 108, 101, 116, 101, 91, 93], [99, 111], [126], [112, 108], [43], [109, 105], [45], [109, 108], [42], [100, 118], [47], [114, 109], [37], [97, 110], [38], [111, 114], [124], [101, 111], [94], [97, 83], [61], [112, 76], [43, 61], [109, 73], [45, 61], [109, 76], [42, 61], [100, 86], [47, 61], [114, 77], [37, 61], [97, 78], [38, 61], [111, 82], [124, 61], [101, 79], [94, 61], [108, 115], [60, 60], [114, 115], [62, 62], [108, 83], [60, 60, 61], [114, 83], [62, 62, 61], [101, 113], [61, 61], [110, 101], [33, 61], [108, 116], [60], [103, 116], [62], [108, 101], [60, 61], [103, 101], [62, 61], [110, 116], [33], [97, 97], [38, 38], [111, 111], [124, 124], [112, 112], [43, 43], [109, 109], [45, 45], [99, 109], [44], [112, 109], [45, 62, 42], [112, 116], [45, 62], [99, 108], [40, 41], [105, 120], [91, 93]]
theorem laidB {H : Type} : (Rows.laid_loop_example_pub_g01448_spec_builtins : DataW H) = litsT bList := rfl
theorem laidO {H : Type} : (Rows.laid_loop_example_pub_g01448_spec_operators : DataW H) = litsT oList := rfl

theorem tabs_of_laid {W : World} (h : laidMetH Tryz.prog Rows.fnRenameBackRow.laid W) : Tabs W := by
  rw [MakeChecks.laidMetH_plain _ _ _ (by kernel_rfl)] at h
  obtain ⟨ps, ⟨g0, t0, cs0, f0, p0, q0, h1, h2, h3, h4, hr, _⟩, _⟩ := h
  obtain ⟨g1, t1, cs1, f1, p1, q1, k1, k2, k3, k4, _, _⟩ := hr
  obtain rfl := Option.some.inj (gB.symm.trans h1)
  obtain rfl := Option.some.inj (tB.symm.trans h2)
  obtain rfl := Option.some.inj (gO.symm.trans k1)
  obtain rfl := Option.some.inj (tO.symm.trans k2)
  refine ⟨fun j hj => ?_, fun j hj => ?_⟩
  · obtain ⟨s, hs, _⟩ := table_cells (L := bList) Tryz.underlying159 Tryz.underlying9 cStr h4 j hj
    exact ⟨s, by rw [World.var?_cell gB h3]; simpa using hs⟩
  · obtain ⟨s, hs, _⟩ := table_cells (L := oList) Tryz.underlying161 Tryz.underlying9 cStr k4 j hj
    exact ⟨s, by rw [World.var?_cell gO k3]; simpa using hs⟩

theorem door_met (os : Os) (args : Array Value) : laidMetH Tryz.prog Rows.fnRenameBackRow.laid ((World.doorLaid Tryz.prog 400 os).forCall (fun _ _ => 0) ⟨#[], args, []⟩).memory :=
  laidMetH_of_parts3 (fuel := 8) (laidMet_of_run' 8 (by kernel_rfl) (by kernel_rfl)) (by kernel_rfl) (by kernel_rfl)

theorem agg_of {cs : Array Value} {t : Tree} {kv : Value} (h : cs.toList = cellsT t kv) : cs = #[.string t.kind, .string t.text, .int .i64 t.num, kv] := by
  cases cs
  simpa [cellsT] using h

set_option maxRecDepth 100000 in
theorem lifted (os : Os) (started : os.Started) (H : Type) (enc : TypeId × Value → H) :
    ReturnsInHanded {} Tryz.checked os 3 .any (fun w args => (Rows.fnRenameBackSpec.pre enc Tryz.prog Tryz.f3 Rows.fnRenameBackRow.domain false w args ∧ laidMetH Tryz.prog Rows.fnRenameBackRow.laid w) ∧ sizedMet enc Tryz.prog Tryz.f3 (OpenSpec.ofChange Rows.fnRenameBackSpec) false w args)
      (Rows.fnRenameBackSpec.post enc Tryz.prog Tryz.f3 false true false false) := by
  refine returnsInHanded_of_change_and (C := Tryz.checked) (X := fun w _ => laidMetH Tryz.prog Rows.fnRenameBackRow.laid w) (fun _ _ _ hh h => h.of_heap hh) own started (by kernel_rfl) Tryz.func3
    (ChangeSpec.witness_shaped (enc := enc) (C := Tryz.checked) (os := os) (X := fun w _ => laidMetH Tryz.prog Rows.fnRenameBackRow.laid w) false (World.doorLaid Tryz.prog 400 os) #[.agg #[.string .empty, .string .empty, .int .i64 0, .slice none 0 0], .string .empty, .string .empty] 8 rfl (World.shaped_of_RefB (by kernel_rfl) (by kernel_rfl)) (by kernel_rfl) (by kernel_rfl) (by kernel_rfl) (door_met os _)) ?_
  intro W base args ds gs before hval0 hW _ _ hL _
  have hval : ∀ (j : Nat) t v, Tryz.f3.params[j]? = some t → args[j]? = some v → Value.okWide Tryz.prog W .any base t v := hval0
  have hW' := hW
  obtain ⟨p, q, hA0, hV, rfl, hfz, hnd⟩ := hW
  have hA : DataW.TrodAll enc Tryz.prog W 0 (fun _ => true) true Tryz.f3.params.toList args.toList ds p := hA0
  rw [Tryz.params3] at hA hval
  obtain ⟨v0, vs0, d0, ds0, p0, q0, hargs, rfl, rfl, h0, r0⟩ := trodAll_cons hA
  obtain ⟨v1, vs1, d1, ds1, p1, q1, rfl, rfl, rfl, h1, r1⟩ := trodAll_cons r0
  obtain ⟨v2, vs2, d2, ds2, p2, q2, rfl, rfl, rfl, h2, r2⟩ := trodAll_cons r1
  obtain ⟨rfl, rfl, rfl⟩ := trodAll_nil r2
  obtain rfl : args = #[v0, v1, v2] := by cases args; simp_all
  obtain ⟨cs, rfl, hsz⟩ := okWide_struct Tryz.underlying24 (hval 0 24 v0 rfl rfl)
  obtain ⟨s1, rfl, rfl, rfl, z1⟩ := open_string Tryz.underlying9 (hval 1 9 v1 rfl rfl) h1
  obtain ⟨s2, rfl, rfl, rfl, z2⟩ := open_string Tryz.underlying9 (hval 2 9 v2 rfl rfl) h2
  have k0 := h0
  have lt0 : ∀ x ∈ p0, x.block < W.heap.size := by obtain ⟨m, hm⟩ := k0; exact DataW.trod_lt m _ _ _ hm
  obtain ⟨fuel, hm⟩ := k0
  obtain ⟨t, kv, e, K⟩ := tree_open fuel _ _ hm
  obtain rfl := agg_of e
  clear hA0 hval0 hm
  have T := tabs_of_laid hL
  have hV' := hV
  obtain ⟨g0, t0, cs0, f0, dv0, pv0, g1, t1, cs1, f1, dv1, pv1, rfl, _, _, _, _, _, _, _, _, rfl⟩ := trodVars_two hV'
  refine (law_rename fuel t kv s1 s2 W ⟨T, K⟩ z1 z2).mono fun e W' ⟨he, bel⟩ => ?_
  subst he
  refine ⟨_, rfl, _, _, _, [], _, MemPlace.row ⟨g0, 0, none⟩ cs0.size ++ pv0 ++ (MemPlace.row ⟨g1, 0, none⟩ cs1.size ++ pv1), hW', trodAll_mk1 (shut_bool Tryz.underlying4 _), trodAll_cons_mk (Below.trod laidOut (by kernel_rfl) (of_decide_eq_true (by kernel_rfl)) h0 bel lt0) (trodAll_cons_mk (shut_string Tryz.underlying9 z1) (trodAll_cons_mk (shut_string Tryz.underlying9 z2) trodAll_mk0)), ?_, bel.frame _, fun h => by cases h⟩
  refine vars_below laidOut bel (fun m hm g t h1 h2 => ?_) hV
  have hm' : m = "loop.example/pub-g01448/spec.builtins" ∨ m = "loop.example/pub-g01448/spec.operators" := by simpa [Rows.fnRenameBackSpec] using hm
  rcases hm' with rfl | rfl
  · obtain rfl := Option.some.inj (gB.symm.trans h1)
    obtain rfl := Option.some.inj (tB.symm.trans h2)
    exact ⟨by kernel_rfl, of_decide_eq_true (by kernel_rfl)⟩
  · obtain rfl := Option.some.inj (gO.symm.trans h1)
    obtain rfl := Option.some.inj (tO.symm.trans h2)
    exact ⟨by kernel_rfl, of_decide_eq_true (by kernel_rfl)⟩

theorem over : Rows.FnRenameBackSaid :=
  OpenClaim.holds_of_wide 3 Tryz.f3 rfl rfl rfl rfl rfl rfl rfl ⟨rfl, rfl, rfl, rfl, rfl⟩ rfl rfl rfl rfl rfl (by kernel_rfl) Tryz.func3 (by kernel_rfl)
    (of_decide_eq_true (by kernel_rfl)) (by unfold Func.isWrapper; first | (rw [if_pos (by decide +kernel)]; kernel_rfl) | (rw [if_neg (by decide +kernel)]; exact ⟨rfl, rfl⟩))
    (fun os started H enc _ => lifted os started H enc)

theorem proved : Rows.FnRenameBackCardSaid :=
  Claim7.holds_tied_plain_at .later [] [.data, .data] true (true, "66dfd30ced2db7eb284de5157d66ac7fc4511afc5803ada34aa6a5f75114fb35") true
    over (fun _ h => by cases h) (by kernel_rfl) (fun _ h => by cases h) fnRenameBack_row_tie rfl ⟨rfl, rfl⟩ (by kernel_rfl) rfl
    (fun f fn hf hfn => by
      obtain rfl : f = 3 := Option.some.inj ((show Tryz.prog.funcNamed "loop.example/pub-g01448/laws.FnRenameBack" = some 3 by kernel_rfl).symm.trans hf) |>.symm
      obtain rfl : fn = Tryz.f3 := (Option.some.inj (Tryz.func3.symm.trans hfn)).symm
      exact ⟨by kernel_rfl, fun j t ht => by
        rw [Tryz.params3] at ht
        have hm : t ∈ [24, 9, 9] := by simpa using Array.mem_of_getElem? ht
        have hall : ([24, 9, 9].all fun u => !Tryz.prog.wantsStandIn u) = true := by kernel_rfl
        exact (show Tryz.prog.wantsStandIn t = false by simpa using List.all_eq_true.1 hall t hm)⟩)
    (by kernel_rfl)
#print axioms proved
end Go.Proofs.YtlfbmpenekiigaaGreatDoor.fnRenameBackProof
