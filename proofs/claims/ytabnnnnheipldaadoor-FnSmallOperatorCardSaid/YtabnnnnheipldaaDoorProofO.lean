/- The card of FnSmallOperator, proved: the law returns true for every input, where the table of the operators holds what the program's text lays; conditions: none but the card's own. -/
import Derived.Test.YtabnnnnheipldaaDoorLawO
import Derived.Test.YtabnnnnheipldaaDoorTable
import Derived.Test.YtabnnnnheipldaaDoorTie
import Derived.Test.YtabnnnnheipldaaDoorCards
import Derived.SevenTiedAt
namespace Go.Proofs.YtabnnnnheipldaaDoor.fnSmallOperatorProof
open Go.ChangeShapes Go.WideShapes Go.ChangeAt Go.RowKit
set_option linter.unusedVariables false

theorem own : ownKnob Tryd.prog.godebug = none := by kernel_rfl
theorem laidOut : laidOutB Tryd.prog = true := by kernel_rfl
theorem gOps : Tryd.prog.globalNamed "loop.example/pub-g01448/spec.operators" = some 0 := by kernel_rfl
theorem tOps : (Tryd.prog.globals[0]?).map (·.type) = some 27 := by kernel_rfl
theorem cStr : Tryd.prog.cellsOf 9 = 1 := by kernel_rfl

def opList : List (List UInt8) := [[110, 119], [110, 101, 119], [110, 97], [110, 101, 119, 91, 93], [100, 108], [100, 101, 108, 101, 116, 101], [100, 97], [100, 101, 108, 101, 116, 101, 91, 93], [99, 111], [126], [112, 108], [43], [109, 105], [45], [109, 108], [42], [100, 118], [47], [114, 109], [37], [97, 110], [38], [111, 114], [124], [101, 111], [94], [97, 83], [61], [112, 76], [43, 61], [109, 73], [45, 61], [109, 76], [42, 61], [100, 86], [47, 61], [114, 77], [37, 61], [97, 78], [38, 61], [111, 82], [124, 61], [101, 79], [94, 61], [108, 115], [60, 60], [114, 115], [62, 62], [108, 83], [60, 60, 61], [114, 83], [62, 62, 61], [101, 113], [61, 61], [110, 101], [33, 61], [108, 116], [60], [103, 116], [62], [108, 101], [60, 61], [103, 101], [62, 61], [110, 116], [33], [97, 97], [38, 38], [111, 111], [124, 124], [112, 112], [43, 43], [109, 109], [45, 45], [99, 109], [44], [112, 109], [45, 62, 42], [112, 116], [45, 62], [99, 108], [40, 41], [105, 120], [91, 93]]
theorem laid_eq {H : Type} : (Rows.laid_loop_example_pub_g01448_spec_operators : DataW H) = litsT opList := rfl

def fineL (l : List UInt8) : Bool := decide (0 < l.length) && decide (l.length ≤ 1000) && decide ((l.drop (l.length - 1)).take 1 ≠ [32])
theorem ops_fine : (List.range 42).all (fun r => match opList[r * 2 + 1]? with | some l => fineL l | none => false) = true := by decide

theorem fine_of {s : ByteArray} (h : fineL s.data.toList = true) : FineOp s := by
  simp only [fineL, Bool.and_eq_true, decide_eq_true_eq] at h
  have e : s.data.toList.length = s.size := Array.length_toList
  rw [e] at h
  refine ⟨h.1.1, h.1.2, ?_⟩
  rw [Lib.toList_data, Lib.extract_data]
  have e2 : s.size - (s.size - 1) = 1 := by have := h.1.1; omega
  rw [e2]
  exact h.2

theorem tab_of_laid {W : World} (h : laidMetH Tryd.prog Rows.fnSmallOperatorRow.laid W) : Tab W := by
  rw [MakeChecks.laidMetH_plain _ _ _ (by kernel_rfl)] at h
  obtain ⟨ps, ⟨g, t, cs, f, p, q, hg, ht, hv, hd, _, _⟩, _⟩ := h
  obtain rfl := Option.some.inj (gOps.symm.trans hg)
  obtain rfl := Option.some.inj (tOps.symm.trans ht)
  have key := table_cells (L := opList) Tryd.underlying27 Tryd.underlying9 cStr hd
  intro r hr
  obtain ⟨s, h1, h2, _⟩ := key (r * 2 + 1) (by omega)
  have h3 := List.all_eq_true.1 ops_fine r (List.mem_range.2 hr)
  rw [h2] at h3
  refine ⟨s, ?_, fine_of h3⟩
  rw [World.var?_cell hg hv]
  simpa using h1

theorem door_met (os : Os) (args : Array Value) : laidMetH Tryd.prog Rows.fnSmallOperatorRow.laid ((World.doorLaid Tryd.prog 400 os).forCall (fun _ _ => 0) ⟨#[], args, []⟩).memory :=
  laidMetH_of_parts3 (fuel := 8) (laidMet_of_run' 8 (by kernel_rfl) (by kernel_rfl)) (by kernel_rfl) (by kernel_rfl)

set_option maxRecDepth 100000 in
theorem lifted (os : Os) (started : os.Started) (H : Type) (enc : TypeId × Value → H) :
    ReturnsInHanded {} Tryd.checked os 3 .any (fun w args => (Rows.fnSmallOperatorSpec.pre enc Tryd.prog Tryd.f3 Rows.fnSmallOperatorRow.domain false w args ∧ laidMetH Tryd.prog Rows.fnSmallOperatorRow.laid w) ∧ sizedMet enc Tryd.prog Tryd.f3 (OpenSpec.ofChange Rows.fnSmallOperatorSpec) false w args)
      (Rows.fnSmallOperatorSpec.post enc Tryd.prog Tryd.f3 false true false false) := by
  refine returnsInHanded_of_change_and (C := Tryd.checked) (X := fun w _ => laidMetH Tryd.prog Rows.fnSmallOperatorRow.laid w) (fun _ _ _ hh h => h.of_heap hh) own started (by kernel_rfl) Tryd.func3
    (ChangeSpec.witness_shaped (enc := enc) (C := Tryd.checked) (os := os) (X := fun w _ => laidMetH Tryd.prog Rows.fnSmallOperatorRow.laid w) false (World.doorLaid Tryd.prog 400 os) #[.int .i64 0] 8 rfl (World.shaped_of_RefB (by kernel_rfl) (by kernel_rfl)) (by kernel_rfl) (by kernel_rfl) (by kernel_rfl) (door_met os _)) ?_
  intro W base args ds gs before hval0 hW _ _ hL _
  have hval : ∀ (j : Nat) t v, Tryd.f3.params[j]? = some t → args[j]? = some v → Value.okWide Tryd.prog W .any base t v := hval0
  have hW' := hW
  obtain ⟨p, q, hA0, hV, rfl, hfz, hnd⟩ := hW
  have hA : DataW.TrodAll enc Tryd.prog W 0 (fun _ => true) true Tryd.f3.params.toList args.toList ds p := hA0
  rw [Tryd.params3] at hA hval
  obtain ⟨v0, d0, rfl, rfl, h0⟩ := trodAll_one hA
  obtain ⟨n, rfl, rfl, rfl, wf⟩ := open_int Tryd.underlying3 (hval 0 3 v0 rfl rfl) h0
  obtain ⟨g, t, cs, fuel, d, p', rfl, hg, ht, hvar, hd, rfl⟩ := trodVars_one hV
  clear hA0 hval0
  have T := tab_of_laid hL
  refine (law_operator n W T).mono fun e W' ⟨he, bel⟩ => ?_
  subst he
  refine ⟨_, rfl, _, _, _, [], _, MemPlace.row ⟨g, 0, none⟩ cs.size ++ p', hW', trodAll_mk1 (shut_bool Tryd.underlying4 _), trodAll_mk1 (shut_int Tryd.underlying3 wf), ?_, bel.frame _, fun h => by cases h⟩
  refine vars_below laidOut bel (fun m hm g t h1 h2 => ?_) hV
  obtain rfl : m = "loop.example/pub-g01448/spec.operators" := by simpa [Rows.fnSmallOperatorSpec] using hm
  obtain rfl := Option.some.inj (gOps.symm.trans h1)
  obtain rfl := Option.some.inj (tOps.symm.trans h2)
  exact ⟨by kernel_rfl, of_decide_eq_true (by kernel_rfl)⟩

theorem over : Rows.FnSmallOperatorSaid :=
  OpenClaim.holds_of_wide 3 Tryd.f3 rfl rfl rfl rfl rfl rfl rfl ⟨rfl, rfl, rfl, rfl, rfl⟩ rfl rfl rfl rfl rfl (by kernel_rfl) Tryd.func3 (by kernel_rfl)
    (of_decide_eq_true (by kernel_rfl)) (by unfold Func.isWrapper; first | (rw [if_pos (by decide +kernel)]; kernel_rfl) | (rw [if_neg (by decide +kernel)]; exact ⟨rfl, rfl⟩))
    (fun os started H enc _ => lifted os started H enc)

theorem proved : Rows.FnSmallOperatorCardSaid :=
  Claim7.holds_tied_plain_at .later [] [.data] true (true, "1e033b038398ba5535ec60bdb55a2029df4b3298b9580ab29e03984276642e2f") true
    over (fun _ h => by cases h) (by kernel_rfl) (fun _ h => by cases h) fnSmallOperator_row_tie rfl ⟨rfl, rfl⟩ (by kernel_rfl) rfl
    (fun f fn hf hfn => by
      obtain rfl : f = 3 := Option.some.inj ((show Tryd.prog.funcNamed "loop.example/pub-g01448/laws.FnSmallOperator" = some 3 by kernel_rfl).symm.trans hf) |>.symm
      obtain rfl : fn = Tryd.f3 := (Option.some.inj (Tryd.func3.symm.trans hfn)).symm
      exact ⟨by kernel_rfl, fun j t ht => by
        rw [Tryd.params3] at ht
        have hm : t ∈ [3] := by simpa using Array.mem_of_getElem? ht
        have hall : ([3].all fun u => !Tryd.prog.wantsStandIn u) = true := by kernel_rfl
        exact (show Tryd.prog.wantsStandIn t = false by simpa using List.all_eq_true.1 hall t hm)⟩)
    (by kernel_rfl)
#print axioms proved
end Go.Proofs.YtabnnnnheipldaaDoor.fnSmallOperatorProof
