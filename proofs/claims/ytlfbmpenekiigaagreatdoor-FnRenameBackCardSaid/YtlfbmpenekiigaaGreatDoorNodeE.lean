/- impl.nodeOfMore, kind by kind; conditions: the element lies in memory, it is known what nodeOf makes of smaller ones. -/
import Derived.Test.YtlfbmpenekiigaaGreatDoorNodeG
import Derived.Test.YtlfbmpenekiigaaGreatDoorKindOf
namespace Go.Proofs.YtlfbmpenekiigaaGreatDoor
open Go.ChangeShapes Go.WideShapes Go.ChangeAt Go.RowKit
set_option linter.unusedVariables false

set_option maxRecDepth 100000 in
set_option maxHeartbeats 4000000 in
theorem nodeArrayType (d : Nat) (IH : NodeOf d) (w : World) (S : Nat → Prop) (t : Tree) (b : Nat) (hk : t.kind = kArrayType) (x y : Tree) (u v : Value) (ht : t.text = ByteArray.empty) (hn : t.num = 0) (hl : t.kids = [x, y]) (jx : AstAt w S d x u) (hkx : x.kind ≠ ByteArray.empty) (jy : AstAt w S d y v) (hky : y.kind ≠ ByteArray.empty) (low : ∀ c, S c → c < w.heap.size) (hsz : All Sized (d + 1) t) (d0 : w.cell? ⟨b, 0, none⟩ = some u) (d1 : w.cell? ⟨b, 1, none⟩ = some v) :
    Calls Tryz.prog 40 #[.string kArrayType, .iface 101 (.pointer (some ⟨b, 0, none⟩))] w (Noded w (d + 1) t) := by
  have KE := Lib.hid hk
  have TE := Lib.hid ht
  have NE := Lib.hid hn
  have LE := Lib.hid hl
  have HL := Lib.hid low
  have HSZ := Lib.hid hsz
  have H := Lib.hid IH
  have Jx := Lib.hid jx
  have Jy := Lib.hid jy
  have a0 : ∀ (a : Option Addr) (w : World), (Instr.typeAssert (.iface 101 (.pointer a)) 33 101 true).run Tryz.prog w = .ok (.tuple #[.pointer a, .bool true]) w := fun a w => by kernel_rfl
  have R1 : Hid (BoxAt (w.alloc (.cells #[.string ⟨#[]⟩, .string ⟨#[]⟩, .int .i64 0, .slice none 0 0] 24)) w.heap.size Tree.nil (.slice none 0 0)) := by show BoxAt _ _ _ _; unfold BoxAt; exact heap_alloc_new w _
  have BW := Lib.hid (below1 w (.cells #[.string ⟨#[]⟩, .string ⟨#[]⟩, .int .i64 0, .slice none 0 0] 24))
  obtain ⟨px, bkx, rfl, _⟩ := jx.ptr hkx
  obtain ⟨py, bky, rfl, _⟩ := jy.ptr hky
  clear hk ht hn hl low hsz IH jx jy
  go_enter Tryz.func40, Tryz.ntmps40
  go_wp2_with fail
  go_wp2_with fail
  refine T2.wp_region_tab 10 (TabF d kArrayType (⟨#[]⟩ : ByteArray) 0 ([x, y]) (w.alloc (.cells #[.string ⟨#[]⟩, .string ⟨#[]⟩, .int .i64 0, .slice none 0 0] 24)).drew) (TabF.stable d _ _ _ _ _) (by kernel_rfl) (by kernel_rfl) ?_
  simp only [List.take_succ_cons, List.take_zero, List.drop_succ_cons, List.drop_zero]
  obtain ⟨V, hV⟩ : ∃ V, V = (w.alloc (.cells #[.string ⟨#[]⟩, .string ⟨#[]⟩, .int .i64 0, .slice none 0 0] 24)).drew := ⟨_, rfl⟩
  rw [← hV]
  have BV : Hid (Below w.heap.size w V) := by rw [hV]; exact (below1 w (.cells #[.string ⟨#[]⟩, .string ⟨#[]⟩, .int .i64 0, .slice none 0 0] 24)).drew
  have RV : Hid (BoxAt V w.heap.size Tree.nil (.slice none 0 0)) := by rw [hV]; exact R1.out
  have m0 : V.cell? ⟨b, 0, none⟩ = some (.iface px (.pointer (some ⟨bkx, 0, none⟩))) := cells_below BV.out _ _ _ d0
  have m1 : V.cell? ⟨b, 1, none⟩ = some (.iface py (.pointer (some ⟨bky, 0, none⟩))) := cells_below BV.out _ _ _ d1
  have hlV := World.block_lt_of_cell? V _ m0
  have HV := Lib.hid hV
  clear hV
  refine T2.tab_value ?u98 ?g98 ?h98 ?_
  case g98 => kernel_rfl
  case h98 => (intro w' hw'; obtain ⟨hc', hf'⟩ := bcell hw'; go_simp; try with_reducible rfl)
  simp only [Act.put, List.setIfInBounds_toArray, List.set_cons_succ, List.set_cons_zero]
  refine T2.tab_value ?u99 ?g99 ?h99 ?_
  case g99 => kernel_rfl
  case h99 => (intro w' hw'; obtain ⟨hc', hf'⟩ := bcell hw'; go_simp; try with_reducible rfl)
  simp only [Act.put, List.setIfInBounds_toArray, List.set_cons_succ, List.set_cons_zero]
  refine T2.tab_value ?u100 ?g100 ?h100 ?_
  case g100 => kernel_rfl
  case h100 => (intro w' hw'; obtain ⟨hc', hf'⟩ := bcell hw'; go_simp; try with_reducible rfl)
  simp only [Act.put, List.setIfInBounds_toArray, List.set_cons_succ, List.set_cons_zero]
  refine T2.tab_value ?u101 ?g101 ?h101 ?_
  case g101 => kernel_rfl
  case h101 => (intro w' hw'; obtain ⟨hc', hf'⟩ := bcell hw'; go_simp; try with_reducible rfl)
  simp only [Act.put, List.setIfInBounds_toArray, List.set_cons_succ, List.set_cons_zero]
  refine T2.tab_value ?u102 ?g102 ?h102 ?_
  case g102 => kernel_rfl
  case h102 => (intro w' hw'; obtain ⟨hc', hf'⟩ := bcell hw'; go_simp; try with_reducible rfl)
  simp only [Act.put, List.setIfInBounds_toArray, List.set_cons_succ, List.set_cons_zero]
  refine T2.tab_value ?u103 ?g103 ?h103 ?_
  case g103 => kernel_rfl
  case h103 => (intro w' hw'; obtain ⟨hc', hf'⟩ := bcell hw'; go_simp; try with_reducible rfl)
  simp only [Act.put, List.setIfInBounds_toArray, List.set_cons_succ, List.set_cons_zero]
  refine T2.tab_value ?u104 ?g104 ?h104 ?_
  case g104 => kernel_rfl
  case h104 => (intro w' hw'; obtain ⟨hc', hf'⟩ := bcell hw'; go_simp; try with_reducible rfl)
  simp only [Act.put, List.setIfInBounds_toArray, List.set_cons_succ, List.set_cons_zero]
  refine T2.tab_value ?u105 ?g105 ?h105 ?_
  case g105 => kernel_rfl
  case h105 => (intro w' hw'; obtain ⟨hc', hf'⟩ := bcell hw'; go_simp; try with_reducible rfl)
  simp only [Act.put, List.setIfInBounds_toArray, List.set_cons_succ, List.set_cons_zero]
  refine T2.tab_value ?u106 ?g106 ?h106 ?_
  case g106 => kernel_rfl
  case h106 => (intro w' hw'; obtain ⟨hc', hf'⟩ := bcell hw'; go_simp; try with_reducible rfl)
  simp only [Act.put, List.setIfInBounds_toArray, List.set_cons_succ, List.set_cons_zero]
  refine T2.tab_slice 2 ?o107 ?g107 ?h107 ?_
  case g107 => kernel_rfl
  case h107 => (intro w' hw'; obtain ⟨hc', hf'⟩ := bcell hw'; go_simp; try with_reducible rfl)
  intro nb w1 he1 hlz hsz' hbz
  have NB := Lib.hid hbz
  have NS := Lib.hid hsz'
  clear hbz hsz' hlz
  simp only [Act.put, List.setIfInBounds_toArray, List.set_cons_succ, List.set_cons_zero]
  have E1 := Lib.hid he1
  clear he1
  refine T2.wpTab_nil (fun wy hey => ?_)
  have EY : Hid (Ext V wy) := Ext.trans (Ext.trans (Ext.refl V) E1.out) hey
  have BY := Lib.hid (BV.out.trans (Below.mono EY.out BV.out.size))
  have RY := Lib.hid (RV.out.stay (EY.out.block _ RV.out.lt))
  have NY := Lib.hid ((hey.block nb NS.out).trans NB.out)
  have NLY := Lib.hid (Nat.lt_of_lt_of_le NS.out hey.size)
  clear hey hlV m0 m1
  go_wp2_with fail
  refine (nodeC d H.out kArrayType (⟨#[]⟩ : ByteArray) 0 ([x, y]) _ _ (In0 _) (row_two NY.out NLY.out (Jx.out.all HL.out BY.out) (Jy.out.all HL.out BY.out)) (fun b h => h) (fun z hz => HSZ.out.2 z (by rw [LE.out]; exact hz)) (by have := HSZ.out.1.2.2.2; rw [LE.out] at this; first | (simp; done) | simpa using this)).mono ?_
  rintro e wz ⟨kv, rfl, hL, hbz⟩
  obtain ⟨na, nc, rfl⟩ := hL.form
  have BZ := Lib.hid (BY.out.trans (hbz.mono BY.out.size))
  have RZ := Lib.hid (RY.out.stay (hbz.block _ RY.out.lt))
  have LZ := Lib.hid hL
  have hpy := RY.out.lt
  have HP := Lib.hid hpy
  clear hL hbz hpy
  have r0 := RZ.out.c0
  have r1 := RZ.out.c1
  have r2 := RZ.out.c2
  have r3 := RZ.out.c3
  have f0 := RZ.out.free 0
  have f1 := RZ.out.free 1
  have f2 := RZ.out.free 2
  have f3 := RZ.out.free 3
  go_wp2_with fail
  have hb := RZ.out.put ⟨kArrayType, (⟨#[]⟩ : ByteArray), 0, [x, y]⟩ (.slice na 2 nc)
  have s0 := hb.c0
  have s1 := hb.c1
  have s2 := hb.c2
  have s3 := hb.c3
  refine bodyPost_ret (v := .agg #[.string kArrayType, .string (⟨#[]⟩ : ByteArray), .int .i64 0, .slice na 2 nc]) (by simp [results, Tryz.results40, go_sem, s0, s1, s2, s3]) rfl ⟨_, agg_eq KE.out.symm TE.out.symm NE.out.symm, KidsS.mk HSZ.out.1 (by rw [LE.out]; exact put_move LZ.out HP.out BY.out.size), below_put BZ.out (Nat.le_refl _) _ _ _ _⟩

set_option maxRecDepth 100000 in
set_option maxHeartbeats 4000000 in
theorem nodeVectorType (d : Nat) (IH : NodeOf d) (w : World) (S : Nat → Prop) (t : Tree) (b : Nat) (hk : t.kind = kVectorType) (x y : Tree) (u v : Value) (ht : t.text = ByteArray.empty) (hn : t.num = 0) (hl : t.kids = [x, y]) (jx : AstAt w S d x u) (hkx : x.kind ≠ ByteArray.empty) (jy : AstAt w S d y v) (hky : y.kind ≠ ByteArray.empty) (low : ∀ c, S c → c < w.heap.size) (hsz : All Sized (d + 1) t) (d0 : w.cell? ⟨b, 0, none⟩ = some u) (d1 : w.cell? ⟨b, 1, none⟩ = some v) :
    Calls Tryz.prog 40 #[.string kVectorType, .iface 104 (.pointer (some ⟨b, 0, none⟩))] w (Noded w (d + 1) t) := by
  have KE := Lib.hid hk
  have TE := Lib.hid ht
  have NE := Lib.hid hn
  have LE := Lib.hid hl
  have HL := Lib.hid low
  have HSZ := Lib.hid hsz
  have H := Lib.hid IH
  have Jx := Lib.hid jx
  have Jy := Lib.hid jy
  have a0 : ∀ (a : Option Addr) (w : World), (Instr.typeAssert (.iface 104 (.pointer a)) 33 101 true).run Tryz.prog w = .ok (.tuple #[.pointer none, .bool false]) w := fun a w => by kernel_rfl
  have a1 : ∀ (a : Option Addr) (w : World), (Instr.typeAssert (.iface 104 (.pointer a)) 33 104 true).run Tryz.prog w = .ok (.tuple #[.pointer a, .bool true]) w := fun a w => by kernel_rfl
  have R1 : Hid (BoxAt (w.alloc (.cells #[.string ⟨#[]⟩, .string ⟨#[]⟩, .int .i64 0, .slice none 0 0] 24)) w.heap.size Tree.nil (.slice none 0 0)) := by show BoxAt _ _ _ _; unfold BoxAt; exact heap_alloc_new w _
  have BW := Lib.hid (below1 w (.cells #[.string ⟨#[]⟩, .string ⟨#[]⟩, .int .i64 0, .slice none 0 0] 24))
  obtain ⟨px, bkx, rfl, _⟩ := jx.ptr hkx
  obtain ⟨py, bky, rfl, _⟩ := jy.ptr hky
  clear hk ht hn hl low hsz IH jx jy
  go_enter Tryz.func40, Tryz.ntmps40
  go_wp2_with fail
  go_wp2_with fail
  refine T2.wp_region_tab 10 (TabF d kVectorType (⟨#[]⟩ : ByteArray) 0 ([x, y]) (w.alloc (.cells #[.string ⟨#[]⟩, .string ⟨#[]⟩, .int .i64 0, .slice none 0 0] 24)).drew) (TabF.stable d _ _ _ _ _) (by kernel_rfl) (by kernel_rfl) ?_
  simp only [List.take_succ_cons, List.take_zero, List.drop_succ_cons, List.drop_zero]
  obtain ⟨V, hV⟩ : ∃ V, V = (w.alloc (.cells #[.string ⟨#[]⟩, .string ⟨#[]⟩, .int .i64 0, .slice none 0 0] 24)).drew := ⟨_, rfl⟩
  rw [← hV]
  have BV : Hid (Below w.heap.size w V) := by rw [hV]; exact (below1 w (.cells #[.string ⟨#[]⟩, .string ⟨#[]⟩, .int .i64 0, .slice none 0 0] 24)).drew
  have RV : Hid (BoxAt V w.heap.size Tree.nil (.slice none 0 0)) := by rw [hV]; exact R1.out
  have m0 : V.cell? ⟨b, 0, none⟩ = some (.iface px (.pointer (some ⟨bkx, 0, none⟩))) := cells_below BV.out _ _ _ d0
  have m1 : V.cell? ⟨b, 1, none⟩ = some (.iface py (.pointer (some ⟨bky, 0, none⟩))) := cells_below BV.out _ _ _ d1
  have hlV := World.block_lt_of_cell? V _ m0
  have HV := Lib.hid hV
  clear hV
  refine T2.tab_value ?u108 ?g108 ?h108 ?_
  case g108 => kernel_rfl
  case h108 => (intro w' hw'; obtain ⟨hc', hf'⟩ := bcell hw'; go_simp; try with_reducible rfl)
  simp only [Act.put, List.setIfInBounds_toArray, List.set_cons_succ, List.set_cons_zero]
  refine T2.tab_value ?u109 ?g109 ?h109 ?_
  case g109 => kernel_rfl
  case h109 => (intro w' hw'; obtain ⟨hc', hf'⟩ := bcell hw'; go_simp; try with_reducible rfl)
  simp only [Act.put, List.setIfInBounds_toArray, List.set_cons_succ, List.set_cons_zero]
  refine T2.tab_value ?u110 ?g110 ?h110 ?_
  case g110 => kernel_rfl
  case h110 => (intro w' hw'; obtain ⟨hc', hf'⟩ := bcell hw'; go_simp; try with_reducible rfl)
  simp only [Act.put, List.setIfInBounds_toArray, List.set_cons_succ, List.set_cons_zero]
  refine T2.tab_value ?u111 ?g111 ?h111 ?_
  case g111 => kernel_rfl
  case h111 => (intro w' hw'; obtain ⟨hc', hf'⟩ := bcell hw'; go_simp; try with_reducible rfl)
  simp only [Act.put, List.setIfInBounds_toArray, List.set_cons_succ, List.set_cons_zero]
  refine T2.tab_value ?u112 ?g112 ?h112 ?_
  case g112 => kernel_rfl
  case h112 => (intro w' hw'; obtain ⟨hc', hf'⟩ := bcell hw'; go_simp; try with_reducible rfl)
  simp only [Act.put, List.setIfInBounds_toArray, List.set_cons_succ, List.set_cons_zero]
  refine T2.tab_value ?u113 ?g113 ?h113 ?_
  case g113 => kernel_rfl
  case h113 => (intro w' hw'; obtain ⟨hc', hf'⟩ := bcell hw'; go_simp; try with_reducible rfl)
  simp only [Act.put, List.setIfInBounds_toArray, List.set_cons_succ, List.set_cons_zero]
  refine T2.tab_value ?u114 ?g114 ?h114 ?_
  case g114 => kernel_rfl
  case h114 => (intro w' hw'; obtain ⟨hc', hf'⟩ := bcell hw'; go_simp; try with_reducible rfl)
  simp only [Act.put, List.setIfInBounds_toArray, List.set_cons_succ, List.set_cons_zero]
  refine T2.tab_value ?u115 ?g115 ?h115 ?_
  case g115 => kernel_rfl
  case h115 => (intro w' hw'; obtain ⟨hc', hf'⟩ := bcell hw'; go_simp; try with_reducible rfl)
  simp only [Act.put, List.setIfInBounds_toArray, List.set_cons_succ, List.set_cons_zero]
  refine T2.tab_value ?u116 ?g116 ?h116 ?_
  case g116 => kernel_rfl
  case h116 => (intro w' hw'; obtain ⟨hc', hf'⟩ := bcell hw'; go_simp; try with_reducible rfl)
  simp only [Act.put, List.setIfInBounds_toArray, List.set_cons_succ, List.set_cons_zero]
  refine T2.tab_slice 2 ?o117 ?g117 ?h117 ?_
  case g117 => kernel_rfl
  case h117 => (intro w' hw'; obtain ⟨hc', hf'⟩ := bcell hw'; go_simp; try with_reducible rfl)
  intro nb w1 he1 hlz hsz' hbz
  have NB := Lib.hid hbz
  have NS := Lib.hid hsz'
  clear hbz hsz' hlz
  simp only [Act.put, List.setIfInBounds_toArray, List.set_cons_succ, List.set_cons_zero]
  have E1 := Lib.hid he1
  clear he1
  refine T2.wpTab_nil (fun wy hey => ?_)
  have EY : Hid (Ext V wy) := Ext.trans (Ext.trans (Ext.refl V) E1.out) hey
  have BY := Lib.hid (BV.out.trans (Below.mono EY.out BV.out.size))
  have RY := Lib.hid (RV.out.stay (EY.out.block _ RV.out.lt))
  have NY := Lib.hid ((hey.block nb NS.out).trans NB.out)
  have NLY := Lib.hid (Nat.lt_of_lt_of_le NS.out hey.size)
  clear hey hlV m0 m1
  go_wp2_with fail
  refine (nodeC d H.out kVectorType (⟨#[]⟩ : ByteArray) 0 ([x, y]) _ _ (In0 _) (row_two NY.out NLY.out (Jx.out.all HL.out BY.out) (Jy.out.all HL.out BY.out)) (fun b h => h) (fun z hz => HSZ.out.2 z (by rw [LE.out]; exact hz)) (by have := HSZ.out.1.2.2.2; rw [LE.out] at this; first | (simp; done) | simpa using this)).mono ?_
  rintro e wz ⟨kv, rfl, hL, hbz⟩
  obtain ⟨na, nc, rfl⟩ := hL.form
  have BZ := Lib.hid (BY.out.trans (hbz.mono BY.out.size))
  have RZ := Lib.hid (RY.out.stay (hbz.block _ RY.out.lt))
  have LZ := Lib.hid hL
  have hpy := RY.out.lt
  have HP := Lib.hid hpy
  clear hL hbz hpy
  have r0 := RZ.out.c0
  have r1 := RZ.out.c1
  have r2 := RZ.out.c2
  have r3 := RZ.out.c3
  have f0 := RZ.out.free 0
  have f1 := RZ.out.free 1
  have f2 := RZ.out.free 2
  have f3 := RZ.out.free 3
  go_wp2_with fail
  have hb := RZ.out.put ⟨kVectorType, (⟨#[]⟩ : ByteArray), 0, [x, y]⟩ (.slice na 2 nc)
  have s0 := hb.c0
  have s1 := hb.c1
  have s2 := hb.c2
  have s3 := hb.c3
  refine bodyPost_ret (v := .agg #[.string kVectorType, .string (⟨#[]⟩ : ByteArray), .int .i64 0, .slice na 2 nc]) (by simp [results, Tryz.results40, go_sem, s0, s1, s2, s3]) rfl ⟨_, agg_eq KE.out.symm TE.out.symm NE.out.symm, KidsS.mk HSZ.out.1 (by rw [LE.out]; exact put_move LZ.out HP.out BY.out.size), below_put BZ.out (Nat.le_refl _) _ _ _ _⟩

set_option maxRecDepth 100000 in
set_option maxHeartbeats 4000000 in
theorem nodePtrMem (d : Nat) (IH : NodeOf d) (w : World) (S : Nat → Prop) (t : Tree) (b : Nat) (hk : t.kind = kPtrMem) (x y : Tree) (u v : Value) (ht : t.text = ByteArray.empty) (hn : t.num = 0) (hl : t.kids = [x, y]) (jx : AstAt w S d x u) (hkx : x.kind ≠ ByteArray.empty) (jy : AstAt w S d y v) (hky : y.kind ≠ ByteArray.empty) (low : ∀ c, S c → c < w.heap.size) (hsz : All Sized (d + 1) t) (d0 : w.cell? ⟨b, 0, none⟩ = some u) (d1 : w.cell? ⟨b, 1, none⟩ = some v) :
    Calls Tryz.prog 40 #[.string kPtrMem, .iface 107 (.pointer (some ⟨b, 0, none⟩))] w (Noded w (d + 1) t) := by
  have KE := Lib.hid hk
  have TE := Lib.hid ht
  have NE := Lib.hid hn
  have LE := Lib.hid hl
  have HL := Lib.hid low
  have HSZ := Lib.hid hsz
  have H := Lib.hid IH
  have Jx := Lib.hid jx
  have Jy := Lib.hid jy
  have a0 : ∀ (a : Option Addr) (w : World), (Instr.typeAssert (.iface 107 (.pointer a)) 33 101 true).run Tryz.prog w = .ok (.tuple #[.pointer none, .bool false]) w := fun a w => by kernel_rfl
  have a1 : ∀ (a : Option Addr) (w : World), (Instr.typeAssert (.iface 107 (.pointer a)) 33 104 true).run Tryz.prog w = .ok (.tuple #[.pointer none, .bool false]) w := fun a w => by kernel_rfl
  have a2 : ∀ (a : Option Addr) (w : World), (Instr.typeAssert (.iface 107 (.pointer a)) 33 107 true).run Tryz.prog w = .ok (.tuple #[.pointer a, .bool true]) w := fun a w => by kernel_rfl
  have R1 : Hid (BoxAt (w.alloc (.cells #[.string ⟨#[]⟩, .string ⟨#[]⟩, .int .i64 0, .slice none 0 0] 24)) w.heap.size Tree.nil (.slice none 0 0)) := by show BoxAt _ _ _ _; unfold BoxAt; exact heap_alloc_new w _
  have BW := Lib.hid (below1 w (.cells #[.string ⟨#[]⟩, .string ⟨#[]⟩, .int .i64 0, .slice none 0 0] 24))
  obtain ⟨px, bkx, rfl, _⟩ := jx.ptr hkx
  obtain ⟨py, bky, rfl, _⟩ := jy.ptr hky
  clear hk ht hn hl low hsz IH jx jy
  go_enter Tryz.func40, Tryz.ntmps40
  go_wp2_with fail
  go_wp2_with fail
  refine T2.wp_region_tab 10 (TabF d kPtrMem (⟨#[]⟩ : ByteArray) 0 ([x, y]) (w.alloc (.cells #[.string ⟨#[]⟩, .string ⟨#[]⟩, .int .i64 0, .slice none 0 0] 24)).drew) (TabF.stable d _ _ _ _ _) (by kernel_rfl) (by kernel_rfl) ?_
  simp only [List.take_succ_cons, List.take_zero, List.drop_succ_cons, List.drop_zero]
  obtain ⟨V, hV⟩ : ∃ V, V = (w.alloc (.cells #[.string ⟨#[]⟩, .string ⟨#[]⟩, .int .i64 0, .slice none 0 0] 24)).drew := ⟨_, rfl⟩
  rw [← hV]
  have BV : Hid (Below w.heap.size w V) := by rw [hV]; exact (below1 w (.cells #[.string ⟨#[]⟩, .string ⟨#[]⟩, .int .i64 0, .slice none 0 0] 24)).drew
  have RV : Hid (BoxAt V w.heap.size Tree.nil (.slice none 0 0)) := by rw [hV]; exact R1.out
  have m0 : V.cell? ⟨b, 0, none⟩ = some (.iface px (.pointer (some ⟨bkx, 0, none⟩))) := cells_below BV.out _ _ _ d0
  have m1 : V.cell? ⟨b, 1, none⟩ = some (.iface py (.pointer (some ⟨bky, 0, none⟩))) := cells_below BV.out _ _ _ d1
  have hlV := World.block_lt_of_cell? V _ m0
  have HV := Lib.hid hV
  clear hV
  refine T2.tab_value ?u118 ?g118 ?h118 ?_
  case g118 => kernel_rfl
  case h118 => (intro w' hw'; obtain ⟨hc', hf'⟩ := bcell hw'; go_simp; try with_reducible rfl)
  simp only [Act.put, List.setIfInBounds_toArray, List.set_cons_succ, List.set_cons_zero]
  refine T2.tab_value ?u119 ?g119 ?h119 ?_
  case g119 => kernel_rfl
  case h119 => (intro w' hw'; obtain ⟨hc', hf'⟩ := bcell hw'; go_simp; try with_reducible rfl)
  simp only [Act.put, List.setIfInBounds_toArray, List.set_cons_succ, List.set_cons_zero]
  refine T2.tab_value ?u120 ?g120 ?h120 ?_
  case g120 => kernel_rfl
  case h120 => (intro w' hw'; obtain ⟨hc', hf'⟩ := bcell hw'; go_simp; try with_reducible rfl)
  simp only [Act.put, List.setIfInBounds_toArray, List.set_cons_succ, List.set_cons_zero]
  refine T2.tab_value ?u121 ?g121 ?h121 ?_
  case g121 => kernel_rfl
  case h121 => (intro w' hw'; obtain ⟨hc', hf'⟩ := bcell hw'; go_simp; try with_reducible rfl)
  simp only [Act.put, List.setIfInBounds_toArray, List.set_cons_succ, List.set_cons_zero]
  refine T2.tab_value ?u122 ?g122 ?h122 ?_
  case g122 => kernel_rfl
  case h122 => (intro w' hw'; obtain ⟨hc', hf'⟩ := bcell hw'; go_simp; try with_reducible rfl)
  simp only [Act.put, List.setIfInBounds_toArray, List.set_cons_succ, List.set_cons_zero]
  refine T2.tab_value ?u123 ?g123 ?h123 ?_
  case g123 => kernel_rfl
  case h123 => (intro w' hw'; obtain ⟨hc', hf'⟩ := bcell hw'; go_simp; try with_reducible rfl)
  simp only [Act.put, List.setIfInBounds_toArray, List.set_cons_succ, List.set_cons_zero]
  refine T2.tab_value ?u124 ?g124 ?h124 ?_
  case g124 => kernel_rfl
  case h124 => (intro w' hw'; obtain ⟨hc', hf'⟩ := bcell hw'; go_simp; try with_reducible rfl)
  simp only [Act.put, List.setIfInBounds_toArray, List.set_cons_succ, List.set_cons_zero]
  refine T2.tab_value ?u125 ?g125 ?h125 ?_
  case g125 => kernel_rfl
  case h125 => (intro w' hw'; obtain ⟨hc', hf'⟩ := bcell hw'; go_simp; try with_reducible rfl)
  simp only [Act.put, List.setIfInBounds_toArray, List.set_cons_succ, List.set_cons_zero]
  refine T2.tab_value ?u126 ?g126 ?h126 ?_
  case g126 => kernel_rfl
  case h126 => (intro w' hw'; obtain ⟨hc', hf'⟩ := bcell hw'; go_simp; try with_reducible rfl)
  simp only [Act.put, List.setIfInBounds_toArray, List.set_cons_succ, List.set_cons_zero]
  refine T2.tab_slice 2 ?o127 ?g127 ?h127 ?_
  case g127 => kernel_rfl
  case h127 => (intro w' hw'; obtain ⟨hc', hf'⟩ := bcell hw'; go_simp; try with_reducible rfl)
  intro nb w1 he1 hlz hsz' hbz
  have NB := Lib.hid hbz
  have NS := Lib.hid hsz'
  clear hbz hsz' hlz
  simp only [Act.put, List.setIfInBounds_toArray, List.set_cons_succ, List.set_cons_zero]
  have E1 := Lib.hid he1
  clear he1
  refine T2.wpTab_nil (fun wy hey => ?_)
  have EY : Hid (Ext V wy) := Ext.trans (Ext.trans (Ext.refl V) E1.out) hey
  have BY := Lib.hid (BV.out.trans (Below.mono EY.out BV.out.size))
  have RY := Lib.hid (RV.out.stay (EY.out.block _ RV.out.lt))
  have NY := Lib.hid ((hey.block nb NS.out).trans NB.out)
  have NLY := Lib.hid (Nat.lt_of_lt_of_le NS.out hey.size)
  clear hey hlV m0 m1
  go_wp2_with fail
  refine (nodeC d H.out kPtrMem (⟨#[]⟩ : ByteArray) 0 ([x, y]) _ _ (In0 _) (row_two NY.out NLY.out (Jx.out.all HL.out BY.out) (Jy.out.all HL.out BY.out)) (fun b h => h) (fun z hz => HSZ.out.2 z (by rw [LE.out]; exact hz)) (by have := HSZ.out.1.2.2.2; rw [LE.out] at this; first | (simp; done) | simpa using this)).mono ?_
  rintro e wz ⟨kv, rfl, hL, hbz⟩
  obtain ⟨na, nc, rfl⟩ := hL.form
  have BZ := Lib.hid (BY.out.trans (hbz.mono BY.out.size))
  have RZ := Lib.hid (RY.out.stay (hbz.block _ RY.out.lt))
  have LZ := Lib.hid hL
  have hpy := RY.out.lt
  have HP := Lib.hid hpy
  clear hL hbz hpy
  have r0 := RZ.out.c0
  have r1 := RZ.out.c1
  have r2 := RZ.out.c2
  have r3 := RZ.out.c3
  have f0 := RZ.out.free 0
  have f1 := RZ.out.free 1
  have f2 := RZ.out.free 2
  have f3 := RZ.out.free 3
  go_wp2_with fail
  have hb := RZ.out.put ⟨kPtrMem, (⟨#[]⟩ : ByteArray), 0, [x, y]⟩ (.slice na 2 nc)
  have s0 := hb.c0
  have s1 := hb.c1
  have s2 := hb.c2
  have s3 := hb.c3
  refine bodyPost_ret (v := .agg #[.string kPtrMem, .string (⟨#[]⟩ : ByteArray), .int .i64 0, .slice na 2 nc]) (by simp [results, Tryz.results40, go_sem, s0, s1, s2, s3]) rfl ⟨_, agg_eq KE.out.symm TE.out.symm NE.out.symm, KidsS.mk HSZ.out.1 (by rw [LE.out]; exact put_move LZ.out HP.out BY.out.size), below_put BZ.out (Nat.le_refl _) _ _ _ _⟩

set_option maxRecDepth 100000 in
set_option maxHeartbeats 4000000 in
theorem nodeVendorQualifier (d : Nat) (IH : NodeOf d) (w : World) (S : Nat → Prop) (t : Tree) (b : Nat) (hk : t.kind = kVendorQualifier) (x y : Tree) (u v : Value) (ht : t.text = ByteArray.empty) (hn : t.num = 0) (hl : t.kids = [x, y]) (jx : AstAt w S d x u) (hkx : x.kind ≠ ByteArray.empty) (jy : AstAt w S d y v) (hky : y.kind ≠ ByteArray.empty) (low : ∀ c, S c → c < w.heap.size) (hsz : All Sized (d + 1) t) (d0 : w.cell? ⟨b, 0, none⟩ = some u) (d1 : w.cell? ⟨b, 1, none⟩ = some v) :
    Calls Tryz.prog 40 #[.string kVendorQualifier, .iface 110 (.pointer (some ⟨b, 0, none⟩))] w (Noded w (d + 1) t) := by
  have KE := Lib.hid hk
  have TE := Lib.hid ht
  have NE := Lib.hid hn
  have LE := Lib.hid hl
  have HL := Lib.hid low
  have HSZ := Lib.hid hsz
  have H := Lib.hid IH
  have Jx := Lib.hid jx
  have Jy := Lib.hid jy
  have a0 : ∀ (a : Option Addr) (w : World), (Instr.typeAssert (.iface 110 (.pointer a)) 33 101 true).run Tryz.prog w = .ok (.tuple #[.pointer none, .bool false]) w := fun a w => by kernel_rfl
  have a1 : ∀ (a : Option Addr) (w : World), (Instr.typeAssert (.iface 110 (.pointer a)) 33 104 true).run Tryz.prog w = .ok (.tuple #[.pointer none, .bool false]) w := fun a w => by kernel_rfl
  have a2 : ∀ (a : Option Addr) (w : World), (Instr.typeAssert (.iface 110 (.pointer a)) 33 107 true).run Tryz.prog w = .ok (.tuple #[.pointer none, .bool false]) w := fun a w => by kernel_rfl
  have a3 : ∀ (a : Option Addr) (w : World), (Instr.typeAssert (.iface 110 (.pointer a)) 33 110 true).run Tryz.prog w = .ok (.tuple #[.pointer a, .bool true]) w := fun a w => by kernel_rfl
  have R1 : Hid (BoxAt (w.alloc (.cells #[.string ⟨#[]⟩, .string ⟨#[]⟩, .int .i64 0, .slice none 0 0] 24)) w.heap.size Tree.nil (.slice none 0 0)) := by show BoxAt _ _ _ _; unfold BoxAt; exact heap_alloc_new w _
  have BW := Lib.hid (below1 w (.cells #[.string ⟨#[]⟩, .string ⟨#[]⟩, .int .i64 0, .slice none 0 0] 24))
  obtain ⟨px, bkx, rfl, _⟩ := jx.ptr hkx
  obtain ⟨py, bky, rfl, _⟩ := jy.ptr hky
  clear hk ht hn hl low hsz IH jx jy
  go_enter Tryz.func40, Tryz.ntmps40
  go_wp2_with fail
  go_wp2_with fail
  refine T2.wp_region_tab 10 (TabF d kVendorQualifier (⟨#[]⟩ : ByteArray) 0 ([x, y]) (w.alloc (.cells #[.string ⟨#[]⟩, .string ⟨#[]⟩, .int .i64 0, .slice none 0 0] 24)).drew) (TabF.stable d _ _ _ _ _) (by kernel_rfl) (by kernel_rfl) ?_
  simp only [List.take_succ_cons, List.take_zero, List.drop_succ_cons, List.drop_zero]
  obtain ⟨V, hV⟩ : ∃ V, V = (w.alloc (.cells #[.string ⟨#[]⟩, .string ⟨#[]⟩, .int .i64 0, .slice none 0 0] 24)).drew := ⟨_, rfl⟩
  rw [← hV]
  have BV : Hid (Below w.heap.size w V) := by rw [hV]; exact (below1 w (.cells #[.string ⟨#[]⟩, .string ⟨#[]⟩, .int .i64 0, .slice none 0 0] 24)).drew
  have RV : Hid (BoxAt V w.heap.size Tree.nil (.slice none 0 0)) := by rw [hV]; exact R1.out
  have m0 : V.cell? ⟨b, 0, none⟩ = some (.iface px (.pointer (some ⟨bkx, 0, none⟩))) := cells_below BV.out _ _ _ d0
  have m1 : V.cell? ⟨b, 1, none⟩ = some (.iface py (.pointer (some ⟨bky, 0, none⟩))) := cells_below BV.out _ _ _ d1
  have hlV := World.block_lt_of_cell? V _ m0
  have HV := Lib.hid hV
  clear hV
  refine T2.tab_value ?u128 ?g128 ?h128 ?_
  case g128 => kernel_rfl
  case h128 => (intro w' hw'; obtain ⟨hc', hf'⟩ := bcell hw'; go_simp; try with_reducible rfl)
  simp only [Act.put, List.setIfInBounds_toArray, List.set_cons_succ, List.set_cons_zero]
  refine T2.tab_value ?u129 ?g129 ?h129 ?_
  case g129 => kernel_rfl
  case h129 => (intro w' hw'; obtain ⟨hc', hf'⟩ := bcell hw'; go_simp; try with_reducible rfl)
  simp only [Act.put, List.setIfInBounds_toArray, List.set_cons_succ, List.set_cons_zero]
  refine T2.tab_value ?u130 ?g130 ?h130 ?_
  case g130 => kernel_rfl
  case h130 => (intro w' hw'; obtain ⟨hc', hf'⟩ := bcell hw'; go_simp; try with_reducible rfl)
  simp only [Act.put, List.setIfInBounds_toArray, List.set_cons_succ, List.set_cons_zero]
  refine T2.tab_value ?u131 ?g131 ?h131 ?_
  case g131 => kernel_rfl
  case h131 => (intro w' hw'; obtain ⟨hc', hf'⟩ := bcell hw'; go_simp; try with_reducible rfl)
  simp only [Act.put, List.setIfInBounds_toArray, List.set_cons_succ, List.set_cons_zero]
  refine T2.tab_value ?u132 ?g132 ?h132 ?_
  case g132 => kernel_rfl
  case h132 => (intro w' hw'; obtain ⟨hc', hf'⟩ := bcell hw'; go_simp; try with_reducible rfl)
  simp only [Act.put, List.setIfInBounds_toArray, List.set_cons_succ, List.set_cons_zero]
  refine T2.tab_value ?u133 ?g133 ?h133 ?_
  case g133 => kernel_rfl
  case h133 => (intro w' hw'; obtain ⟨hc', hf'⟩ := bcell hw'; go_simp; try with_reducible rfl)
  simp only [Act.put, List.setIfInBounds_toArray, List.set_cons_succ, List.set_cons_zero]
  refine T2.tab_value ?u134 ?g134 ?h134 ?_
  case g134 => kernel_rfl
  case h134 => (intro w' hw'; obtain ⟨hc', hf'⟩ := bcell hw'; go_simp; try with_reducible rfl)
  simp only [Act.put, List.setIfInBounds_toArray, List.set_cons_succ, List.set_cons_zero]
  refine T2.tab_value ?u135 ?g135 ?h135 ?_
  case g135 => kernel_rfl
  case h135 => (intro w' hw'; obtain ⟨hc', hf'⟩ := bcell hw'; go_simp; try with_reducible rfl)
  simp only [Act.put, List.setIfInBounds_toArray, List.set_cons_succ, List.set_cons_zero]
  refine T2.tab_value ?u136 ?g136 ?h136 ?_
  case g136 => kernel_rfl
  case h136 => (intro w' hw'; obtain ⟨hc', hf'⟩ := bcell hw'; go_simp; try with_reducible rfl)
  simp only [Act.put, List.setIfInBounds_toArray, List.set_cons_succ, List.set_cons_zero]
  refine T2.tab_slice 2 ?o137 ?g137 ?h137 ?_
  case g137 => kernel_rfl
  case h137 => (intro w' hw'; obtain ⟨hc', hf'⟩ := bcell hw'; go_simp; try with_reducible rfl)
  intro nb w1 he1 hlz hsz' hbz
  have NB := Lib.hid hbz
  have NS := Lib.hid hsz'
  clear hbz hsz' hlz
  simp only [Act.put, List.setIfInBounds_toArray, List.set_cons_succ, List.set_cons_zero]
  have E1 := Lib.hid he1
  clear he1
  refine T2.wpTab_nil (fun wy hey => ?_)
  have EY : Hid (Ext V wy) := Ext.trans (Ext.trans (Ext.refl V) E1.out) hey
  have BY := Lib.hid (BV.out.trans (Below.mono EY.out BV.out.size))
  have RY := Lib.hid (RV.out.stay (EY.out.block _ RV.out.lt))
  have NY := Lib.hid ((hey.block nb NS.out).trans NB.out)
  have NLY := Lib.hid (Nat.lt_of_lt_of_le NS.out hey.size)
  clear hey hlV m0 m1
  go_wp2_with fail
  refine (nodeC d H.out kVendorQualifier (⟨#[]⟩ : ByteArray) 0 ([x, y]) _ _ (In0 _) (row_two NY.out NLY.out (Jx.out.all HL.out BY.out) (Jy.out.all HL.out BY.out)) (fun b h => h) (fun z hz => HSZ.out.2 z (by rw [LE.out]; exact hz)) (by have := HSZ.out.1.2.2.2; rw [LE.out] at this; first | (simp; done) | simpa using this)).mono ?_
  rintro e wz ⟨kv, rfl, hL, hbz⟩
  obtain ⟨na, nc, rfl⟩ := hL.form
  have BZ := Lib.hid (BY.out.trans (hbz.mono BY.out.size))
  have RZ := Lib.hid (RY.out.stay (hbz.block _ RY.out.lt))
  have LZ := Lib.hid hL
  have hpy := RY.out.lt
  have HP := Lib.hid hpy
  clear hL hbz hpy
  have r0 := RZ.out.c0
  have r1 := RZ.out.c1
  have r2 := RZ.out.c2
  have r3 := RZ.out.c3
  have f0 := RZ.out.free 0
  have f1 := RZ.out.free 1
  have f2 := RZ.out.free 2
  have f3 := RZ.out.free 3
  go_wp2_with fail
  have hb := RZ.out.put ⟨kVendorQualifier, (⟨#[]⟩ : ByteArray), 0, [x, y]⟩ (.slice na 2 nc)
  have s0 := hb.c0
  have s1 := hb.c1
  have s2 := hb.c2
  have s3 := hb.c3
  refine bodyPost_ret (v := .agg #[.string kVendorQualifier, .string (⟨#[]⟩ : ByteArray), .int .i64 0, .slice na 2 nc]) (by simp [results, Tryz.results40, go_sem, s0, s1, s2, s3]) rfl ⟨_, agg_eq KE.out.symm TE.out.symm NE.out.symm, KidsS.mk HSZ.out.1 (by rw [LE.out]; exact put_move LZ.out HP.out BY.out.size), below_put BZ.out (Nat.le_refl _) _ _ _ _⟩

set_option maxRecDepth 100000 in
set_option maxHeartbeats 4000000 in
theorem nodeLiteral (d : Nat) (IH : NodeOf d) (w : World) (S : Nat → Prop) (t : Tree) (b : Nat) (hk : t.kind = kLiteral) (x : Tree) (u : Value) (hn : t.num = 0 ∨ t.num = 1) (hl : t.kids = [x]) (jx : AstAt w S d x u) (hkx : x.kind ≠ ByteArray.empty) (low : ∀ c, S c → c < w.heap.size) (hsz : All Sized (d + 1) t) (d0 : w.cell? ⟨b, 0, none⟩ = some u) (d1 : w.cell? ⟨b, 1, none⟩ = some (.string t.text)) (d2 : w.cell? ⟨b, 2, none⟩ = some (.bool (t.num == 1))) :
    Calls Tryz.prog 40 #[.string kLiteral, .iface 119 (.pointer (some ⟨b, 0, none⟩))] w (Noded w (d + 1) t) := by
  have KE := Lib.hid hk
  have NE := Lib.hid hn
  have LE := Lib.hid hl
  have HL := Lib.hid low
  have HSZ := Lib.hid hsz
  have H := Lib.hid IH
  have Jx := Lib.hid jx
  have a0 : ∀ (a : Option Addr) (w : World), (Instr.typeAssert (.iface 119 (.pointer a)) 33 101 true).run Tryz.prog w = .ok (.tuple #[.pointer none, .bool false]) w := fun a w => by kernel_rfl
  have a1 : ∀ (a : Option Addr) (w : World), (Instr.typeAssert (.iface 119 (.pointer a)) 33 104 true).run Tryz.prog w = .ok (.tuple #[.pointer none, .bool false]) w := fun a w => by kernel_rfl
  have a2 : ∀ (a : Option Addr) (w : World), (Instr.typeAssert (.iface 119 (.pointer a)) 33 107 true).run Tryz.prog w = .ok (.tuple #[.pointer none, .bool false]) w := fun a w => by kernel_rfl
  have a3 : ∀ (a : Option Addr) (w : World), (Instr.typeAssert (.iface 119 (.pointer a)) 33 110 true).run Tryz.prog w = .ok (.tuple #[.pointer none, .bool false]) w := fun a w => by kernel_rfl
  have a4 : ∀ (a : Option Addr) (w : World), (Instr.typeAssert (.iface 119 (.pointer a)) 33 113 true).run Tryz.prog w = .ok (.tuple #[.pointer none, .bool false]) w := fun a w => by kernel_rfl
  have a5 : ∀ (a : Option Addr) (w : World), (Instr.typeAssert (.iface 119 (.pointer a)) 33 116 true).run Tryz.prog w = .ok (.tuple #[.pointer none, .bool false]) w := fun a w => by kernel_rfl
  have a6 : ∀ (a : Option Addr) (w : World), (Instr.typeAssert (.iface 119 (.pointer a)) 33 119 true).run Tryz.prog w = .ok (.tuple #[.pointer a, .bool true]) w := fun a w => by kernel_rfl
  have R1 : Hid (BoxAt (w.alloc (.cells #[.string ⟨#[]⟩, .string ⟨#[]⟩, .int .i64 0, .slice none 0 0] 24)) w.heap.size Tree.nil (.slice none 0 0)) := by show BoxAt _ _ _ _; unfold BoxAt; exact heap_alloc_new w _
  have BW := Lib.hid (below1 w (.cells #[.string ⟨#[]⟩, .string ⟨#[]⟩, .int .i64 0, .slice none 0 0] 24))
  obtain ⟨px, bkx, rfl, _⟩ := jx.ptr hkx
  clear hk hn hl low hsz IH jx
  go_enter Tryz.func40, Tryz.ntmps40
  go_wp2_with fail
  go_wp2_with fail
  refine T2.wp_region_tab 15 (TabF d kLiteral t.text t.num ([x]) (w.alloc (.cells #[.string ⟨#[]⟩, .string ⟨#[]⟩, .int .i64 0, .slice none 0 0] 24)).drew) (TabF.stable d _ _ _ _ _) (by kernel_rfl) (by kernel_rfl) ?_
  simp only [List.take_succ_cons, List.take_zero, List.drop_succ_cons, List.drop_zero]
  obtain ⟨V, hV⟩ : ∃ V, V = (w.alloc (.cells #[.string ⟨#[]⟩, .string ⟨#[]⟩, .int .i64 0, .slice none 0 0] 24)).drew := ⟨_, rfl⟩
  rw [← hV]
  have BV : Hid (Below w.heap.size w V) := by rw [hV]; exact (below1 w (.cells #[.string ⟨#[]⟩, .string ⟨#[]⟩, .int .i64 0, .slice none 0 0] 24)).drew
  have RV : Hid (BoxAt V w.heap.size Tree.nil (.slice none 0 0)) := by rw [hV]; exact R1.out
  have m0 : V.cell? ⟨b, 0, none⟩ = some (.iface px (.pointer (some ⟨bkx, 0, none⟩))) := cells_below BV.out _ _ _ d0
  have m1 : V.cell? ⟨b, 1, none⟩ = some (.string t.text) := cells_below BV.out _ _ _ d1
  have m2 : V.cell? ⟨b, 2, none⟩ = some (.bool (t.num == 1)) := cells_below BV.out _ _ _ d2
  have hlV := World.block_lt_of_cell? V _ m0
  have HV := Lib.hid hV
  clear hV
  refine T2.tab_value ?u138 ?g138 ?h138 ?_
  case g138 => kernel_rfl
  case h138 => (intro w' hw'; obtain ⟨hc', hf'⟩ := bcell hw'; go_simp; try with_reducible rfl)
  simp only [Act.put, List.setIfInBounds_toArray, List.set_cons_succ, List.set_cons_zero]
  refine T2.tab_value ?u139 ?g139 ?h139 ?_
  case g139 => kernel_rfl
  case h139 => (intro w' hw'; obtain ⟨hc', hf'⟩ := bcell hw'; go_simp; try with_reducible rfl)
  simp only [Act.put, List.setIfInBounds_toArray, List.set_cons_succ, List.set_cons_zero]
  refine T2.tab_value ?u140 ?g140 ?h140 ?_
  case g140 => kernel_rfl
  case h140 => (intro w' hw'; obtain ⟨hc', hf'⟩ := bcell hw'; go_simp; try with_reducible rfl)
  simp only [Act.put, List.setIfInBounds_toArray, List.set_cons_succ, List.set_cons_zero]
  refine T2.tab_value ?u141 ?g141 ?h141 ?_
  case g141 => kernel_rfl
  case h141 => (intro w' hw'; obtain ⟨hc', hf'⟩ := bcell hw'; go_simp; try with_reducible rfl)
  simp only [Act.put, List.setIfInBounds_toArray, List.set_cons_succ, List.set_cons_zero]
  refine T2.tab_value ?u142 ?g142 ?h142 ?_
  case g142 => kernel_rfl
  case h142 => (intro w' hw'; obtain ⟨hc', hf'⟩ := bcell hw'; go_simp; try with_reducible rfl)
  simp only [Act.put, List.setIfInBounds_toArray, List.set_cons_succ, List.set_cons_zero]
  refine T2.tab_value ?u143 ?g143 ?h143 ?_
  case g143 => kernel_rfl
  case h143 => (intro w' hw'; obtain ⟨hc', hf'⟩ := bcell hw'; go_simp; try with_reducible rfl)
  simp only [Act.put, List.setIfInBounds_toArray, List.set_cons_succ, List.set_cons_zero]
  refine T2.tab_value ?u144 ?g144 ?h144 ?_
  case g144 => kernel_rfl
  case h144 => (intro w' hw'; obtain ⟨hc', hf'⟩ := bcell hw'; go_simp; try with_reducible rfl)
  simp only [Act.put, List.setIfInBounds_toArray, List.set_cons_succ, List.set_cons_zero]
  refine T2.tab_value ?u145 ?g145 ?h145 ?_
  case g145 => kernel_rfl
  case h145 => (intro w' hw'; obtain ⟨hc', hf'⟩ := bcell hw'; go_simp; try with_reducible rfl)
  simp only [Act.put, List.setIfInBounds_toArray, List.set_cons_succ, List.set_cons_zero]
  refine T2.tab_value ?u146 ?g146 ?h146 ?_
  case g146 => kernel_rfl
  case h146 => (intro w' hw'; obtain ⟨hc', hf'⟩ := bcell hw'; go_simp; try with_reducible rfl)
  simp only [Act.put, List.setIfInBounds_toArray, List.set_cons_succ, List.set_cons_zero]
  refine T2.tab_call 38 ?a147 ?g147 ?h147 ?c147 ?_
  case g147 => kernel_rfl
  case h147 => (intro w' hw'; obtain ⟨hc', hf'⟩ := bcell hw'; go_simp; try with_reducible rfl)
  case c147 => (intro w' hw'; refine (numberC (t.num == 1) w').mono ?_; rintro e w'' ⟨rfl, rfl⟩; exact ⟨_, ⟨fun _ => congrArg (Value.int .i64) (by rcases NE.out with h | h <;> rw [h] <;> rfl), fun e => absurd e (by decide), fun e => absurd e (by decide)⟩, rfl, Ext.refl _⟩)
  rintro v1 w1 he1 ⟨hv1, _, _⟩
  obtain rfl := hv1 rfl
  simp only [Act.put, List.setIfInBounds_toArray, List.set_cons_succ, List.set_cons_zero]
  have E1 := Lib.hid he1
  clear he1
  refine T2.tab_value ?u148 ?g148 ?h148 ?_
  case g148 => kernel_rfl
  case h148 => (intro w' hw'; obtain ⟨hc', hf'⟩ := bcell hw'; go_simp; try with_reducible rfl)
  simp only [Act.put, List.setIfInBounds_toArray, List.set_cons_succ, List.set_cons_zero]
  refine T2.tab_value ?u149 ?g149 ?h149 ?_
  case g149 => kernel_rfl
  case h149 => (intro w' hw'; obtain ⟨hc', hf'⟩ := bcell hw'; go_simp; try with_reducible rfl)
  simp only [Act.put, List.setIfInBounds_toArray, List.set_cons_succ, List.set_cons_zero]
  refine T2.tab_value ?u150 ?g150 ?h150 ?_
  case g150 => kernel_rfl
  case h150 => (intro w' hw'; obtain ⟨hc', hf'⟩ := bcell hw'; go_simp; try with_reducible rfl)
  simp only [Act.put, List.setIfInBounds_toArray, List.set_cons_succ, List.set_cons_zero]
  refine T2.tab_value ?u151 ?g151 ?h151 ?_
  case g151 => kernel_rfl
  case h151 => (intro w' hw'; obtain ⟨hc', hf'⟩ := bcell hw'; go_simp; try with_reducible rfl)
  simp only [Act.put, List.setIfInBounds_toArray, List.set_cons_succ, List.set_cons_zero]
  refine T2.tab_slice 1 ?o152 ?g152 ?h152 ?_
  case g152 => kernel_rfl
  case h152 => (intro w' hw'; obtain ⟨hc', hf'⟩ := bcell hw'; go_simp; try with_reducible rfl)
  intro nb w2 he2 hlz hsz' hbz
  have NB := Lib.hid hbz
  have NS := Lib.hid hsz'
  clear hbz hsz' hlz
  simp only [Act.put, List.setIfInBounds_toArray, List.set_cons_succ, List.set_cons_zero]
  have E2 := Lib.hid he2
  clear he2
  refine T2.wpTab_nil (fun wy hey => ?_)
  have EY : Hid (Ext V wy) := Ext.trans (Ext.trans (Ext.trans (Ext.refl V) E1.out) E2.out) hey
  have BY := Lib.hid (BV.out.trans (Below.mono EY.out BV.out.size))
  have RY := Lib.hid (RV.out.stay (EY.out.block _ RV.out.lt))
  have NY := Lib.hid ((hey.block nb NS.out).trans NB.out)
  have NLY := Lib.hid (Nat.lt_of_lt_of_le NS.out hey.size)
  clear hey hlV m0 m1 m2
  go_wp2_with fail
  refine (nodeC d H.out kLiteral t.text t.num ([x]) _ _ (In0 _) (row_one NY.out NLY.out (Jx.out.all HL.out BY.out)) (fun b h => h) (fun z hz => HSZ.out.2 z (by rw [LE.out]; exact hz)) (by have := HSZ.out.1.2.2.2; rw [LE.out] at this; first | (simp; done) | simpa using this)).mono ?_
  rintro e wz ⟨kv, rfl, hL, hbz⟩
  obtain ⟨na, nc, rfl⟩ := hL.form
  have BZ := Lib.hid (BY.out.trans (hbz.mono BY.out.size))
  have RZ := Lib.hid (RY.out.stay (hbz.block _ RY.out.lt))
  have LZ := Lib.hid hL
  have hpy := RY.out.lt
  have HP := Lib.hid hpy
  clear hL hbz hpy
  have r0 := RZ.out.c0
  have r1 := RZ.out.c1
  have r2 := RZ.out.c2
  have r3 := RZ.out.c3
  have f0 := RZ.out.free 0
  have f1 := RZ.out.free 1
  have f2 := RZ.out.free 2
  have f3 := RZ.out.free 3
  go_wp2_with fail
  have hb := RZ.out.put ⟨kLiteral, t.text, t.num, [x]⟩ (.slice na 1 nc)
  have s0 := hb.c0
  have s1 := hb.c1
  have s2 := hb.c2
  have s3 := hb.c3
  refine bodyPost_ret (v := .agg #[.string kLiteral, .string t.text, .int .i64 t.num, .slice na 1 nc]) (by simp [results, Tryz.results40, go_sem, s0, s1, s2, s3]) rfl ⟨_, agg_eq KE.out.symm rfl rfl, KidsS.mk HSZ.out.1 (by rw [LE.out]; exact put_move LZ.out HP.out BY.out.size), below_put BZ.out (Nat.le_refl _) _ _ _ _⟩

set_option maxRecDepth 100000 in
set_option maxHeartbeats 4000000 in
theorem nodeArgumentPack (d : Nat) (IH : NodeOf d) (w : World) (S : Nat → Prop) (t : Tree) (b : Nat) (hk : t.kind = kArgumentPack) (la : Option Addr) (lc : Nat) (ht : t.text = ByteArray.empty) (hn : t.num = 0) (hrow : RowAt w S (AstAt w S d) t.kids (.slice la t.kids.length lc)) (low : ∀ c, S c → c < w.heap.size) (hsz : All Sized (d + 1) t) (d0 : w.cell? ⟨b, 0, none⟩ = some (.slice la t.kids.length lc)) :
    Calls Tryz.prog 40 #[.string kArgumentPack, .iface 122 (.pointer (some ⟨b, 0, none⟩))] w (Noded w (d + 1) t) := by
  have KE := Lib.hid hk
  have TE := Lib.hid ht
  have NE := Lib.hid hn
  have HL := Lib.hid low
  have HSZ := Lib.hid hsz
  have ROW := Lib.hid hrow
  have H := Lib.hid IH
  have a0 : ∀ (a : Option Addr) (w : World), (Instr.typeAssert (.iface 122 (.pointer a)) 33 101 true).run Tryz.prog w = .ok (.tuple #[.pointer none, .bool false]) w := fun a w => by kernel_rfl
  have a1 : ∀ (a : Option Addr) (w : World), (Instr.typeAssert (.iface 122 (.pointer a)) 33 104 true).run Tryz.prog w = .ok (.tuple #[.pointer none, .bool false]) w := fun a w => by kernel_rfl
  have a2 : ∀ (a : Option Addr) (w : World), (Instr.typeAssert (.iface 122 (.pointer a)) 33 107 true).run Tryz.prog w = .ok (.tuple #[.pointer none, .bool false]) w := fun a w => by kernel_rfl
  have a3 : ∀ (a : Option Addr) (w : World), (Instr.typeAssert (.iface 122 (.pointer a)) 33 110 true).run Tryz.prog w = .ok (.tuple #[.pointer none, .bool false]) w := fun a w => by kernel_rfl
  have a4 : ∀ (a : Option Addr) (w : World), (Instr.typeAssert (.iface 122 (.pointer a)) 33 113 true).run Tryz.prog w = .ok (.tuple #[.pointer none, .bool false]) w := fun a w => by kernel_rfl
  have a5 : ∀ (a : Option Addr) (w : World), (Instr.typeAssert (.iface 122 (.pointer a)) 33 116 true).run Tryz.prog w = .ok (.tuple #[.pointer none, .bool false]) w := fun a w => by kernel_rfl
  have a6 : ∀ (a : Option Addr) (w : World), (Instr.typeAssert (.iface 122 (.pointer a)) 33 119 true).run Tryz.prog w = .ok (.tuple #[.pointer none, .bool false]) w := fun a w => by kernel_rfl
  have a7 : ∀ (a : Option Addr) (w : World), (Instr.typeAssert (.iface 122 (.pointer a)) 33 122 true).run Tryz.prog w = .ok (.tuple #[.pointer a, .bool true]) w := fun a w => by kernel_rfl
  have R1 : Hid (BoxAt (w.alloc (.cells #[.string ⟨#[]⟩, .string ⟨#[]⟩, .int .i64 0, .slice none 0 0] 24)) w.heap.size Tree.nil (.slice none 0 0)) := by show BoxAt _ _ _ _; unfold BoxAt; exact heap_alloc_new w _
  have BW := Lib.hid (below1 w (.cells #[.string ⟨#[]⟩, .string ⟨#[]⟩, .int .i64 0, .slice none 0 0] 24))
  clear hk ht hn low hsz hrow IH
  have e0 := cells_below BW.out _ _ _ d0
  go_enter Tryz.func40, Tryz.ntmps40
  go_wp2_with fail
  refine (nodeC d H.out kArgumentPack (⟨#[]⟩ : ByteArray) 0 (t.kids) _ _ (In0 _) (ROW.out.all HL.out BW.out) (fun b h => h) (fun z hz => HSZ.out.2 z (by exact hz)) (by have := HSZ.out.1.2.2.2; first | (simp; done) | simpa using this)).mono ?_
  rintro e wz ⟨kv, rfl, hL, hbz⟩
  obtain ⟨na, nc, rfl⟩ := hL.form
  have BZ := Lib.hid (BW.out.trans (hbz.mono BW.out.size))
  have RZ := Lib.hid (R1.out.stay (hbz.block _ R1.out.lt))
  have LZ := Lib.hid hL
  have hpy := R1.out.lt
  have HP := Lib.hid hpy
  clear hL hbz hpy
  have r0 := RZ.out.c0
  have r1 := RZ.out.c1
  have r2 := RZ.out.c2
  have r3 := RZ.out.c3
  have f0 := RZ.out.free 0
  have f1 := RZ.out.free 1
  have f2 := RZ.out.free 2
  have f3 := RZ.out.free 3
  go_wp2_with fail
  have hb := RZ.out.put ⟨kArgumentPack, (⟨#[]⟩ : ByteArray), 0, t.kids⟩ (.slice na t.kids.length nc)
  have s0 := hb.c0
  have s1 := hb.c1
  have s2 := hb.c2
  have s3 := hb.c3
  refine bodyPost_ret (v := .agg #[.string kArgumentPack, .string (⟨#[]⟩ : ByteArray), .int .i64 0, .slice na t.kids.length nc]) (by simp [results, Tryz.results40, go_sem, s0, s1, s2, s3]) rfl ⟨_, agg_eq KE.out.symm TE.out.symm NE.out.symm, KidsS.mk HSZ.out.1 (by exact put_move LZ.out HP.out BW.out.size), below_put BZ.out (Nat.le_refl _) _ _ _ _⟩

set_option maxRecDepth 100000 in
set_option maxHeartbeats 4000000 in
theorem nodeClosure (d : Nat) (IH : NodeOf d) (w : World) (S : Nat → Prop) (t : Tree) (b : Nat) (hk : t.kind = kClosure) (la : Option Addr) (lc : Nat) (v0 : Value) (ht : t.text = ByteArray.empty) (hrow : RowAt w S (AstAt w S d) t.kids (.slice la t.kids.length lc)) (low : ∀ c, S c → c < w.heap.size) (hsz : All Sized (d + 1) t) (d0 : w.cell? ⟨b, 0, none⟩ = some v0) (d1 : w.cell? ⟨b, 1, none⟩ = some .nilIface) (d2 : w.cell? ⟨b, 2, none⟩ = some (.slice la t.kids.length lc)) (d3 : w.cell? ⟨b, 3, none⟩ = some (.int .i64 t.num)) (d4 : w.cell? ⟨b, 4, none⟩ = some .nilIface) :
    Calls Tryz.prog 40 #[.string kClosure, .iface 129 (.pointer (some ⟨b, 0, none⟩))] w (Noded w (d + 1) t) := by
  have KE := Lib.hid hk
  have TE := Lib.hid ht
  have HL := Lib.hid low
  have HSZ := Lib.hid hsz
  have ROW := Lib.hid hrow
  have H := Lib.hid IH
  have a0 : ∀ (a : Option Addr) (w : World), (Instr.typeAssert (.iface 129 (.pointer a)) 33 101 true).run Tryz.prog w = .ok (.tuple #[.pointer none, .bool false]) w := fun a w => by kernel_rfl
  have a1 : ∀ (a : Option Addr) (w : World), (Instr.typeAssert (.iface 129 (.pointer a)) 33 104 true).run Tryz.prog w = .ok (.tuple #[.pointer none, .bool false]) w := fun a w => by kernel_rfl
  have a2 : ∀ (a : Option Addr) (w : World), (Instr.typeAssert (.iface 129 (.pointer a)) 33 107 true).run Tryz.prog w = .ok (.tuple #[.pointer none, .bool false]) w := fun a w => by kernel_rfl
  have a3 : ∀ (a : Option Addr) (w : World), (Instr.typeAssert (.iface 129 (.pointer a)) 33 110 true).run Tryz.prog w = .ok (.tuple #[.pointer none, .bool false]) w := fun a w => by kernel_rfl
  have a4 : ∀ (a : Option Addr) (w : World), (Instr.typeAssert (.iface 129 (.pointer a)) 33 113 true).run Tryz.prog w = .ok (.tuple #[.pointer none, .bool false]) w := fun a w => by kernel_rfl
  have a5 : ∀ (a : Option Addr) (w : World), (Instr.typeAssert (.iface 129 (.pointer a)) 33 116 true).run Tryz.prog w = .ok (.tuple #[.pointer none, .bool false]) w := fun a w => by kernel_rfl
  have a6 : ∀ (a : Option Addr) (w : World), (Instr.typeAssert (.iface 129 (.pointer a)) 33 119 true).run Tryz.prog w = .ok (.tuple #[.pointer none, .bool false]) w := fun a w => by kernel_rfl
  have a7 : ∀ (a : Option Addr) (w : World), (Instr.typeAssert (.iface 129 (.pointer a)) 33 122 true).run Tryz.prog w = .ok (.tuple #[.pointer none, .bool false]) w := fun a w => by kernel_rfl
  have a8 : ∀ (a : Option Addr) (w : World), (Instr.typeAssert (.iface 129 (.pointer a)) 33 126 true).run Tryz.prog w = .ok (.tuple #[.pointer none, .bool false]) w := fun a w => by kernel_rfl
  have a9 : ∀ (a : Option Addr) (w : World), (Instr.typeAssert (.iface 129 (.pointer a)) 33 129 true).run Tryz.prog w = .ok (.tuple #[.pointer a, .bool true]) w := fun a w => by kernel_rfl
  have R1 : Hid (BoxAt (w.alloc (.cells #[.string ⟨#[]⟩, .string ⟨#[]⟩, .int .i64 0, .slice none 0 0] 24)) w.heap.size Tree.nil (.slice none 0 0)) := by show BoxAt _ _ _ _; unfold BoxAt; exact heap_alloc_new w _
  have BW := Lib.hid (below1 w (.cells #[.string ⟨#[]⟩, .string ⟨#[]⟩, .int .i64 0, .slice none 0 0] 24))
  clear hk ht low hsz hrow IH
  go_enter Tryz.func40, Tryz.ntmps40
  go_wp2_with fail
  go_wp2_with fail
  refine T2.wp_region_tab 9 (TabF d kClosure (⟨#[]⟩ : ByteArray) t.num (t.kids) (w.alloc (.cells #[.string ⟨#[]⟩, .string ⟨#[]⟩, .int .i64 0, .slice none 0 0] 24)).drew) (TabF.stable d _ _ _ _ _) (by kernel_rfl) (by kernel_rfl) ?_
  simp only [List.take_succ_cons, List.take_zero, List.drop_succ_cons, List.drop_zero]
  obtain ⟨V, hV⟩ : ∃ V, V = (w.alloc (.cells #[.string ⟨#[]⟩, .string ⟨#[]⟩, .int .i64 0, .slice none 0 0] 24)).drew := ⟨_, rfl⟩
  rw [← hV]
  have BV : Hid (Below w.heap.size w V) := by rw [hV]; exact (below1 w (.cells #[.string ⟨#[]⟩, .string ⟨#[]⟩, .int .i64 0, .slice none 0 0] 24)).drew
  have RV : Hid (BoxAt V w.heap.size Tree.nil (.slice none 0 0)) := by rw [hV]; exact R1.out
  have m0 : V.cell? ⟨b, 0, none⟩ = some v0 := cells_below BV.out _ _ _ d0
  have m1 : V.cell? ⟨b, 1, none⟩ = some .nilIface := cells_below BV.out _ _ _ d1
  have m2 : V.cell? ⟨b, 2, none⟩ = some (.slice la t.kids.length lc) := cells_below BV.out _ _ _ d2
  have m3 : V.cell? ⟨b, 3, none⟩ = some (.int .i64 t.num) := cells_below BV.out _ _ _ d3
  have m4 : V.cell? ⟨b, 4, none⟩ = some .nilIface := cells_below BV.out _ _ _ d4
  have hlV := World.block_lt_of_cell? V _ m0
  have HV := Lib.hid hV
  clear hV
  refine T2.tab_value ?u153 ?g153 ?h153 ?_
  case g153 => kernel_rfl
  case h153 => (intro w' hw'; obtain ⟨hc', hf'⟩ := bcell hw'; go_simp; try with_reducible rfl)
  simp only [Act.put, List.setIfInBounds_toArray, List.set_cons_succ, List.set_cons_zero]
  refine T2.tab_value ?u154 ?g154 ?h154 ?_
  case g154 => kernel_rfl
  case h154 => (intro w' hw'; obtain ⟨hc', hf'⟩ := bcell hw'; go_simp; try with_reducible rfl)
  simp only [Act.put, List.setIfInBounds_toArray, List.set_cons_succ, List.set_cons_zero]
  refine T2.tab_value ?u155 ?g155 ?h155 ?_
  case g155 => kernel_rfl
  case h155 => (intro w' hw'; obtain ⟨hc', hf'⟩ := bcell hw'; go_simp; try with_reducible rfl)
  simp only [Act.put, List.setIfInBounds_toArray, List.set_cons_succ, List.set_cons_zero]
  refine T2.tab_value ?u156 ?g156 ?h156 ?_
  case g156 => kernel_rfl
  case h156 => (intro w' hw'; obtain ⟨hc', hf'⟩ := bcell hw'; go_simp; try with_reducible rfl)
  simp only [Act.put, List.setIfInBounds_toArray, List.set_cons_succ, List.set_cons_zero]
  refine T2.tab_value ?u157 ?g157 ?h157 ?_
  case g157 => kernel_rfl
  case h157 => (intro w' hw'; obtain ⟨hc', hf'⟩ := bcell hw'; go_simp; try with_reducible rfl)
  simp only [Act.put, List.setIfInBounds_toArray, List.set_cons_succ, List.set_cons_zero]
  refine T2.tab_value ?u158 ?g158 ?h158 ?_
  case g158 => kernel_rfl
  case h158 => (intro w' hw'; obtain ⟨hc', hf'⟩ := bcell hw'; go_simp; try with_reducible rfl)
  simp only [Act.put, List.setIfInBounds_toArray, List.set_cons_succ, List.set_cons_zero]
  refine T2.tab_value ?u159 ?g159 ?h159 ?_
  case g159 => kernel_rfl
  case h159 => (intro w' hw'; obtain ⟨hc', hf'⟩ := bcell hw'; go_simp; try with_reducible rfl)
  simp only [Act.put, List.setIfInBounds_toArray, List.set_cons_succ, List.set_cons_zero]
  refine T2.tab_value ?u160 ?g160 ?h160 ?_
  case g160 => kernel_rfl
  case h160 => (intro w' hw'; obtain ⟨hc', hf'⟩ := bcell hw'; go_simp; try with_reducible rfl)
  simp only [Act.put, List.setIfInBounds_toArray, List.set_cons_succ, List.set_cons_zero]
  refine T2.tab_value ?u161 ?g161 ?h161 ?_
  case g161 => kernel_rfl
  case h161 => (intro w' hw'; obtain ⟨hc', hf'⟩ := bcell hw'; go_simp; try with_reducible rfl)
  simp only [Act.put, List.setIfInBounds_toArray, List.set_cons_succ, List.set_cons_zero]
  refine T2.wpTab_nil (fun wy hey => ?_)
  have EY : Hid (Ext V wy) := Ext.trans (Ext.refl V) hey
  have BY := Lib.hid (BV.out.trans (Below.mono EY.out BV.out.size))
  have RY := Lib.hid (RV.out.stay (EY.out.block _ RV.out.lt))
  clear hey hlV m0 m1 m2 m3 m4
  go_wp2_with fail
  refine (nodeC d H.out kClosure (⟨#[]⟩ : ByteArray) t.num (t.kids) _ _ (In0 _) (ROW.out.all HL.out BY.out) (fun b h => h) (fun z hz => HSZ.out.2 z (by exact hz)) (by have := HSZ.out.1.2.2.2; first | (simp; done) | simpa using this)).mono ?_
  rintro e wz ⟨kv, rfl, hL, hbz⟩
  obtain ⟨na, nc, rfl⟩ := hL.form
  have BZ := Lib.hid (BY.out.trans (hbz.mono BY.out.size))
  have RZ := Lib.hid (RY.out.stay (hbz.block _ RY.out.lt))
  have LZ := Lib.hid hL
  have hpy := RY.out.lt
  have HP := Lib.hid hpy
  clear hL hbz hpy
  have r0 := RZ.out.c0
  have r1 := RZ.out.c1
  have r2 := RZ.out.c2
  have r3 := RZ.out.c3
  have f0 := RZ.out.free 0
  have f1 := RZ.out.free 1
  have f2 := RZ.out.free 2
  have f3 := RZ.out.free 3
  go_wp2_with fail
  have hb := RZ.out.put ⟨kClosure, (⟨#[]⟩ : ByteArray), t.num, t.kids⟩ (.slice na t.kids.length nc)
  have s0 := hb.c0
  have s1 := hb.c1
  have s2 := hb.c2
  have s3 := hb.c3
  refine bodyPost_ret (v := .agg #[.string kClosure, .string (⟨#[]⟩ : ByteArray), .int .i64 t.num, .slice na t.kids.length nc]) (by simp [results, Tryz.results40, go_sem, s0, s1, s2, s3]) rfl ⟨_, agg_eq KE.out.symm TE.out.symm rfl, KidsS.mk HSZ.out.1 (by exact put_move LZ.out HP.out BY.out.size), below_put BZ.out (Nat.le_refl _) _ _ _ _⟩

set_option maxRecDepth 100000 in
set_option maxHeartbeats 4000000 in
theorem nodeUnnamedType (d : Nat) (IH : NodeOf d) (w : World) (S : Nat → Prop) (t : Tree) (b : Nat) (hk : t.kind = kUnnamedType) (ht : t.text = ByteArray.empty) (hl : t.kids = []) (low : ∀ c, S c → c < w.heap.size) (hsz : All Sized (d + 1) t) (d0 : w.cell? ⟨b, 0, none⟩ = some (.int .i64 t.num)) :
    Calls Tryz.prog 40 #[.string kUnnamedType, .iface 132 (.pointer (some ⟨b, 0, none⟩))] w (Noded w (d + 1) t) := by
  have KE := Lib.hid hk
  have TE := Lib.hid ht
  have LE := Lib.hid hl
  have HL := Lib.hid low
  have HSZ := Lib.hid hsz
  have H := Lib.hid IH
  have a0 : ∀ (a : Option Addr) (w : World), (Instr.typeAssert (.iface 132 (.pointer a)) 33 101 true).run Tryz.prog w = .ok (.tuple #[.pointer none, .bool false]) w := fun a w => by kernel_rfl
  have a1 : ∀ (a : Option Addr) (w : World), (Instr.typeAssert (.iface 132 (.pointer a)) 33 104 true).run Tryz.prog w = .ok (.tuple #[.pointer none, .bool false]) w := fun a w => by kernel_rfl
  have a2 : ∀ (a : Option Addr) (w : World), (Instr.typeAssert (.iface 132 (.pointer a)) 33 107 true).run Tryz.prog w = .ok (.tuple #[.pointer none, .bool false]) w := fun a w => by kernel_rfl
  have a3 : ∀ (a : Option Addr) (w : World), (Instr.typeAssert (.iface 132 (.pointer a)) 33 110 true).run Tryz.prog w = .ok (.tuple #[.pointer none, .bool false]) w := fun a w => by kernel_rfl
  have a4 : ∀ (a : Option Addr) (w : World), (Instr.typeAssert (.iface 132 (.pointer a)) 33 113 true).run Tryz.prog w = .ok (.tuple #[.pointer none, .bool false]) w := fun a w => by kernel_rfl
  have a5 : ∀ (a : Option Addr) (w : World), (Instr.typeAssert (.iface 132 (.pointer a)) 33 116 true).run Tryz.prog w = .ok (.tuple #[.pointer none, .bool false]) w := fun a w => by kernel_rfl
  have a6 : ∀ (a : Option Addr) (w : World), (Instr.typeAssert (.iface 132 (.pointer a)) 33 119 true).run Tryz.prog w = .ok (.tuple #[.pointer none, .bool false]) w := fun a w => by kernel_rfl
  have a7 : ∀ (a : Option Addr) (w : World), (Instr.typeAssert (.iface 132 (.pointer a)) 33 122 true).run Tryz.prog w = .ok (.tuple #[.pointer none, .bool false]) w := fun a w => by kernel_rfl
  have a8 : ∀ (a : Option Addr) (w : World), (Instr.typeAssert (.iface 132 (.pointer a)) 33 126 true).run Tryz.prog w = .ok (.tuple #[.pointer none, .bool false]) w := fun a w => by kernel_rfl
  have a9 : ∀ (a : Option Addr) (w : World), (Instr.typeAssert (.iface 132 (.pointer a)) 33 129 true).run Tryz.prog w = .ok (.tuple #[.pointer none, .bool false]) w := fun a w => by kernel_rfl
  have a10 : ∀ (a : Option Addr) (w : World), (Instr.typeAssert (.iface 132 (.pointer a)) 33 132 true).run Tryz.prog w = .ok (.tuple #[.pointer a, .bool true]) w := fun a w => by kernel_rfl
  have R1 : Hid (BoxAt (w.alloc (.cells #[.string ⟨#[]⟩, .string ⟨#[]⟩, .int .i64 0, .slice none 0 0] 24)) w.heap.size Tree.nil (.slice none 0 0)) := by show BoxAt _ _ _ _; unfold BoxAt; exact heap_alloc_new w _
  have BW := Lib.hid (below1 w (.cells #[.string ⟨#[]⟩, .string ⟨#[]⟩, .int .i64 0, .slice none 0 0] 24))
  clear hk ht hl low hsz IH
  have e0 := cells_below BW.out _ _ _ d0
  go_enter Tryz.func40, Tryz.ntmps40
  go_wp2_with fail
  refine (nodeC d H.out kUnnamedType (⟨#[]⟩ : ByteArray) t.num (([] : List Tree)) _ _ (In0 _) (row_nil _ _ _ none 0 (by omega)) (fun b h => h) (fun z hz => HSZ.out.2 z (by rw [LE.out]; exact hz)) (by have := HSZ.out.1.2.2.2; rw [LE.out] at this; first | (simp; done) | simpa using this)).mono ?_
  rintro e wz ⟨kv, rfl, hL, hbz⟩
  obtain ⟨na, nc, rfl⟩ := hL.form
  have BZ := Lib.hid (BW.out.trans (hbz.mono BW.out.size))
  have RZ := Lib.hid (R1.out.stay (hbz.block _ R1.out.lt))
  have LZ := Lib.hid hL
  have hpy := R1.out.lt
  have HP := Lib.hid hpy
  clear hL hbz hpy
  have r0 := RZ.out.c0
  have r1 := RZ.out.c1
  have r2 := RZ.out.c2
  have r3 := RZ.out.c3
  have f0 := RZ.out.free 0
  have f1 := RZ.out.free 1
  have f2 := RZ.out.free 2
  have f3 := RZ.out.free 3
  go_wp2_with fail
  have hb := RZ.out.put ⟨kUnnamedType, (⟨#[]⟩ : ByteArray), t.num, ([] : List Tree)⟩ (.slice na 0 nc)
  have s0 := hb.c0
  have s1 := hb.c1
  have s2 := hb.c2
  have s3 := hb.c3
  refine bodyPost_ret (v := .agg #[.string kUnnamedType, .string (⟨#[]⟩ : ByteArray), .int .i64 t.num, .slice na 0 nc]) (by simp [results, Tryz.results40, go_sem, s0, s1, s2, s3]) rfl ⟨_, agg_eq KE.out.symm TE.out.symm rfl, KidsS.mk HSZ.out.1 (by rw [LE.out]; exact put_move LZ.out HP.out BW.out.size), below_put BZ.out (Nat.le_refl _) _ _ _ _⟩

set_option maxRecDepth 100000 in
set_option maxHeartbeats 4000000 in
theorem nodeTaggedName (d : Nat) (IH : NodeOf d) (w : World) (S : Nat → Prop) (t : Tree) (b : Nat) (hk : t.kind = kTaggedName) (x y : Tree) (u v : Value) (ht : t.text = ByteArray.empty) (hn : t.num = 0) (hl : t.kids = [x, y]) (jx : AstAt w S d x u) (hkx : x.kind ≠ ByteArray.empty) (jy : AstAt w S d y v) (hky : y.kind ≠ ByteArray.empty) (low : ∀ c, S c → c < w.heap.size) (hsz : All Sized (d + 1) t) (d0 : w.cell? ⟨b, 0, none⟩ = some u) (d1 : w.cell? ⟨b, 1, none⟩ = some v) :
    Calls Tryz.prog 40 #[.string kTaggedName, .iface 135 (.pointer (some ⟨b, 0, none⟩))] w (Noded w (d + 1) t) := by
  have KE := Lib.hid hk
  have TE := Lib.hid ht
  have NE := Lib.hid hn
  have LE := Lib.hid hl
  have HL := Lib.hid low
  have HSZ := Lib.hid hsz
  have H := Lib.hid IH
  have Jx := Lib.hid jx
  have Jy := Lib.hid jy
  have a0 : ∀ (a : Option Addr) (w : World), (Instr.typeAssert (.iface 135 (.pointer a)) 33 101 true).run Tryz.prog w = .ok (.tuple #[.pointer none, .bool false]) w := fun a w => by kernel_rfl
  have a1 : ∀ (a : Option Addr) (w : World), (Instr.typeAssert (.iface 135 (.pointer a)) 33 104 true).run Tryz.prog w = .ok (.tuple #[.pointer none, .bool false]) w := fun a w => by kernel_rfl
  have a2 : ∀ (a : Option Addr) (w : World), (Instr.typeAssert (.iface 135 (.pointer a)) 33 107 true).run Tryz.prog w = .ok (.tuple #[.pointer none, .bool false]) w := fun a w => by kernel_rfl
  have a3 : ∀ (a : Option Addr) (w : World), (Instr.typeAssert (.iface 135 (.pointer a)) 33 110 true).run Tryz.prog w = .ok (.tuple #[.pointer none, .bool false]) w := fun a w => by kernel_rfl
  have a4 : ∀ (a : Option Addr) (w : World), (Instr.typeAssert (.iface 135 (.pointer a)) 33 113 true).run Tryz.prog w = .ok (.tuple #[.pointer none, .bool false]) w := fun a w => by kernel_rfl
  have a5 : ∀ (a : Option Addr) (w : World), (Instr.typeAssert (.iface 135 (.pointer a)) 33 116 true).run Tryz.prog w = .ok (.tuple #[.pointer none, .bool false]) w := fun a w => by kernel_rfl
  have a6 : ∀ (a : Option Addr) (w : World), (Instr.typeAssert (.iface 135 (.pointer a)) 33 119 true).run Tryz.prog w = .ok (.tuple #[.pointer none, .bool false]) w := fun a w => by kernel_rfl
  have a7 : ∀ (a : Option Addr) (w : World), (Instr.typeAssert (.iface 135 (.pointer a)) 33 122 true).run Tryz.prog w = .ok (.tuple #[.pointer none, .bool false]) w := fun a w => by kernel_rfl
  have a8 : ∀ (a : Option Addr) (w : World), (Instr.typeAssert (.iface 135 (.pointer a)) 33 126 true).run Tryz.prog w = .ok (.tuple #[.pointer none, .bool false]) w := fun a w => by kernel_rfl
  have a9 : ∀ (a : Option Addr) (w : World), (Instr.typeAssert (.iface 135 (.pointer a)) 33 129 true).run Tryz.prog w = .ok (.tuple #[.pointer none, .bool false]) w := fun a w => by kernel_rfl
  have a10 : ∀ (a : Option Addr) (w : World), (Instr.typeAssert (.iface 135 (.pointer a)) 33 132 true).run Tryz.prog w = .ok (.tuple #[.pointer none, .bool false]) w := fun a w => by kernel_rfl
  have a11 : ∀ (a : Option Addr) (w : World), (Instr.typeAssert (.iface 135 (.pointer a)) 33 135 true).run Tryz.prog w = .ok (.tuple #[.pointer a, .bool true]) w := fun a w => by kernel_rfl
  have R1 : Hid (BoxAt (w.alloc (.cells #[.string ⟨#[]⟩, .string ⟨#[]⟩, .int .i64 0, .slice none 0 0] 24)) w.heap.size Tree.nil (.slice none 0 0)) := by show BoxAt _ _ _ _; unfold BoxAt; exact heap_alloc_new w _
  have BW := Lib.hid (below1 w (.cells #[.string ⟨#[]⟩, .string ⟨#[]⟩, .int .i64 0, .slice none 0 0] 24))
  obtain ⟨px, bkx, rfl, _⟩ := jx.ptr hkx
  obtain ⟨py, bky, rfl, _⟩ := jy.ptr hky
  clear hk ht hn hl low hsz IH jx jy
  go_enter Tryz.func40, Tryz.ntmps40
  go_wp2_with fail
  go_wp2_with fail
  refine T2.wp_region_tab 10 (TabF d kTaggedName (⟨#[]⟩ : ByteArray) 0 ([x, y]) (w.alloc (.cells #[.string ⟨#[]⟩, .string ⟨#[]⟩, .int .i64 0, .slice none 0 0] 24)).drew) (TabF.stable d _ _ _ _ _) (by kernel_rfl) (by kernel_rfl) ?_
  simp only [List.take_succ_cons, List.take_zero, List.drop_succ_cons, List.drop_zero]
  obtain ⟨V, hV⟩ : ∃ V, V = (w.alloc (.cells #[.string ⟨#[]⟩, .string ⟨#[]⟩, .int .i64 0, .slice none 0 0] 24)).drew := ⟨_, rfl⟩
  rw [← hV]
  have BV : Hid (Below w.heap.size w V) := by rw [hV]; exact (below1 w (.cells #[.string ⟨#[]⟩, .string ⟨#[]⟩, .int .i64 0, .slice none 0 0] 24)).drew
  have RV : Hid (BoxAt V w.heap.size Tree.nil (.slice none 0 0)) := by rw [hV]; exact R1.out
  have m0 : V.cell? ⟨b, 0, none⟩ = some (.iface px (.pointer (some ⟨bkx, 0, none⟩))) := cells_below BV.out _ _ _ d0
  have m1 : V.cell? ⟨b, 1, none⟩ = some (.iface py (.pointer (some ⟨bky, 0, none⟩))) := cells_below BV.out _ _ _ d1
  have hlV := World.block_lt_of_cell? V _ m0
  have HV := Lib.hid hV
  clear hV
  refine T2.tab_value ?u162 ?g162 ?h162 ?_
  case g162 => kernel_rfl
  case h162 => (intro w' hw'; obtain ⟨hc', hf'⟩ := bcell hw'; go_simp; try with_reducible rfl)
  simp only [Act.put, List.setIfInBounds_toArray, List.set_cons_succ, List.set_cons_zero]
  refine T2.tab_value ?u163 ?g163 ?h163 ?_
  case g163 => kernel_rfl
  case h163 => (intro w' hw'; obtain ⟨hc', hf'⟩ := bcell hw'; go_simp; try with_reducible rfl)
  simp only [Act.put, List.setIfInBounds_toArray, List.set_cons_succ, List.set_cons_zero]
  refine T2.tab_value ?u164 ?g164 ?h164 ?_
  case g164 => kernel_rfl
  case h164 => (intro w' hw'; obtain ⟨hc', hf'⟩ := bcell hw'; go_simp; try with_reducible rfl)
  simp only [Act.put, List.setIfInBounds_toArray, List.set_cons_succ, List.set_cons_zero]
  refine T2.tab_value ?u165 ?g165 ?h165 ?_
  case g165 => kernel_rfl
  case h165 => (intro w' hw'; obtain ⟨hc', hf'⟩ := bcell hw'; go_simp; try with_reducible rfl)
  simp only [Act.put, List.setIfInBounds_toArray, List.set_cons_succ, List.set_cons_zero]
  refine T2.tab_value ?u166 ?g166 ?h166 ?_
  case g166 => kernel_rfl
  case h166 => (intro w' hw'; obtain ⟨hc', hf'⟩ := bcell hw'; go_simp; try with_reducible rfl)
  simp only [Act.put, List.setIfInBounds_toArray, List.set_cons_succ, List.set_cons_zero]
  refine T2.tab_value ?u167 ?g167 ?h167 ?_
  case g167 => kernel_rfl
  case h167 => (intro w' hw'; obtain ⟨hc', hf'⟩ := bcell hw'; go_simp; try with_reducible rfl)
  simp only [Act.put, List.setIfInBounds_toArray, List.set_cons_succ, List.set_cons_zero]
  refine T2.tab_value ?u168 ?g168 ?h168 ?_
  case g168 => kernel_rfl
  case h168 => (intro w' hw'; obtain ⟨hc', hf'⟩ := bcell hw'; go_simp; try with_reducible rfl)
  simp only [Act.put, List.setIfInBounds_toArray, List.set_cons_succ, List.set_cons_zero]
  refine T2.tab_value ?u169 ?g169 ?h169 ?_
  case g169 => kernel_rfl
  case h169 => (intro w' hw'; obtain ⟨hc', hf'⟩ := bcell hw'; go_simp; try with_reducible rfl)
  simp only [Act.put, List.setIfInBounds_toArray, List.set_cons_succ, List.set_cons_zero]
  refine T2.tab_value ?u170 ?g170 ?h170 ?_
  case g170 => kernel_rfl
  case h170 => (intro w' hw'; obtain ⟨hc', hf'⟩ := bcell hw'; go_simp; try with_reducible rfl)
  simp only [Act.put, List.setIfInBounds_toArray, List.set_cons_succ, List.set_cons_zero]
  refine T2.tab_slice 2 ?o171 ?g171 ?h171 ?_
  case g171 => kernel_rfl
  case h171 => (intro w' hw'; obtain ⟨hc', hf'⟩ := bcell hw'; go_simp; try with_reducible rfl)
  intro nb w1 he1 hlz hsz' hbz
  have NB := Lib.hid hbz
  have NS := Lib.hid hsz'
  clear hbz hsz' hlz
  simp only [Act.put, List.setIfInBounds_toArray, List.set_cons_succ, List.set_cons_zero]
  have E1 := Lib.hid he1
  clear he1
  refine T2.wpTab_nil (fun wy hey => ?_)
  have EY : Hid (Ext V wy) := Ext.trans (Ext.trans (Ext.refl V) E1.out) hey
  have BY := Lib.hid (BV.out.trans (Below.mono EY.out BV.out.size))
  have RY := Lib.hid (RV.out.stay (EY.out.block _ RV.out.lt))
  have NY := Lib.hid ((hey.block nb NS.out).trans NB.out)
  have NLY := Lib.hid (Nat.lt_of_lt_of_le NS.out hey.size)
  clear hey hlV m0 m1
  go_wp2_with fail
  refine (nodeC d H.out kTaggedName (⟨#[]⟩ : ByteArray) 0 ([x, y]) _ _ (In0 _) (row_two NY.out NLY.out (Jx.out.all HL.out BY.out) (Jy.out.all HL.out BY.out)) (fun b h => h) (fun z hz => HSZ.out.2 z (by rw [LE.out]; exact hz)) (by have := HSZ.out.1.2.2.2; rw [LE.out] at this; first | (simp; done) | simpa using this)).mono ?_
  rintro e wz ⟨kv, rfl, hL, hbz⟩
  obtain ⟨na, nc, rfl⟩ := hL.form
  have BZ := Lib.hid (BY.out.trans (hbz.mono BY.out.size))
  have RZ := Lib.hid (RY.out.stay (hbz.block _ RY.out.lt))
  have LZ := Lib.hid hL
  have hpy := RY.out.lt
  have HP := Lib.hid hpy
  clear hL hbz hpy
  have r0 := RZ.out.c0
  have r1 := RZ.out.c1
  have r2 := RZ.out.c2
  have r3 := RZ.out.c3
  have f0 := RZ.out.free 0
  have f1 := RZ.out.free 1
  have f2 := RZ.out.free 2
  have f3 := RZ.out.free 3
  go_wp2_with fail
  have hb := RZ.out.put ⟨kTaggedName, (⟨#[]⟩ : ByteArray), 0, [x, y]⟩ (.slice na 2 nc)
  have s0 := hb.c0
  have s1 := hb.c1
  have s2 := hb.c2
  have s3 := hb.c3
  refine bodyPost_ret (v := .agg #[.string kTaggedName, .string (⟨#[]⟩ : ByteArray), .int .i64 0, .slice na 2 nc]) (by simp [results, Tryz.results40, go_sem, s0, s1, s2, s3]) rfl ⟨_, agg_eq KE.out.symm TE.out.symm NE.out.symm, KidsS.mk HSZ.out.1 (by rw [LE.out]; exact put_move LZ.out HP.out BY.out.size), below_put BZ.out (Nat.le_refl _) _ _ _ _⟩

set_option maxRecDepth 100000 in
set_option maxHeartbeats 4000000 in
theorem nodeCast (d : Nat) (IH : NodeOf d) (w : World) (S : Nat → Prop) (t : Tree) (b : Nat) (hk : t.kind = kCast) (x : Tree) (u : Value) (ht : t.text = ByteArray.empty) (hn : t.num = 0) (hl : t.kids = [x]) (jx : AstAt w S d x u) (hkx : x.kind ≠ ByteArray.empty) (low : ∀ c, S c → c < w.heap.size) (hsz : All Sized (d + 1) t) (d0 : w.cell? ⟨b, 0, none⟩ = some u) :
    Calls Tryz.prog 40 #[.string kCast, .iface 147 (.pointer (some ⟨b, 0, none⟩))] w (Noded w (d + 1) t) := by
  have KE := Lib.hid hk
  have TE := Lib.hid ht
  have NE := Lib.hid hn
  have LE := Lib.hid hl
  have HL := Lib.hid low
  have HSZ := Lib.hid hsz
  have H := Lib.hid IH
  have Jx := Lib.hid jx
  have a0 : ∀ (a : Option Addr) (w : World), (Instr.typeAssert (.iface 147 (.pointer a)) 33 101 true).run Tryz.prog w = .ok (.tuple #[.pointer none, .bool false]) w := fun a w => by kernel_rfl
  have a1 : ∀ (a : Option Addr) (w : World), (Instr.typeAssert (.iface 147 (.pointer a)) 33 104 true).run Tryz.prog w = .ok (.tuple #[.pointer none, .bool false]) w := fun a w => by kernel_rfl
  have a2 : ∀ (a : Option Addr) (w : World), (Instr.typeAssert (.iface 147 (.pointer a)) 33 107 true).run Tryz.prog w = .ok (.tuple #[.pointer none, .bool false]) w := fun a w => by kernel_rfl
  have a3 : ∀ (a : Option Addr) (w : World), (Instr.typeAssert (.iface 147 (.pointer a)) 33 110 true).run Tryz.prog w = .ok (.tuple #[.pointer none, .bool false]) w := fun a w => by kernel_rfl
  have a4 : ∀ (a : Option Addr) (w : World), (Instr.typeAssert (.iface 147 (.pointer a)) 33 113 true).run Tryz.prog w = .ok (.tuple #[.pointer none, .bool false]) w := fun a w => by kernel_rfl
  have a5 : ∀ (a : Option Addr) (w : World), (Instr.typeAssert (.iface 147 (.pointer a)) 33 116 true).run Tryz.prog w = .ok (.tuple #[.pointer none, .bool false]) w := fun a w => by kernel_rfl
  have a6 : ∀ (a : Option Addr) (w : World), (Instr.typeAssert (.iface 147 (.pointer a)) 33 119 true).run Tryz.prog w = .ok (.tuple #[.pointer none, .bool false]) w := fun a w => by kernel_rfl
  have a7 : ∀ (a : Option Addr) (w : World), (Instr.typeAssert (.iface 147 (.pointer a)) 33 122 true).run Tryz.prog w = .ok (.tuple #[.pointer none, .bool false]) w := fun a w => by kernel_rfl
  have a8 : ∀ (a : Option Addr) (w : World), (Instr.typeAssert (.iface 147 (.pointer a)) 33 126 true).run Tryz.prog w = .ok (.tuple #[.pointer none, .bool false]) w := fun a w => by kernel_rfl
  have a9 : ∀ (a : Option Addr) (w : World), (Instr.typeAssert (.iface 147 (.pointer a)) 33 129 true).run Tryz.prog w = .ok (.tuple #[.pointer none, .bool false]) w := fun a w => by kernel_rfl
  have a10 : ∀ (a : Option Addr) (w : World), (Instr.typeAssert (.iface 147 (.pointer a)) 33 132 true).run Tryz.prog w = .ok (.tuple #[.pointer none, .bool false]) w := fun a w => by kernel_rfl
  have a11 : ∀ (a : Option Addr) (w : World), (Instr.typeAssert (.iface 147 (.pointer a)) 33 135 true).run Tryz.prog w = .ok (.tuple #[.pointer none, .bool false]) w := fun a w => by kernel_rfl
  have a12 : ∀ (a : Option Addr) (w : World), (Instr.typeAssert (.iface 147 (.pointer a)) 33 138 true).run Tryz.prog w = .ok (.tuple #[.pointer none, .bool false]) w := fun a w => by kernel_rfl
  have a13 : ∀ (a : Option Addr) (w : World), (Instr.typeAssert (.iface 147 (.pointer a)) 33 141 true).run Tryz.prog w = .ok (.tuple #[.pointer none, .bool false]) w := fun a w => by kernel_rfl
  have a14 : ∀ (a : Option Addr) (w : World), (Instr.typeAssert (.iface 147 (.pointer a)) 33 144 true).run Tryz.prog w = .ok (.tuple #[.pointer none, .bool false]) w := fun a w => by kernel_rfl
  have a15 : ∀ (a : Option Addr) (w : World), (Instr.typeAssert (.iface 147 (.pointer a)) 33 147 true).run Tryz.prog w = .ok (.tuple #[.pointer a, .bool true]) w := fun a w => by kernel_rfl
  have R1 : Hid (BoxAt (w.alloc (.cells #[.string ⟨#[]⟩, .string ⟨#[]⟩, .int .i64 0, .slice none 0 0] 24)) w.heap.size Tree.nil (.slice none 0 0)) := by show BoxAt _ _ _ _; unfold BoxAt; exact heap_alloc_new w _
  have BW := Lib.hid (below1 w (.cells #[.string ⟨#[]⟩, .string ⟨#[]⟩, .int .i64 0, .slice none 0 0] 24))
  obtain ⟨px, bkx, rfl, _⟩ := jx.ptr hkx
  clear hk ht hn hl low hsz IH jx
  have e0 := cells_below BW.out _ _ _ d0
  go_enter Tryz.func40, Tryz.ntmps40
  go_wp2_with fail
  have BX := Lib.hid (BW.out.trans ((below1 (w.alloc (.cells #[.string ⟨#[]⟩, .string ⟨#[]⟩, .int .i64 0, .slice none 0 0] 24)) (.cells #[(.iface px (.pointer (some ⟨bkx, 0, none⟩)))] 33)).mono BW.out.size))
  have RX := Lib.hid (R1.out.stay (Below.heap_alloc (w.alloc (.cells #[.string ⟨#[]⟩, .string ⟨#[]⟩, .int .i64 0, .slice none 0 0] 24)) (.cells #[(.iface px (.pointer (some ⟨bkx, 0, none⟩)))] 33) _ R1.out.lt))
  refine (nodeC d H.out kCast (⟨#[]⟩ : ByteArray) 0 ([x]) _ _ (In0 _) (row_one (nb := w.heap.size + 1) (alloc_here (by simp)) (by show _ < _; simp) (Jx.out.all HL.out BX.out)) (fun b h => h) (fun z hz => HSZ.out.2 z (by rw [LE.out]; exact hz)) (by have := HSZ.out.1.2.2.2; rw [LE.out] at this; first | (simp; done) | simpa using this)).mono ?_
  rintro e wz ⟨kv, rfl, hL, hbz⟩
  obtain ⟨na, nc, rfl⟩ := hL.form
  have BZ := Lib.hid (BX.out.trans (hbz.mono BX.out.size))
  have RZ := Lib.hid (RX.out.stay (hbz.block _ RX.out.lt))
  have LZ := Lib.hid hL
  have hpy := RX.out.lt
  have HP := Lib.hid hpy
  clear hL hbz hpy
  have r0 := RZ.out.c0
  have r1 := RZ.out.c1
  have r2 := RZ.out.c2
  have r3 := RZ.out.c3
  have f0 := RZ.out.free 0
  have f1 := RZ.out.free 1
  have f2 := RZ.out.free 2
  have f3 := RZ.out.free 3
  go_wp2_with fail
  have hb := RZ.out.put ⟨kCast, (⟨#[]⟩ : ByteArray), 0, [x]⟩ (.slice na 1 nc)
  have s0 := hb.c0
  have s1 := hb.c1
  have s2 := hb.c2
  have s3 := hb.c3
  refine bodyPost_ret (v := .agg #[.string kCast, .string (⟨#[]⟩ : ByteArray), .int .i64 0, .slice na 1 nc]) (by simp [results, Tryz.results40, go_sem, s0, s1, s2, s3]) rfl ⟨_, agg_eq KE.out.symm TE.out.symm NE.out.symm, KidsS.mk HSZ.out.1 (by rw [LE.out]; exact put_move LZ.out HP.out BX.out.size), below_put BZ.out (Nat.le_refl _) _ _ _ _⟩

end Go.Proofs.YtlfbmpenekiigaaGreatDoor
