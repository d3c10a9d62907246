/- impl.nodeOf, the first of its own kinds; conditions: the element lies in memory, it is known what nodeOf makes of smaller ones. -/
import Derived.Test.YtlfbmpenekiigaaGreatDoorNodeG
import Derived.Test.YtlfbmpenekiigaaGreatDoorKindOf
namespace Go.Proofs.YtlfbmpenekiigaaGreatDoor
open Go.ChangeShapes Go.WideShapes Go.ChangeAt Go.RowKit
set_option linter.unusedVariables false

set_option maxRecDepth 100000 in
set_option maxHeartbeats 4000000 in
theorem nodeName (d : Nat) (IH : NodeOf d) (w : World) (S : Nat → Prop) (t : Tree) (b : Nat) (hk : t.kind = kName) (hn : t.num = 0) (hl : t.kids = []) (low : ∀ c, S c → c < w.heap.size) (hsz : All Sized (d + 1) t) (d0 : w.cell? ⟨b, 0, none⟩ = some (.string t.text)) :
    Calls Tryz.prog 20 #[.iface 36 (.pointer (some ⟨b, 0, none⟩))] w (Noded w (d + 1) t) := by
  have KE := Lib.hid hk
  have NE := Lib.hid hn
  have LE := Lib.hid hl
  have HL := Lib.hid low
  have HSZ := Lib.hid hsz
  have H := Lib.hid IH
  have a0 : ∀ (a : Option Addr) (w : World), (Instr.typeAssert (.iface 36 (.pointer a)) 33 36 true).run Tryz.prog w = .ok (.tuple #[.pointer a, .bool true]) w := fun a w => by kernel_rfl
  have R1 : Hid (BoxAt (w.alloc (.cells #[.string ⟨#[]⟩, .string ⟨#[]⟩, .int .i64 0, .slice none 0 0] 24)) w.heap.size Tree.nil (.slice none 0 0)) := by show BoxAt _ _ _ _; unfold BoxAt; exact heap_alloc_new w _
  have BW := Lib.hid (below1 w (.cells #[.string ⟨#[]⟩, .string ⟨#[]⟩, .int .i64 0, .slice none 0 0] 24))
  have HKO := Lib.hid (kindName (some ⟨b, 0, none⟩))
  clear hk hn hl low hsz IH
  go_enter Tryz.func20, Tryz.ntmps20
  go_wp2_with fail
  refine (HKO.out _).mono ?_
  rintro e w' ⟨rfl, rfl⟩
  have e0 := cells_below BW.out _ _ _ d0
  go_wp2_with fail
  refine (nodeC d H.out kName t.text 0 (([] : List Tree)) _ _ (In0 _) (row_nil _ _ _ none 0 (by omega)) (fun b h => h) (fun z hz => HSZ.out.2 z (by rw [LE.out]; exact hz)) (by have := HSZ.out.1.2.2.2; rw [LE.out] at this; first | (simp; done) | simpa using this)).mono ?_
  rintro e wz ⟨kv, rfl, hL, hbz⟩
  obtain ⟨na, nc, rfl⟩ := hL.form
  have BZ := Lib.hid (BW.out.trans (hbz.mono BW.out.size))
  have RZ := Lib.hid (R1.out.stay (hbz.block _ R1.out.lt))
  have LZ := Lib.hid hL
  have hpy := R1.out.lt
  have HP := Lib.hid hpy
  clear hL hbz hpy
  have r0 := RZ.out.c0
  have r1 := RZ.out.c1
  have r2 := RZ.out.c2
  have r3 := RZ.out.c3
  have f0 := RZ.out.free 0
  have f1 := RZ.out.free 1
  have f2 := RZ.out.free 2
  have f3 := RZ.out.free 3
  go_wp2_with fail
  have hb := RZ.out.put ⟨kName, t.text, 0, ([] : List Tree)⟩ (.slice na 0 nc)
  have s0 := hb.c0
  have s1 := hb.c1
  have s2 := hb.c2
  have s3 := hb.c3
  refine bodyPost_ret (v := .agg #[.string kName, .string t.text, .int .i64 0, .slice na 0 nc]) (by simp [results, Tryz.results20, go_sem, s0, s1, s2, s3]) rfl ⟨_, agg_eq KE.out.symm rfl NE.out.symm, KidsS.mk HSZ.out.1 (by rw [LE.out]; exact put_move LZ.out HP.out BW.out.size), below_put BZ.out (Nat.le_refl _) _ _ _ _⟩

set_option maxRecDepth 100000 in
set_option maxHeartbeats 4000000 in
theorem nodeBuiltinType (d : Nat) (IH : NodeOf d) (w : World) (S : Nat → Prop) (t : Tree) (b : Nat) (hk : t.kind = kBuiltinType) (hn : t.num = 0) (hl : t.kids = []) (low : ∀ c, S c → c < w.heap.size) (hsz : All Sized (d + 1) t) (d0 : w.cell? ⟨b, 0, none⟩ = some (.string t.text)) :
    Calls Tryz.prog 20 #[.iface 46 (.pointer (some ⟨b, 0, none⟩))] w (Noded w (d + 1) t) := by
  have KE := Lib.hid hk
  have NE := Lib.hid hn
  have LE := Lib.hid hl
  have HL := Lib.hid low
  have HSZ := Lib.hid hsz
  have H := Lib.hid IH
  have a0 : ∀ (a : Option Addr) (w : World), (Instr.typeAssert (.iface 46 (.pointer a)) 33 36 true).run Tryz.prog w = .ok (.tuple #[.pointer none, .bool false]) w := fun a w => by kernel_rfl
  have a1 : ∀ (a : Option Addr) (w : World), (Instr.typeAssert (.iface 46 (.pointer a)) 33 46 true).run Tryz.prog w = .ok (.tuple #[.pointer a, .bool true]) w := fun a w => by kernel_rfl
  have R1 : Hid (BoxAt (w.alloc (.cells #[.string ⟨#[]⟩, .string ⟨#[]⟩, .int .i64 0, .slice none 0 0] 24)) w.heap.size Tree.nil (.slice none 0 0)) := by show BoxAt _ _ _ _; unfold BoxAt; exact heap_alloc_new w _
  have BW := Lib.hid (below1 w (.cells #[.string ⟨#[]⟩, .string ⟨#[]⟩, .int .i64 0, .slice none 0 0] 24))
  have HKO := Lib.hid (kindBuiltinType (some ⟨b, 0, none⟩))
  clear hk hn hl low hsz IH
  go_enter Tryz.func20, Tryz.ntmps20
  go_wp2_with fail
  refine (HKO.out _).mono ?_
  rintro e w' ⟨rfl, rfl⟩
  have e0 := cells_below BW.out _ _ _ d0
  go_wp2_with fail
  refine (nodeC d H.out kBuiltinType t.text 0 (([] : List Tree)) _ _ (In0 _) (row_nil _ _ _ none 0 (by omega)) (fun b h => h) (fun z hz => HSZ.out.2 z (by rw [LE.out]; exact hz)) (by have := HSZ.out.1.2.2.2; rw [LE.out] at this; first | (simp; done) | simpa using this)).mono ?_
  rintro e wz ⟨kv, rfl, hL, hbz⟩
  obtain ⟨na, nc, rfl⟩ := hL.form
  have BZ := Lib.hid (BW.out.trans (hbz.mono BW.out.size))
  have RZ := Lib.hid (R1.out.stay (hbz.block _ R1.out.lt))
  have LZ := Lib.hid hL
  have hpy := R1.out.lt
  have HP := Lib.hid hpy
  clear hL hbz hpy
  have r0 := RZ.out.c0
  have r1 := RZ.out.c1
  have r2 := RZ.out.c2
  have r3 := RZ.out.c3
  have f0 := RZ.out.free 0
  have f1 := RZ.out.free 1
  have f2 := RZ.out.free 2
  have f3 := RZ.out.free 3
  go_wp2_with fail
  have hb := RZ.out.put ⟨kBuiltinType, t.text, 0, ([] : List Tree)⟩ (.slice na 0 nc)
  have s0 := hb.c0
  have s1 := hb.c1
  have s2 := hb.c2
  have s3 := hb.c3
  refine bodyPost_ret (v := .agg #[.string kBuiltinType, .string t.text, .int .i64 0, .slice na 0 nc]) (by simp [results, Tryz.results20, go_sem, s0, s1, s2, s3]) rfl ⟨_, agg_eq KE.out.symm rfl NE.out.symm, KidsS.mk HSZ.out.1 (by rw [LE.out]; exact put_move LZ.out HP.out BW.out.size), below_put BZ.out (Nat.le_refl _) _ _ _ _⟩

set_option maxRecDepth 100000 in
set_option maxHeartbeats 4000000 in
theorem nodeOperator (d : Nat) (IH : NodeOf d) (w : World) (S : Nat → Prop) (t : Tree) (b : Nat) (hk : t.kind = kOperator) (hn : t.num = 0) (hl : t.kids = []) (low : ∀ c, S c → c < w.heap.size) (hsz : All Sized (d + 1) t) (d0 : w.cell? ⟨b, 0, none⟩ = some (.string t.text)) :
    Calls Tryz.prog 20 #[.iface 48 (.pointer (some ⟨b, 0, none⟩))] w (Noded w (d + 1) t) := by
  have KE := Lib.hid hk
  have NE := Lib.hid hn
  have LE := Lib.hid hl
  have HL := Lib.hid low
  have HSZ := Lib.hid hsz
  have H := Lib.hid IH
  have a0 : ∀ (a : Option Addr) (w : World), (Instr.typeAssert (.iface 48 (.pointer a)) 33 36 true).run Tryz.prog w = .ok (.tuple #[.pointer none, .bool false]) w := fun a w => by kernel_rfl
  have a1 : ∀ (a : Option Addr) (w : World), (Instr.typeAssert (.iface 48 (.pointer a)) 33 46 true).run Tryz.prog w = .ok (.tuple #[.pointer none, .bool false]) w := fun a w => by kernel_rfl
  have a2 : ∀ (a : Option Addr) (w : World), (Instr.typeAssert (.iface 48 (.pointer a)) 33 48 true).run Tryz.prog w = .ok (.tuple #[.pointer a, .bool true]) w := fun a w => by kernel_rfl
  have R1 : Hid (BoxAt (w.alloc (.cells #[.string ⟨#[]⟩, .string ⟨#[]⟩, .int .i64 0, .slice none 0 0] 24)) w.heap.size Tree.nil (.slice none 0 0)) := by show BoxAt _ _ _ _; unfold BoxAt; exact heap_alloc_new w _
  have BW := Lib.hid (below1 w (.cells #[.string ⟨#[]⟩, .string ⟨#[]⟩, .int .i64 0, .slice none 0 0] 24))
  have HKO := Lib.hid (kindOperator (some ⟨b, 0, none⟩))
  clear hk hn hl low hsz IH
  go_enter Tryz.func20, Tryz.ntmps20
  go_wp2_with fail
  refine (HKO.out _).mono ?_
  rintro e w' ⟨rfl, rfl⟩
  have e0 := cells_below BW.out _ _ _ d0
  go_wp2_with fail
  refine (nodeC d H.out kOperator t.text 0 (([] : List Tree)) _ _ (In0 _) (row_nil _ _ _ none 0 (by omega)) (fun b h => h) (fun z hz => HSZ.out.2 z (by rw [LE.out]; exact hz)) (by have := HSZ.out.1.2.2.2; rw [LE.out] at this; first | (simp; done) | simpa using this)).mono ?_
  rintro e wz ⟨kv, rfl, hL, hbz⟩
  obtain ⟨na, nc, rfl⟩ := hL.form
  have BZ := Lib.hid (BW.out.trans (hbz.mono BW.out.size))
  have RZ := Lib.hid (R1.out.stay (hbz.block _ R1.out.lt))
  have LZ := Lib.hid hL
  have hpy := R1.out.lt
  have HP := Lib.hid hpy
  clear hL hbz hpy
  have r0 := RZ.out.c0
  have r1 := RZ.out.c1
  have r2 := RZ.out.c2
  have r3 := RZ.out.c3
  have f0 := RZ.out.free 0
  have f1 := RZ.out.free 1
  have f2 := RZ.out.free 2
  have f3 := RZ.out.free 3
  go_wp2_with fail
  have hb := RZ.out.put ⟨kOperator, t.text, 0, ([] : List Tree)⟩ (.slice na 0 nc)
  have s0 := hb.c0
  have s1 := hb.c1
  have s2 := hb.c2
  have s3 := hb.c3
  refine bodyPost_ret (v := .agg #[.string kOperator, .string t.text, .int .i64 0, .slice na 0 nc]) (by simp [results, Tryz.results20, go_sem, s0, s1, s2, s3]) rfl ⟨_, agg_eq KE.out.symm rfl NE.out.symm, KidsS.mk HSZ.out.1 (by rw [LE.out]; exact put_move LZ.out HP.out BW.out.size), below_put BZ.out (Nat.le_refl _) _ _ _ _⟩

set_option maxRecDepth 100000 in
set_option maxHeartbeats 4000000 in
theorem nodeConstructor (d : Nat) (IH : NodeOf d) (w : World) (S : Nat → Prop) (t : Tree) (b : Nat) (hk : t.kind = kConstructor) (x : Tree) (u : Value) (ht : t.text = ByteArray.empty) (hn : t.num = 0) (hl : t.kids = [x]) (jx : AstAt w S d x u) (hkx : x.kind ≠ ByteArray.empty) (low : ∀ c, S c → c < w.heap.size) (hsz : All Sized (d + 1) t) (d0 : w.cell? ⟨b, 0, none⟩ = some u) :
    Calls Tryz.prog 20 #[.iface 52 (.pointer (some ⟨b, 0, none⟩))] w (Noded w (d + 1) t) := by
  have KE := Lib.hid hk
  have TE := Lib.hid ht
  have NE := Lib.hid hn
  have LE := Lib.hid hl
  have HL := Lib.hid low
  have HSZ := Lib.hid hsz
  have H := Lib.hid IH
  have Jx := Lib.hid jx
  have a0 : ∀ (a : Option Addr) (w : World), (Instr.typeAssert (.iface 52 (.pointer a)) 33 36 true).run Tryz.prog w = .ok (.tuple #[.pointer none, .bool false]) w := fun a w => by kernel_rfl
  have a1 : ∀ (a : Option Addr) (w : World), (Instr.typeAssert (.iface 52 (.pointer a)) 33 46 true).run Tryz.prog w = .ok (.tuple #[.pointer none, .bool false]) w := fun a w => by kernel_rfl
  have a2 : ∀ (a : Option Addr) (w : World), (Instr.typeAssert (.iface 52 (.pointer a)) 33 48 true).run Tryz.prog w = .ok (.tuple #[.pointer none, .bool false]) w := fun a w => by kernel_rfl
  have a3 : ∀ (a : Option Addr) (w : World), (Instr.typeAssert (.iface 52 (.pointer a)) 33 52 true).run Tryz.prog w = .ok (.tuple #[.pointer a, .bool true]) w := fun a w => by kernel_rfl
  have R1 : Hid (BoxAt (w.alloc (.cells #[.string ⟨#[]⟩, .string ⟨#[]⟩, .int .i64 0, .slice none 0 0] 24)) w.heap.size Tree.nil (.slice none 0 0)) := by show BoxAt _ _ _ _; unfold BoxAt; exact heap_alloc_new w _
  have BW := Lib.hid (below1 w (.cells #[.string ⟨#[]⟩, .string ⟨#[]⟩, .int .i64 0, .slice none 0 0] 24))
  have HKO := Lib.hid (kindConstructor (some ⟨b, 0, none⟩))
  obtain ⟨px, bkx, rfl, _⟩ := jx.ptr hkx
  clear hk ht hn hl low hsz IH jx
  go_enter Tryz.func20, Tryz.ntmps20
  go_wp2_with fail
  refine (HKO.out _).mono ?_
  rintro e w' ⟨rfl, rfl⟩
  have e0 := cells_below BW.out _ _ _ d0
  go_wp2_with fail
  have BX := Lib.hid (BW.out.trans ((below1 (w.alloc (.cells #[.string ⟨#[]⟩, .string ⟨#[]⟩, .int .i64 0, .slice none 0 0] 24)) (.cells #[(.iface px (.pointer (some ⟨bkx, 0, none⟩)))] 33)).mono BW.out.size))
  have RX := Lib.hid (R1.out.stay (Below.heap_alloc (w.alloc (.cells #[.string ⟨#[]⟩, .string ⟨#[]⟩, .int .i64 0, .slice none 0 0] 24)) (.cells #[(.iface px (.pointer (some ⟨bkx, 0, none⟩)))] 33) _ R1.out.lt))
  refine (nodeC d H.out kConstructor (⟨#[]⟩ : ByteArray) 0 ([x]) _ _ (In0 _) (row_one (nb := w.heap.size + 1) (alloc_here (by simp)) (by show _ < _; simp) (Jx.out.all HL.out BX.out)) (fun b h => h) (fun z hz => HSZ.out.2 z (by rw [LE.out]; exact hz)) (by have := HSZ.out.1.2.2.2; rw [LE.out] at this; first | (simp; done) | simpa using this)).mono ?_
  rintro e wz ⟨kv, rfl, hL, hbz⟩
  obtain ⟨na, nc, rfl⟩ := hL.form
  have BZ := Lib.hid (BX.out.trans (hbz.mono BX.out.size))
  have RZ := Lib.hid (RX.out.stay (hbz.block _ RX.out.lt))
  have LZ := Lib.hid hL
  have hpy := RX.out.lt
  have HP := Lib.hid hpy
  clear hL hbz hpy
  have r0 := RZ.out.c0
  have r1 := RZ.out.c1
  have r2 := RZ.out.c2
  have r3 := RZ.out.c3
  have f0 := RZ.out.free 0
  have f1 := RZ.out.free 1
  have f2 := RZ.out.free 2
  have f3 := RZ.out.free 3
  go_wp2_with fail
  have hb := RZ.out.put ⟨kConstructor, (⟨#[]⟩ : ByteArray), 0, [x]⟩ (.slice na 1 nc)
  have s0 := hb.c0
  have s1 := hb.c1
  have s2 := hb.c2
  have s3 := hb.c3
  refine bodyPost_ret (v := .agg #[.string kConstructor, .string (⟨#[]⟩ : ByteArray), .int .i64 0, .slice na 1 nc]) (by simp [results, Tryz.results20, go_sem, s0, s1, s2, s3]) rfl ⟨_, agg_eq KE.out.symm TE.out.symm NE.out.symm, KidsS.mk HSZ.out.1 (by rw [LE.out]; exact put_move LZ.out HP.out BX.out.size), below_put BZ.out (Nat.le_refl _) _ _ _ _⟩

set_option maxRecDepth 100000 in
set_option maxHeartbeats 4000000 in
theorem nodeDestructor (d : Nat) (IH : NodeOf d) (w : World) (S : Nat → Prop) (t : Tree) (b : Nat) (hk : t.kind = kDestructor) (x : Tree) (u : Value) (ht : t.text = ByteArray.empty) (hn : t.num = 0) (hl : t.kids = [x]) (jx : AstAt w S d x u) (hkx : x.kind ≠ ByteArray.empty) (low : ∀ c, S c → c < w.heap.size) (hsz : All Sized (d + 1) t) (d0 : w.cell? ⟨b, 0, none⟩ = some u) :
    Calls Tryz.prog 20 #[.iface 56 (.pointer (some ⟨b, 0, none⟩))] w (Noded w (d + 1) t) := by
  have KE := Lib.hid hk
  have TE := Lib.hid ht
  have NE := Lib.hid hn
  have LE := Lib.hid hl
  have HL := Lib.hid low
  have HSZ := Lib.hid hsz
  have H := Lib.hid IH
  have Jx := Lib.hid jx
  have a0 : ∀ (a : Option Addr) (w : World), (Instr.typeAssert (.iface 56 (.pointer a)) 33 36 true).run Tryz.prog w = .ok (.tuple #[.pointer none, .bool false]) w := fun a w => by kernel_rfl
  have a1 : ∀ (a : Option Addr) (w : World), (Instr.typeAssert (.iface 56 (.pointer a)) 33 46 true).run Tryz.prog w = .ok (.tuple #[.pointer none, .bool false]) w := fun a w => by kernel_rfl
  have a2 : ∀ (a : Option Addr) (w : World), (Instr.typeAssert (.iface 56 (.pointer a)) 33 48 true).run Tryz.prog w = .ok (.tuple #[.pointer none, .bool false]) w := fun a w => by kernel_rfl
  have a3 : ∀ (a : Option Addr) (w : World), (Instr.typeAssert (.iface 56 (.pointer a)) 33 52 true).run Tryz.prog w = .ok (.tuple #[.pointer none, .bool false]) w := fun a w => by kernel_rfl
  have a4 : ∀ (a : Option Addr) (w : World), (Instr.typeAssert (.iface 56 (.pointer a)) 33 56 true).run Tryz.prog w = .ok (.tuple #[.pointer a, .bool true]) w := fun a w => by kernel_rfl
  have R1 : Hid (BoxAt (w.alloc (.cells #[.string ⟨#[]⟩, .string ⟨#[]⟩, .int .i64 0, .slice none 0 0] 24)) w.heap.size Tree.nil (.slice none 0 0)) := by show BoxAt _ _ _ _; unfold BoxAt; exact heap_alloc_new w _
  have BW := Lib.hid (below1 w (.cells #[.string ⟨#[]⟩, .string ⟨#[]⟩, .int .i64 0, .slice none 0 0] 24))
  have HKO := Lib.hid (kindDestructor (some ⟨b, 0, none⟩))
  obtain ⟨px, bkx, rfl, _⟩ := jx.ptr hkx
  clear hk ht hn hl low hsz IH jx
  go_enter Tryz.func20, Tryz.ntmps20
  go_wp2_with fail
  refine (HKO.out _).mono ?_
  rintro e w' ⟨rfl, rfl⟩
  have e0 := cells_below BW.out _ _ _ d0
  go_wp2_with fail
  have BX := Lib.hid (BW.out.trans ((below1 (w.alloc (.cells #[.string ⟨#[]⟩, .string ⟨#[]⟩, .int .i64 0, .slice none 0 0] 24)) (.cells #[(.iface px (.pointer (some ⟨bkx, 0, none⟩)))] 33)).mono BW.out.size))
  have RX := Lib.hid (R1.out.stay (Below.heap_alloc (w.alloc (.cells #[.string ⟨#[]⟩, .string ⟨#[]⟩, .int .i64 0, .slice none 0 0] 24)) (.cells #[(.iface px (.pointer (some ⟨bkx, 0, none⟩)))] 33) _ R1.out.lt))
  refine (nodeC d H.out kDestructor (⟨#[]⟩ : ByteArray) 0 ([x]) _ _ (In0 _) (row_one (nb := w.heap.size + 1) (alloc_here (by simp)) (by show _ < _; simp) (Jx.out.all HL.out BX.out)) (fun b h => h) (fun z hz => HSZ.out.2 z (by rw [LE.out]; exact hz)) (by have := HSZ.out.1.2.2.2; rw [LE.out] at this; first | (simp; done) | simpa using this)).mono ?_
  rintro e wz ⟨kv, rfl, hL, hbz⟩
  obtain ⟨na, nc, rfl⟩ := hL.form
  have BZ := Lib.hid (BX.out.trans (hbz.mono BX.out.size))
  have RZ := Lib.hid (RX.out.stay (hbz.block _ RX.out.lt))
  have LZ := Lib.hid hL
  have hpy := RX.out.lt
  have HP := Lib.hid hpy
  clear hL hbz hpy
  have r0 := RZ.out.c0
  have r1 := RZ.out.c1
  have r2 := RZ.out.c2
  have r3 := RZ.out.c3
  have f0 := RZ.out.free 0
  have f1 := RZ.out.free 1
  have f2 := RZ.out.free 2
  have f3 := RZ.out.free 3
  go_wp2_with fail
  have hb := RZ.out.put ⟨kDestructor, (⟨#[]⟩ : ByteArray), 0, [x]⟩ (.slice na 1 nc)
  have s0 := hb.c0
  have s1 := hb.c1
  have s2 := hb.c2
  have s3 := hb.c3
  refine bodyPost_ret (v := .agg #[.string kDestructor, .string (⟨#[]⟩ : ByteArray), .int .i64 0, .slice na 1 nc]) (by simp [results, Tryz.results20, go_sem, s0, s1, s2, s3]) rfl ⟨_, agg_eq KE.out.symm TE.out.symm NE.out.symm, KidsS.mk HSZ.out.1 (by rw [LE.out]; exact put_move LZ.out HP.out BX.out.size), below_put BZ.out (Nat.le_refl _) _ _ _ _⟩

set_option maxRecDepth 100000 in
set_option maxHeartbeats 4000000 in
theorem nodeQualified (d : Nat) (IH : NodeOf d) (w : World) (S : Nat → Prop) (t : Tree) (b : Nat) (hk : t.kind = kQualified) (x y : Tree) (u v : Value) (ht : t.text = ByteArray.empty) (hn : t.num = 0) (hl : t.kids = [x, y]) (jx : AstAt w S d x u) (hkx : x.kind ≠ ByteArray.empty) (jy : AstAt w S d y v) (hky : y.kind ≠ ByteArray.empty) (low : ∀ c, S c → c < w.heap.size) (hsz : All Sized (d + 1) t) (d0 : w.cell? ⟨b, 0, none⟩ = some u) (d1 : w.cell? ⟨b, 1, none⟩ = some v) (d2 : w.cell? ⟨b, 2, none⟩ = some (.bool false)) :
    Calls Tryz.prog 20 #[.iface 59 (.pointer (some ⟨b, 0, none⟩))] w (Noded w (d + 1) t) := by
  have KE := Lib.hid hk
  have TE := Lib.hid ht
  have NE := Lib.hid hn
  have LE := Lib.hid hl
  have HL := Lib.hid low
  have HSZ := Lib.hid hsz
  have H := Lib.hid IH
  have Jx := Lib.hid jx
  have Jy := Lib.hid jy
  have a0 : ∀ (a : Option Addr) (w : World), (Instr.typeAssert (.iface 59 (.pointer a)) 33 36 true).run Tryz.prog w = .ok (.tuple #[.pointer none, .bool false]) w := fun a w => by kernel_rfl
  have a1 : ∀ (a : Option Addr) (w : World), (Instr.typeAssert (.iface 59 (.pointer a)) 33 46 true).run Tryz.prog w = .ok (.tuple #[.pointer none, .bool false]) w := fun a w => by kernel_rfl
  have a2 : ∀ (a : Option Addr) (w : World), (Instr.typeAssert (.iface 59 (.pointer a)) 33 48 true).run Tryz.prog w = .ok (.tuple #[.pointer none, .bool false]) w := fun a w => by kernel_rfl
  have a3 : ∀ (a : Option Addr) (w : World), (Instr.typeAssert (.iface 59 (.pointer a)) 33 52 true).run Tryz.prog w = .ok (.tuple #[.pointer none, .bool false]) w := fun a w => by kernel_rfl
  have a4 : ∀ (a : Option Addr) (w : World), (Instr.typeAssert (.iface 59 (.pointer a)) 33 56 true).run Tryz.prog w = .ok (.tuple #[.pointer none, .bool false]) w := fun a w => by kernel_rfl
  have a5 : ∀ (a : Option Addr) (w : World), (Instr.typeAssert (.iface 59 (.pointer a)) 33 59 true).run Tryz.prog w = .ok (.tuple #[.pointer a, .bool true]) w := fun a w => by kernel_rfl
  have R1 : Hid (BoxAt (w.alloc (.cells #[.string ⟨#[]⟩, .string ⟨#[]⟩, .int .i64 0, .slice none 0 0] 24)) w.heap.size Tree.nil (.slice none 0 0)) := by show BoxAt _ _ _ _; unfold BoxAt; exact heap_alloc_new w _
  have BW := Lib.hid (below1 w (.cells #[.string ⟨#[]⟩, .string ⟨#[]⟩, .int .i64 0, .slice none 0 0] 24))
  have HKO := Lib.hid (kindQualified (some ⟨b, 0, none⟩))
  obtain ⟨px, bkx, rfl, _⟩ := jx.ptr hkx
  obtain ⟨py, bky, rfl, _⟩ := jy.ptr hky
  clear hk ht hn hl low hsz IH jx jy
  go_enter Tryz.func20, Tryz.ntmps20
  go_wp2_with fail
  refine (HKO.out _).mono ?_
  rintro e w' ⟨rfl, rfl⟩
  go_wp2_with fail
  refine T2.wp_region_tab 15 (TabF d kQualified (⟨#[]⟩ : ByteArray) 0 ([x, y]) (w.alloc (.cells #[.string ⟨#[]⟩, .string ⟨#[]⟩, .int .i64 0, .slice none 0 0] 24)).drew) (TabF.stable d _ _ _ _ _) (by kernel_rfl) (by kernel_rfl) ?_
  simp only [List.take_succ_cons, List.take_zero, List.drop_succ_cons, List.drop_zero]
  obtain ⟨V, hV⟩ : ∃ V, V = (w.alloc (.cells #[.string ⟨#[]⟩, .string ⟨#[]⟩, .int .i64 0, .slice none 0 0] 24)).drew := ⟨_, rfl⟩
  rw [← hV]
  have BV : Hid (Below w.heap.size w V) := by rw [hV]; exact (below1 w (.cells #[.string ⟨#[]⟩, .string ⟨#[]⟩, .int .i64 0, .slice none 0 0] 24)).drew
  have RV : Hid (BoxAt V w.heap.size Tree.nil (.slice none 0 0)) := by rw [hV]; exact R1.out
  have m0 : V.cell? ⟨b, 0, none⟩ = some (.iface px (.pointer (some ⟨bkx, 0, none⟩))) := cells_below BV.out _ _ _ d0
  have m1 : V.cell? ⟨b, 1, none⟩ = some (.iface py (.pointer (some ⟨bky, 0, none⟩))) := cells_below BV.out _ _ _ d1
  have m2 : V.cell? ⟨b, 2, none⟩ = some (.bool false) := cells_below BV.out _ _ _ d2
  have hlV := World.block_lt_of_cell? V _ m0
  have HV := Lib.hid hV
  clear hV
  refine T2.tab_value ?u1 ?g1 ?h1 ?_
  case g1 => kernel_rfl
  case h1 => (intro w' hw'; obtain ⟨hc', hf'⟩ := bcell hw'; go_simp; try with_reducible rfl)
  simp only [Act.put, List.setIfInBounds_toArray, List.set_cons_succ, List.set_cons_zero]
  refine T2.tab_value ?u2 ?g2 ?h2 ?_
  case g2 => kernel_rfl
  case h2 => (intro w' hw'; obtain ⟨hc', hf'⟩ := bcell hw'; go_simp; try with_reducible rfl)
  simp only [Act.put, List.setIfInBounds_toArray, List.set_cons_succ, List.set_cons_zero]
  refine T2.tab_value ?u3 ?g3 ?h3 ?_
  case g3 => kernel_rfl
  case h3 => (intro w' hw'; obtain ⟨hc', hf'⟩ := bcell hw'; go_simp; try with_reducible rfl)
  simp only [Act.put, List.setIfInBounds_toArray, List.set_cons_succ, List.set_cons_zero]
  refine T2.tab_value ?u4 ?g4 ?h4 ?_
  case g4 => kernel_rfl
  case h4 => (intro w' hw'; obtain ⟨hc', hf'⟩ := bcell hw'; go_simp; try with_reducible rfl)
  simp only [Act.put, List.setIfInBounds_toArray, List.set_cons_succ, List.set_cons_zero]
  refine T2.tab_value ?u5 ?g5 ?h5 ?_
  case g5 => kernel_rfl
  case h5 => (intro w' hw'; obtain ⟨hc', hf'⟩ := bcell hw'; go_simp; try with_reducible rfl)
  simp only [Act.put, List.setIfInBounds_toArray, List.set_cons_succ, List.set_cons_zero]
  refine T2.tab_call 38 ?a6 ?g6 ?h6 ?c6 ?_
  case g6 => kernel_rfl
  case h6 => (intro w' hw'; obtain ⟨hc', hf'⟩ := bcell hw'; go_simp; try with_reducible rfl)
  case c6 => (intro w' hw'; refine (numberC false w').mono ?_; rintro e w'' ⟨rfl, rfl⟩; exact ⟨_, ⟨fun _ => congrArg (Value.int .i64) rfl, fun e => absurd e (by decide), fun e => absurd e (by decide)⟩, rfl, Ext.refl _⟩)
  rintro v1 w1 he1 ⟨hv1, _, _⟩
  obtain rfl := hv1 rfl
  simp only [Act.put, List.setIfInBounds_toArray, List.set_cons_succ, List.set_cons_zero]
  have E1 := Lib.hid he1
  clear he1
  refine T2.tab_value ?u7 ?g7 ?h7 ?_
  case g7 => kernel_rfl
  case h7 => (intro w' hw'; obtain ⟨hc', hf'⟩ := bcell hw'; go_simp; try with_reducible rfl)
  simp only [Act.put, List.setIfInBounds_toArray, List.set_cons_succ, List.set_cons_zero]
  refine T2.tab_value ?u8 ?g8 ?h8 ?_
  case g8 => kernel_rfl
  case h8 => (intro w' hw'; obtain ⟨hc', hf'⟩ := bcell hw'; go_simp; try with_reducible rfl)
  simp only [Act.put, List.setIfInBounds_toArray, List.set_cons_succ, List.set_cons_zero]
  refine T2.tab_value ?u9 ?g9 ?h9 ?_
  case g9 => kernel_rfl
  case h9 => (intro w' hw'; obtain ⟨hc', hf'⟩ := bcell hw'; go_simp; try with_reducible rfl)
  simp only [Act.put, List.setIfInBounds_toArray, List.set_cons_succ, List.set_cons_zero]
  refine T2.tab_value ?u10 ?g10 ?h10 ?_
  case g10 => kernel_rfl
  case h10 => (intro w' hw'; obtain ⟨hc', hf'⟩ := bcell hw'; go_simp; try with_reducible rfl)
  simp only [Act.put, List.setIfInBounds_toArray, List.set_cons_succ, List.set_cons_zero]
  refine T2.tab_value ?u11 ?g11 ?h11 ?_
  case g11 => kernel_rfl
  case h11 => (intro w' hw'; obtain ⟨hc', hf'⟩ := bcell hw'; go_simp; try with_reducible rfl)
  simp only [Act.put, List.setIfInBounds_toArray, List.set_cons_succ, List.set_cons_zero]
  refine T2.tab_value ?u12 ?g12 ?h12 ?_
  case g12 => kernel_rfl
  case h12 => (intro w' hw'; obtain ⟨hc', hf'⟩ := bcell hw'; go_simp; try with_reducible rfl)
  simp only [Act.put, List.setIfInBounds_toArray, List.set_cons_succ, List.set_cons_zero]
  refine T2.tab_value ?u13 ?g13 ?h13 ?_
  case g13 => kernel_rfl
  case h13 => (intro w' hw'; obtain ⟨hc', hf'⟩ := bcell hw'; go_simp; try with_reducible rfl)
  simp only [Act.put, List.setIfInBounds_toArray, List.set_cons_succ, List.set_cons_zero]
  refine T2.tab_value ?u14 ?g14 ?h14 ?_
  case g14 => kernel_rfl
  case h14 => (intro w' hw'; obtain ⟨hc', hf'⟩ := bcell hw'; go_simp; try with_reducible rfl)
  simp only [Act.put, List.setIfInBounds_toArray, List.set_cons_succ, List.set_cons_zero]
  refine T2.tab_slice 2 ?o15 ?g15 ?h15 ?_
  case g15 => kernel_rfl
  case h15 => (intro w' hw'; obtain ⟨hc', hf'⟩ := bcell hw'; go_simp; try with_reducible rfl)
  intro nb w2 he2 hlz hsz' hbz
  have NB := Lib.hid hbz
  have NS := Lib.hid hsz'
  clear hbz hsz' hlz
  simp only [Act.put, List.setIfInBounds_toArray, List.set_cons_succ, List.set_cons_zero]
  have E2 := Lib.hid he2
  clear he2
  refine T2.wpTab_nil (fun wy hey => ?_)
  have EY : Hid (Ext V wy) := Ext.trans (Ext.trans (Ext.trans (Ext.refl V) E1.out) E2.out) hey
  have BY := Lib.hid (BV.out.trans (Below.mono EY.out BV.out.size))
  have RY := Lib.hid (RV.out.stay (EY.out.block _ RV.out.lt))
  have NY := Lib.hid ((hey.block nb NS.out).trans NB.out)
  have NLY := Lib.hid (Nat.lt_of_lt_of_le NS.out hey.size)
  clear hey hlV m0 m1 m2
  go_wp2_with fail
  refine (nodeC d H.out kQualified (⟨#[]⟩ : ByteArray) 0 ([x, y]) _ _ (In0 _) (row_two NY.out NLY.out (Jx.out.all HL.out BY.out) (Jy.out.all HL.out BY.out)) (fun b h => h) (fun z hz => HSZ.out.2 z (by rw [LE.out]; exact hz)) (by have := HSZ.out.1.2.2.2; rw [LE.out] at this; first | (simp; done) | simpa using this)).mono ?_
  rintro e wz ⟨kv, rfl, hL, hbz⟩
  obtain ⟨na, nc, rfl⟩ := hL.form
  have BZ := Lib.hid (BY.out.trans (hbz.mono BY.out.size))
  have RZ := Lib.hid (RY.out.stay (hbz.block _ RY.out.lt))
  have LZ := Lib.hid hL
  have hpy := RY.out.lt
  have HP := Lib.hid hpy
  clear hL hbz hpy
  have r0 := RZ.out.c0
  have r1 := RZ.out.c1
  have r2 := RZ.out.c2
  have r3 := RZ.out.c3
  have f0 := RZ.out.free 0
  have f1 := RZ.out.free 1
  have f2 := RZ.out.free 2
  have f3 := RZ.out.free 3
  go_wp2_with fail
  have hb := RZ.out.put ⟨kQualified, (⟨#[]⟩ : ByteArray), 0, [x, y]⟩ (.slice na 2 nc)
  have s0 := hb.c0
  have s1 := hb.c1
  have s2 := hb.c2
  have s3 := hb.c3
  refine bodyPost_ret (v := .agg #[.string kQualified, .string (⟨#[]⟩ : ByteArray), .int .i64 0, .slice na 2 nc]) (by simp [results, Tryz.results20, go_sem, s0, s1, s2, s3]) rfl ⟨_, agg_eq KE.out.symm TE.out.symm NE.out.symm, KidsS.mk HSZ.out.1 (by rw [LE.out]; exact put_move LZ.out HP.out BY.out.size), below_put BZ.out (Nat.le_refl _) _ _ _ _⟩

set_option maxRecDepth 100000 in
set_option maxHeartbeats 4000000 in
theorem nodeTemplate (d : Nat) (IH : NodeOf d) (w : World) (S : Nat → Prop) (t : Tree) (b : Nat) (hk : t.kind = kTemplate) (x : Tree) (l : List Tree) (u : Value) (la : Option Addr) (lc : Nat) (ht : t.text = ByteArray.empty) (hn : t.num = 0) (hl : t.kids = x :: l) (jx : AstAt w S d x u) (hrow : RowAt w S (AstAt w S d) l (.slice la l.length lc)) (low : ∀ c, S c → c < w.heap.size) (hsz : All Sized (d + 1) t) (d0 : w.cell? ⟨b, 0, none⟩ = some u) (d1 : w.cell? ⟨b, 1, none⟩ = some (.slice la l.length lc)) :
    Calls Tryz.prog 20 #[.iface 62 (.pointer (some ⟨b, 0, none⟩))] w (Noded w (d + 1) t) := by
  have KE := Lib.hid hk
  have TE := Lib.hid ht
  have NE := Lib.hid hn
  have LE := Lib.hid hl
  have HL := Lib.hid low
  have HSZ := Lib.hid hsz
  have ROW := Lib.hid hrow
  have H := Lib.hid IH
  have Jx := Lib.hid jx
  have a0 : ∀ (a : Option Addr) (w : World), (Instr.typeAssert (.iface 62 (.pointer a)) 33 36 true).run Tryz.prog w = .ok (.tuple #[.pointer none, .bool false]) w := fun a w => by kernel_rfl
  have a1 : ∀ (a : Option Addr) (w : World), (Instr.typeAssert (.iface 62 (.pointer a)) 33 46 true).run Tryz.prog w = .ok (.tuple #[.pointer none, .bool false]) w := fun a w => by kernel_rfl
  have a2 : ∀ (a : Option Addr) (w : World), (Instr.typeAssert (.iface 62 (.pointer a)) 33 48 true).run Tryz.prog w = .ok (.tuple #[.pointer none, .bool false]) w := fun a w => by kernel_rfl
  have a3 : ∀ (a : Option Addr) (w : World), (Instr.typeAssert (.iface 62 (.pointer a)) 33 52 true).run Tryz.prog w = .ok (.tuple #[.pointer none, .bool false]) w := fun a w => by kernel_rfl
  have a4 : ∀ (a : Option Addr) (w : World), (Instr.typeAssert (.iface 62 (.pointer a)) 33 56 true).run Tryz.prog w = .ok (.tuple #[.pointer none, .bool false]) w := fun a w => by kernel_rfl
  have a5 : ∀ (a : Option Addr) (w : World), (Instr.typeAssert (.iface 62 (.pointer a)) 33 59 true).run Tryz.prog w = .ok (.tuple #[.pointer none, .bool false]) w := fun a w => by kernel_rfl
  have a6 : ∀ (a : Option Addr) (w : World), (Instr.typeAssert (.iface 62 (.pointer a)) 33 62 true).run Tryz.prog w = .ok (.tuple #[.pointer a, .bool true]) w := fun a w => by kernel_rfl
  have R1 : Hid (BoxAt (w.alloc (.cells #[.string ⟨#[]⟩, .string ⟨#[]⟩, .int .i64 0, .slice none 0 0] 24)) w.heap.size Tree.nil (.slice none 0 0)) := by show BoxAt _ _ _ _; unfold BoxAt; exact heap_alloc_new w _
  have BW := Lib.hid (below1 w (.cells #[.string ⟨#[]⟩, .string ⟨#[]⟩, .int .i64 0, .slice none 0 0] 24))
  have HKO := Lib.hid (kindTemplate (some ⟨b, 0, none⟩))
  clear hk ht hn hl low hsz hrow IH jx
  go_enter Tryz.func20, Tryz.ntmps20
  go_wp2_with fail
  refine (HKO.out _).mono ?_
  rintro e w' ⟨rfl, rfl⟩
  go_wp2_with fail
  refine T2.wp_region_tab 10 (TabF d kTemplate (⟨#[]⟩ : ByteArray) 0 (x :: l) (w.alloc (.cells #[.string ⟨#[]⟩, .string ⟨#[]⟩, .int .i64 0, .slice none 0 0] 24)).drew) (TabF.stable d _ _ _ _ _) (by kernel_rfl) (by kernel_rfl) ?_
  simp only [List.take_succ_cons, List.take_zero, List.drop_succ_cons, List.drop_zero]
  obtain ⟨V, hV⟩ : ∃ V, V = (w.alloc (.cells #[.string ⟨#[]⟩, .string ⟨#[]⟩, .int .i64 0, .slice none 0 0] 24)).drew := ⟨_, rfl⟩
  rw [← hV]
  have BV : Hid (Below w.heap.size w V) := by rw [hV]; exact (below1 w (.cells #[.string ⟨#[]⟩, .string ⟨#[]⟩, .int .i64 0, .slice none 0 0] 24)).drew
  have RV : Hid (BoxAt V w.heap.size Tree.nil (.slice none 0 0)) := by rw [hV]; exact R1.out
  have m0 : V.cell? ⟨b, 0, none⟩ = some u := cells_below BV.out _ _ _ d0
  have m1 : V.cell? ⟨b, 1, none⟩ = some (.slice la l.length lc) := cells_below BV.out _ _ _ d1
  have hlV := World.block_lt_of_cell? V _ m0
  have HV := Lib.hid hV
  clear hV
  refine T2.tab_value ?u16 ?g16 ?h16 ?_
  case g16 => kernel_rfl
  case h16 => (intro w' hw'; obtain ⟨hc', hf'⟩ := bcell hw'; go_simp; try with_reducible rfl)
  simp only [Act.put, List.setIfInBounds_toArray, List.set_cons_succ, List.set_cons_zero]
  refine T2.tab_value ?u17 ?g17 ?h17 ?_
  case g17 => kernel_rfl
  case h17 => (intro w' hw'; obtain ⟨hc', hf'⟩ := bcell hw'; go_simp; try with_reducible rfl)
  simp only [Act.put, List.setIfInBounds_toArray, List.set_cons_succ, List.set_cons_zero]
  refine T2.tab_value ?u18 ?g18 ?h18 ?_
  case g18 => kernel_rfl
  case h18 => (intro w' hw'; obtain ⟨hc', hf'⟩ := bcell hw'; go_simp; try with_reducible rfl)
  simp only [Act.put, List.setIfInBounds_toArray, List.set_cons_succ, List.set_cons_zero]
  refine T2.tab_value ?u19 ?g19 ?h19 ?_
  case g19 => kernel_rfl
  case h19 => (intro w' hw'; obtain ⟨hc', hf'⟩ := bcell hw'; go_simp; try with_reducible rfl)
  simp only [Act.put, List.setIfInBounds_toArray, List.set_cons_succ, List.set_cons_zero]
  refine T2.tab_value ?u20 ?g20 ?h20 ?_
  case g20 => kernel_rfl
  case h20 => (intro w' hw'; obtain ⟨hc', hf'⟩ := bcell hw'; go_simp; try with_reducible rfl)
  simp only [Act.put, List.setIfInBounds_toArray, List.set_cons_succ, List.set_cons_zero]
  refine T2.tab_value ?u21 ?g21 ?h21 ?_
  case g21 => kernel_rfl
  case h21 => (intro w' hw'; obtain ⟨hc', hf'⟩ := bcell hw'; go_simp; try with_reducible rfl)
  simp only [Act.put, List.setIfInBounds_toArray, List.set_cons_succ, List.set_cons_zero]
  refine T2.tab_value ?u22 ?g22 ?h22 ?_
  case g22 => kernel_rfl
  case h22 => (intro w' hw'; obtain ⟨hc', hf'⟩ := bcell hw'; go_simp; try with_reducible rfl)
  simp only [Act.put, List.setIfInBounds_toArray, List.set_cons_succ, List.set_cons_zero]
  refine T2.tab_value ?u23 ?g23 ?h23 ?_
  case g23 => kernel_rfl
  case h23 => (intro w' hw'; obtain ⟨hc', hf'⟩ := bcell hw'; go_simp; try with_reducible rfl)
  simp only [Act.put, List.setIfInBounds_toArray, List.set_cons_succ, List.set_cons_zero]
  refine T2.tab_value ?u24 ?g24 ?h24 ?_
  case g24 => kernel_rfl
  case h24 => (intro w' hw'; obtain ⟨hc', hf'⟩ := bcell hw'; go_simp; try with_reducible rfl)
  simp only [Act.put, List.setIfInBounds_toArray, List.set_cons_succ, List.set_cons_zero]
  refine T2.tab_call 39 ?a25 ?g25 ?h25 ?c25 ?_
  case g25 => kernel_rfl
  case h25 => (intro w' hw'; obtain ⟨hc', hf'⟩ := bcell hw'; go_simp; try with_reducible rfl)
  case c25 => (intro w' hw'; refine (withC d x l u _ w' (In0 w') (Jx.out.all HL.out (BV.out.trans (Below.mono hw' BV.out.size))) (ROW.out.all HL.out (BV.out.trans (Below.mono hw' BV.out.size))) (fun b h => h) (by have := HSZ.out.1.2.2.2; rw [LE.out] at this; simp at this; omega)).mono ?_; rintro e w'' ⟨v', rfl, hr, hb⟩; exact ⟨_, ⟨fun e => absurd e (by decide), fun _ => hr, fun e => absurd e (by decide)⟩, rfl, hb⟩)
  rintro v1 w1 he1 ⟨_, hv1, _⟩
  have hr := hv1 rfl
  obtain ⟨wa, wc, rfl⟩ := hr.form
  have WR := Lib.hid hr
  clear hv1 hr
  simp only [Act.put, List.setIfInBounds_toArray, List.set_cons_succ, List.set_cons_zero]
  have E1 := Lib.hid he1
  clear he1
  refine T2.wpTab_nil (fun wy hey => ?_)
  have EY : Hid (Ext V wy) := Ext.trans (Ext.trans (Ext.refl V) E1.out) hey
  have BY := Lib.hid (BV.out.trans (Below.mono EY.out BV.out.size))
  have RY := Lib.hid (RV.out.stay (EY.out.block _ RV.out.lt))
  have WY := Lib.hid (WR.out.all (fun b h => h) hey)
  clear hey hlV m0 m1
  go_wp2_with fail
  refine (nodeC d H.out kTemplate (⟨#[]⟩ : ByteArray) 0 (x :: l) _ _ (In0 _) WY.out (fun b h => h) (fun z hz => HSZ.out.2 z (by rw [LE.out]; exact hz)) (by have := HSZ.out.1.2.2.2; rw [LE.out] at this; first | (simp; done) | simpa using this)).mono ?_
  rintro e wz ⟨kv, rfl, hL, hbz⟩
  obtain ⟨na, nc, rfl⟩ := hL.form
  have BZ := Lib.hid (BY.out.trans (hbz.mono BY.out.size))
  have RZ := Lib.hid (RY.out.stay (hbz.block _ RY.out.lt))
  have LZ := Lib.hid hL
  have hpy := RY.out.lt
  have HP := Lib.hid hpy
  clear hL hbz hpy
  have r0 := RZ.out.c0
  have r1 := RZ.out.c1
  have r2 := RZ.out.c2
  have r3 := RZ.out.c3
  have f0 := RZ.out.free 0
  have f1 := RZ.out.free 1
  have f2 := RZ.out.free 2
  have f3 := RZ.out.free 3
  go_wp2_with fail
  have hb := RZ.out.put ⟨kTemplate, (⟨#[]⟩ : ByteArray), 0, x :: l⟩ (.slice na (l.length + 1) nc)
  have s0 := hb.c0
  have s1 := hb.c1
  have s2 := hb.c2
  have s3 := hb.c3
  refine bodyPost_ret (v := .agg #[.string kTemplate, .string (⟨#[]⟩ : ByteArray), .int .i64 0, .slice na (l.length + 1) nc]) (by simp [results, Tryz.results20, go_sem, s0, s1, s2, s3]) rfl ⟨_, agg_eq KE.out.symm TE.out.symm NE.out.symm, KidsS.mk HSZ.out.1 (by rw [LE.out]; exact put_move LZ.out HP.out BY.out.size), below_put BZ.out (Nat.le_refl _) _ _ _ _⟩

set_option maxRecDepth 100000 in
set_option maxHeartbeats 4000000 in
theorem nodeTyped (d : Nat) (IH : NodeOf d) (w : World) (S : Nat → Prop) (t : Tree) (b : Nat) (hk : t.kind = kTyped) (x y : Tree) (u v : Value) (ht : t.text = ByteArray.empty) (hn : t.num = 0) (hl : t.kids = [x, y]) (jx : AstAt w S d x u) (hkx : x.kind ≠ ByteArray.empty) (jy : AstAt w S d y v) (hky : y.kind ≠ ByteArray.empty) (low : ∀ c, S c → c < w.heap.size) (hsz : All Sized (d + 1) t) (d0 : w.cell? ⟨b, 0, none⟩ = some u) (d1 : w.cell? ⟨b, 1, none⟩ = some v) :
    Calls Tryz.prog 20 #[.iface 67 (.pointer (some ⟨b, 0, none⟩))] w (Noded w (d + 1) t) := by
  have KE := Lib.hid hk
  have TE := Lib.hid ht
  have NE := Lib.hid hn
  have LE := Lib.hid hl
  have HL := Lib.hid low
  have HSZ := Lib.hid hsz
  have H := Lib.hid IH
  have Jx := Lib.hid jx
  have Jy := Lib.hid jy
  have a0 : ∀ (a : Option Addr) (w : World), (Instr.typeAssert (.iface 67 (.pointer a)) 33 36 true).run Tryz.prog w = .ok (.tuple #[.pointer none, .bool false]) w := fun a w => by kernel_rfl
  have a1 : ∀ (a : Option Addr) (w : World), (Instr.typeAssert (.iface 67 (.pointer a)) 33 46 true).run Tryz.prog w = .ok (.tuple #[.pointer none, .bool false]) w := fun a w => by kernel_rfl
  have a2 : ∀ (a : Option Addr) (w : World), (Instr.typeAssert (.iface 67 (.pointer a)) 33 48 true).run Tryz.prog w = .ok (.tuple #[.pointer none, .bool false]) w := fun a w => by kernel_rfl
  have a3 : ∀ (a : Option Addr) (w : World), (Instr.typeAssert (.iface 67 (.pointer a)) 33 52 true).run Tryz.prog w = .ok (.tuple #[.pointer none, .bool false]) w := fun a w => by kernel_rfl
  have a4 : ∀ (a : Option Addr) (w : World), (Instr.typeAssert (.iface 67 (.pointer a)) 33 56 true).run Tryz.prog w = .ok (.tuple #[.pointer none, .bool false]) w := fun a w => by kernel_rfl
  have a5 : ∀ (a : Option Addr) (w : World), (Instr.typeAssert (.iface 67 (.pointer a)) 33 59 true).run Tryz.prog w = .ok (.tuple #[.pointer none, .bool false]) w := fun a w => by kernel_rfl
  have a6 : ∀ (a : Option Addr) (w : World), (Instr.typeAssert (.iface 67 (.pointer a)) 33 62 true).run Tryz.prog w = .ok (.tuple #[.pointer none, .bool false]) w := fun a w => by kernel_rfl
  have a7 : ∀ (a : Option Addr) (w : World), (Instr.typeAssert (.iface 67 (.pointer a)) 33 67 true).run Tryz.prog w = .ok (.tuple #[.pointer a, .bool true]) w := fun a w => by kernel_rfl
  have R1 : Hid (BoxAt (w.alloc (.cells #[.string ⟨#[]⟩, .string ⟨#[]⟩, .int .i64 0, .slice none 0 0] 24)) w.heap.size Tree.nil (.slice none 0 0)) := by show BoxAt _ _ _ _; unfold BoxAt; exact heap_alloc_new w _
  have BW := Lib.hid (below1 w (.cells #[.string ⟨#[]⟩, .string ⟨#[]⟩, .int .i64 0, .slice none 0 0] 24))
  have HKO := Lib.hid (kindTyped (some ⟨b, 0, none⟩))
  obtain ⟨px, bkx, rfl, _⟩ := jx.ptr hkx
  obtain ⟨py, bky, rfl, _⟩ := jy.ptr hky
  clear hk ht hn hl low hsz IH jx jy
  go_enter Tryz.func20, Tryz.ntmps20
  go_wp2_with fail
  refine (HKO.out _).mono ?_
  rintro e w' ⟨rfl, rfl⟩
  go_wp2_with fail
  refine T2.wp_region_tab 10 (TabF d kTyped (⟨#[]⟩ : ByteArray) 0 ([x, y]) (w.alloc (.cells #[.string ⟨#[]⟩, .string ⟨#[]⟩, .int .i64 0, .slice none 0 0] 24)).drew) (TabF.stable d _ _ _ _ _) (by kernel_rfl) (by kernel_rfl) ?_
  simp only [List.take_succ_cons, List.take_zero, List.drop_succ_cons, List.drop_zero]
  obtain ⟨V, hV⟩ : ∃ V, V = (w.alloc (.cells #[.string ⟨#[]⟩, .string ⟨#[]⟩, .int .i64 0, .slice none 0 0] 24)).drew := ⟨_, rfl⟩
  rw [← hV]
  have BV : Hid (Below w.heap.size w V) := by rw [hV]; exact (below1 w (.cells #[.string ⟨#[]⟩, .string ⟨#[]⟩, .int .i64 0, .slice none 0 0] 24)).drew
  have RV : Hid (BoxAt V w.heap.size Tree.nil (.slice none 0 0)) := by rw [hV]; exact R1.out
  have m0 : V.cell? ⟨b, 0, none⟩ = some (.iface px (.pointer (some ⟨bkx, 0, none⟩))) := cells_below BV.out _ _ _ d0
  have m1 : V.cell? ⟨b, 1, none⟩ = some (.iface py (.pointer (some ⟨bky, 0, none⟩))) := cells_below BV.out _ _ _ d1
  have hlV := World.block_lt_of_cell? V _ m0
  have HV := Lib.hid hV
  clear hV
  refine T2.tab_value ?u26 ?g26 ?h26 ?_
  case g26 => kernel_rfl
  case h26 => (intro w' hw'; obtain ⟨hc', hf'⟩ := bcell hw'; go_simp; try with_reducible rfl)
  simp only [Act.put, List.setIfInBounds_toArray, List.set_cons_succ, List.set_cons_zero]
  refine T2.tab_value ?u27 ?g27 ?h27 ?_
  case g27 => kernel_rfl
  case h27 => (intro w' hw'; obtain ⟨hc', hf'⟩ := bcell hw'; go_simp; try with_reducible rfl)
  simp only [Act.put, List.setIfInBounds_toArray, List.set_cons_succ, List.set_cons_zero]
  refine T2.tab_value ?u28 ?g28 ?h28 ?_
  case g28 => kernel_rfl
  case h28 => (intro w' hw'; obtain ⟨hc', hf'⟩ := bcell hw'; go_simp; try with_reducible rfl)
  simp only [Act.put, List.setIfInBounds_toArray, List.set_cons_succ, List.set_cons_zero]
  refine T2.tab_value ?u29 ?g29 ?h29 ?_
  case g29 => kernel_rfl
  case h29 => (intro w' hw'; obtain ⟨hc', hf'⟩ := bcell hw'; go_simp; try with_reducible rfl)
  simp only [Act.put, List.setIfInBounds_toArray, List.set_cons_succ, List.set_cons_zero]
  refine T2.tab_value ?u30 ?g30 ?h30 ?_
  case g30 => kernel_rfl
  case h30 => (intro w' hw'; obtain ⟨hc', hf'⟩ := bcell hw'; go_simp; try with_reducible rfl)
  simp only [Act.put, List.setIfInBounds_toArray, List.set_cons_succ, List.set_cons_zero]
  refine T2.tab_value ?u31 ?g31 ?h31 ?_
  case g31 => kernel_rfl
  case h31 => (intro w' hw'; obtain ⟨hc', hf'⟩ := bcell hw'; go_simp; try with_reducible rfl)
  simp only [Act.put, List.setIfInBounds_toArray, List.set_cons_succ, List.set_cons_zero]
  refine T2.tab_value ?u32 ?g32 ?h32 ?_
  case g32 => kernel_rfl
  case h32 => (intro w' hw'; obtain ⟨hc', hf'⟩ := bcell hw'; go_simp; try with_reducible rfl)
  simp only [Act.put, List.setIfInBounds_toArray, List.set_cons_succ, List.set_cons_zero]
  refine T2.tab_value ?u33 ?g33 ?h33 ?_
  case g33 => kernel_rfl
  case h33 => (intro w' hw'; obtain ⟨hc', hf'⟩ := bcell hw'; go_simp; try with_reducible rfl)
  simp only [Act.put, List.setIfInBounds_toArray, List.set_cons_succ, List.set_cons_zero]
  refine T2.tab_value ?u34 ?g34 ?h34 ?_
  case g34 => kernel_rfl
  case h34 => (intro w' hw'; obtain ⟨hc', hf'⟩ := bcell hw'; go_simp; try with_reducible rfl)
  simp only [Act.put, List.setIfInBounds_toArray, List.set_cons_succ, List.set_cons_zero]
  refine T2.tab_slice 2 ?o35 ?g35 ?h35 ?_
  case g35 => kernel_rfl
  case h35 => (intro w' hw'; obtain ⟨hc', hf'⟩ := bcell hw'; go_simp; try with_reducible rfl)
  intro nb w1 he1 hlz hsz' hbz
  have NB := Lib.hid hbz
  have NS := Lib.hid hsz'
  clear hbz hsz' hlz
  simp only [Act.put, List.setIfInBounds_toArray, List.set_cons_succ, List.set_cons_zero]
  have E1 := Lib.hid he1
  clear he1
  refine T2.wpTab_nil (fun wy hey => ?_)
  have EY : Hid (Ext V wy) := Ext.trans (Ext.trans (Ext.refl V) E1.out) hey
  have BY := Lib.hid (BV.out.trans (Below.mono EY.out BV.out.size))
  have RY := Lib.hid (RV.out.stay (EY.out.block _ RV.out.lt))
  have NY := Lib.hid ((hey.block nb NS.out).trans NB.out)
  have NLY := Lib.hid (Nat.lt_of_lt_of_le NS.out hey.size)
  clear hey hlV m0 m1
  go_wp2_with fail
  refine (nodeC d H.out kTyped (⟨#[]⟩ : ByteArray) 0 ([x, y]) _ _ (In0 _) (row_two NY.out NLY.out (Jx.out.all HL.out BY.out) (Jy.out.all HL.out BY.out)) (fun b h => h) (fun z hz => HSZ.out.2 z (by rw [LE.out]; exact hz)) (by have := HSZ.out.1.2.2.2; rw [LE.out] at this; first | (simp; done) | simpa using this)).mono ?_
  rintro e wz ⟨kv, rfl, hL, hbz⟩
  obtain ⟨na, nc, rfl⟩ := hL.form
  have BZ := Lib.hid (BY.out.trans (hbz.mono BY.out.size))
  have RZ := Lib.hid (RY.out.stay (hbz.block _ RY.out.lt))
  have LZ := Lib.hid hL
  have hpy := RY.out.lt
  have HP := Lib.hid hpy
  clear hL hbz hpy
  have r0 := RZ.out.c0
  have r1 := RZ.out.c1
  have r2 := RZ.out.c2
  have r3 := RZ.out.c3
  have f0 := RZ.out.free 0
  have f1 := RZ.out.free 1
  have f2 := RZ.out.free 2
  have f3 := RZ.out.free 3
  go_wp2_with fail
  have hb := RZ.out.put ⟨kTyped, (⟨#[]⟩ : ByteArray), 0, [x, y]⟩ (.slice na 2 nc)
  have s0 := hb.c0
  have s1 := hb.c1
  have s2 := hb.c2
  have s3 := hb.c3
  refine bodyPost_ret (v := .agg #[.string kTyped, .string (⟨#[]⟩ : ByteArray), .int .i64 0, .slice na 2 nc]) (by simp [results, Tryz.results20, go_sem, s0, s1, s2, s3]) rfl ⟨_, agg_eq KE.out.symm TE.out.symm NE.out.symm, KidsS.mk HSZ.out.1 (by rw [LE.out]; exact put_move LZ.out HP.out BY.out.size), below_put BZ.out (Nat.le_refl _) _ _ _ _⟩

set_option maxRecDepth 100000 in
set_option maxHeartbeats 4000000 in
theorem nodeFunctionType (d : Nat) (IH : NodeOf d) (w : World) (S : Nat → Prop) (t : Tree) (b : Nat) (hk : t.kind = kFunctionType) (x : Tree) (l : List Tree) (u : Value) (la : Option Addr) (lc : Nat) (ht : t.text = ByteArray.empty) (hn : t.num = 0) (hl : t.kids = x :: l) (jx : AstAt w S d x u) (hrow : RowAt w S (AstAt w S d) l (.slice la l.length lc)) (low : ∀ c, S c → c < w.heap.size) (hsz : All Sized (d + 1) t) (d0 : w.cell? ⟨b, 0, none⟩ = some u) (d1 : w.cell? ⟨b, 1, none⟩ = some (.slice la l.length lc)) (d2 : w.cell? ⟨b, 2, none⟩ = some (.bool false)) :
    Calls Tryz.prog 20 #[.iface 70 (.pointer (some ⟨b, 0, none⟩))] w (Noded w (d + 1) t) := by
  have KE := Lib.hid hk
  have TE := Lib.hid ht
  have NE := Lib.hid hn
  have LE := Lib.hid hl
  have HL := Lib.hid low
  have HSZ := Lib.hid hsz
  have ROW := Lib.hid hrow
  have H := Lib.hid IH
  have Jx := Lib.hid jx
  have a0 : ∀ (a : Option Addr) (w : World), (Instr.typeAssert (.iface 70 (.pointer a)) 33 36 true).run Tryz.prog w = .ok (.tuple #[.pointer none, .bool false]) w := fun a w => by kernel_rfl
  have a1 : ∀ (a : Option Addr) (w : World), (Instr.typeAssert (.iface 70 (.pointer a)) 33 46 true).run Tryz.prog w = .ok (.tuple #[.pointer none, .bool false]) w := fun a w => by kernel_rfl
  have a2 : ∀ (a : Option Addr) (w : World), (Instr.typeAssert (.iface 70 (.pointer a)) 33 48 true).run Tryz.prog w = .ok (.tuple #[.pointer none, .bool false]) w := fun a w => by kernel_rfl
  have a3 : ∀ (a : Option Addr) (w : World), (Instr.typeAssert (.iface 70 (.pointer a)) 33 52 true).run Tryz.prog w = .ok (.tuple #[.pointer none, .bool false]) w := fun a w => by kernel_rfl
  have a4 : ∀ (a : Option Addr) (w : World), (Instr.typeAssert (.iface 70 (.pointer a)) 33 56 true).run Tryz.prog w = .ok (.tuple #[.pointer none, .bool false]) w := fun a w => by kernel_rfl
  have a5 : ∀ (a : Option Addr) (w : World), (Instr.typeAssert (.iface 70 (.pointer a)) 33 59 true).run Tryz.prog w = .ok (.tuple #[.pointer none, .bool false]) w := fun a w => by kernel_rfl
  have a6 : ∀ (a : Option Addr) (w : World), (Instr.typeAssert (.iface 70 (.pointer a)) 33 62 true).run Tryz.prog w = .ok (.tuple #[.pointer none, .bool false]) w := fun a w => by kernel_rfl
  have a7 : ∀ (a : Option Addr) (w : World), (Instr.typeAssert (.iface 70 (.pointer a)) 33 67 true).run Tryz.prog w = .ok (.tuple #[.pointer none, .bool false]) w := fun a w => by kernel_rfl
  have a8 : ∀ (a : Option Addr) (w : World), (Instr.typeAssert (.iface 70 (.pointer a)) 33 70 true).run Tryz.prog w = .ok (.tuple #[.pointer a, .bool true]) w := fun a w => by kernel_rfl
  have R1 : Hid (BoxAt (w.alloc (.cells #[.string ⟨#[]⟩, .string ⟨#[]⟩, .int .i64 0, .slice none 0 0] 24)) w.heap.size Tree.nil (.slice none 0 0)) := by show BoxAt _ _ _ _; unfold BoxAt; exact heap_alloc_new w _
  have BW := Lib.hid (below1 w (.cells #[.string ⟨#[]⟩, .string ⟨#[]⟩, .int .i64 0, .slice none 0 0] 24))
  have HKO := Lib.hid (kindFunctionType (some ⟨b, 0, none⟩))
  clear hk ht hn hl low hsz hrow IH jx
  go_enter Tryz.func20, Tryz.ntmps20
  go_wp2_with fail
  refine (HKO.out _).mono ?_
  rintro e w' ⟨rfl, rfl⟩
  go_wp2_with fail
  refine T2.wp_region_tab 15 (TabF d kFunctionType (⟨#[]⟩ : ByteArray) 0 (x :: l) (w.alloc (.cells #[.string ⟨#[]⟩, .string ⟨#[]⟩, .int .i64 0, .slice none 0 0] 24)).drew) (TabF.stable d _ _ _ _ _) (by kernel_rfl) (by kernel_rfl) ?_
  simp only [List.take_succ_cons, List.take_zero, List.drop_succ_cons, List.drop_zero]
  obtain ⟨V, hV⟩ : ∃ V, V = (w.alloc (.cells #[.string ⟨#[]⟩, .string ⟨#[]⟩, .int .i64 0, .slice none 0 0] 24)).drew := ⟨_, rfl⟩
  rw [← hV]
  have BV : Hid (Below w.heap.size w V) := by rw [hV]; exact (below1 w (.cells #[.string ⟨#[]⟩, .string ⟨#[]⟩, .int .i64 0, .slice none 0 0] 24)).drew
  have RV : Hid (BoxAt V w.heap.size Tree.nil (.slice none 0 0)) := by rw [hV]; exact R1.out
  have m0 : V.cell? ⟨b, 0, none⟩ = some u := cells_below BV.out _ _ _ d0
  have m1 : V.cell? ⟨b, 1, none⟩ = some (.slice la l.length lc) := cells_below BV.out _ _ _ d1
  have m2 : V.cell? ⟨b, 2, none⟩ = some (.bool false) := cells_below BV.out _ _ _ d2
  have hlV := World.block_lt_of_cell? V _ m0
  have HV := Lib.hid hV
  clear hV
  refine T2.tab_value ?u36 ?g36 ?h36 ?_
  case g36 => kernel_rfl
  case h36 => (intro w' hw'; obtain ⟨hc', hf'⟩ := bcell hw'; go_simp; try with_reducible rfl)
  simp only [Act.put, List.setIfInBounds_toArray, List.set_cons_succ, List.set_cons_zero]
  refine T2.tab_value ?u37 ?g37 ?h37 ?_
  case g37 => kernel_rfl
  case h37 => (intro w' hw'; obtain ⟨hc', hf'⟩ := bcell hw'; go_simp; try with_reducible rfl)
  simp only [Act.put, List.setIfInBounds_toArray, List.set_cons_succ, List.set_cons_zero]
  refine T2.tab_value ?u38 ?g38 ?h38 ?_
  case g38 => kernel_rfl
  case h38 => (intro w' hw'; obtain ⟨hc', hf'⟩ := bcell hw'; go_simp; try with_reducible rfl)
  simp only [Act.put, List.setIfInBounds_toArray, List.set_cons_succ, List.set_cons_zero]
  refine T2.tab_value ?u39 ?g39 ?h39 ?_
  case g39 => kernel_rfl
  case h39 => (intro w' hw'; obtain ⟨hc', hf'⟩ := bcell hw'; go_simp; try with_reducible rfl)
  simp only [Act.put, List.setIfInBounds_toArray, List.set_cons_succ, List.set_cons_zero]
  refine T2.tab_value ?u40 ?g40 ?h40 ?_
  case g40 => kernel_rfl
  case h40 => (intro w' hw'; obtain ⟨hc', hf'⟩ := bcell hw'; go_simp; try with_reducible rfl)
  simp only [Act.put, List.setIfInBounds_toArray, List.set_cons_succ, List.set_cons_zero]
  refine T2.tab_call 38 ?a41 ?g41 ?h41 ?c41 ?_
  case g41 => kernel_rfl
  case h41 => (intro w' hw'; obtain ⟨hc', hf'⟩ := bcell hw'; go_simp; try with_reducible rfl)
  case c41 => (intro w' hw'; refine (numberC false w').mono ?_; rintro e w'' ⟨rfl, rfl⟩; exact ⟨_, ⟨fun _ => congrArg (Value.int .i64) rfl, fun e => absurd e (by decide), fun e => absurd e (by decide)⟩, rfl, Ext.refl _⟩)
  rintro v1 w1 he1 ⟨hv1, _, _⟩
  obtain rfl := hv1 rfl
  simp only [Act.put, List.setIfInBounds_toArray, List.set_cons_succ, List.set_cons_zero]
  have E1 := Lib.hid he1
  clear he1
  refine T2.tab_value ?u42 ?g42 ?h42 ?_
  case g42 => kernel_rfl
  case h42 => (intro w' hw'; obtain ⟨hc', hf'⟩ := bcell hw'; go_simp; try with_reducible rfl)
  simp only [Act.put, List.setIfInBounds_toArray, List.set_cons_succ, List.set_cons_zero]
  refine T2.tab_value ?u43 ?g43 ?h43 ?_
  case g43 => kernel_rfl
  case h43 => (intro w' hw'; obtain ⟨hc', hf'⟩ := bcell hw'; go_simp; try with_reducible rfl)
  simp only [Act.put, List.setIfInBounds_toArray, List.set_cons_succ, List.set_cons_zero]
  refine T2.tab_value ?u44 ?g44 ?h44 ?_
  case g44 => kernel_rfl
  case h44 => (intro w' hw'; obtain ⟨hc', hf'⟩ := bcell hw'; go_simp; try with_reducible rfl)
  simp only [Act.put, List.setIfInBounds_toArray, List.set_cons_succ, List.set_cons_zero]
  refine T2.tab_value ?u45 ?g45 ?h45 ?_
  case g45 => kernel_rfl
  case h45 => (intro w' hw'; obtain ⟨hc', hf'⟩ := bcell hw'; go_simp; try with_reducible rfl)
  simp only [Act.put, List.setIfInBounds_toArray, List.set_cons_succ, List.set_cons_zero]
  refine T2.tab_value ?u46 ?g46 ?h46 ?_
  case g46 => kernel_rfl
  case h46 => (intro w' hw'; obtain ⟨hc', hf'⟩ := bcell hw'; go_simp; try with_reducible rfl)
  simp only [Act.put, List.setIfInBounds_toArray, List.set_cons_succ, List.set_cons_zero]
  refine T2.tab_value ?u47 ?g47 ?h47 ?_
  case g47 => kernel_rfl
  case h47 => (intro w' hw'; obtain ⟨hc', hf'⟩ := bcell hw'; go_simp; try with_reducible rfl)
  simp only [Act.put, List.setIfInBounds_toArray, List.set_cons_succ, List.set_cons_zero]
  refine T2.tab_value ?u48 ?g48 ?h48 ?_
  case g48 => kernel_rfl
  case h48 => (intro w' hw'; obtain ⟨hc', hf'⟩ := bcell hw'; go_simp; try with_reducible rfl)
  simp only [Act.put, List.setIfInBounds_toArray, List.set_cons_succ, List.set_cons_zero]
  refine T2.tab_value ?u49 ?g49 ?h49 ?_
  case g49 => kernel_rfl
  case h49 => (intro w' hw'; obtain ⟨hc', hf'⟩ := bcell hw'; go_simp; try with_reducible rfl)
  simp only [Act.put, List.setIfInBounds_toArray, List.set_cons_succ, List.set_cons_zero]
  refine T2.tab_call 39 ?a50 ?g50 ?h50 ?c50 ?_
  case g50 => kernel_rfl
  case h50 => (intro w' hw'; obtain ⟨hc', hf'⟩ := bcell hw'; go_simp; try with_reducible rfl)
  case c50 => (intro w' hw'; refine (withC d x l u _ w' (In0 w') (Jx.out.all HL.out (BV.out.trans (Below.mono hw' BV.out.size))) (ROW.out.all HL.out (BV.out.trans (Below.mono hw' BV.out.size))) (fun b h => h) (by have := HSZ.out.1.2.2.2; rw [LE.out] at this; simp at this; omega)).mono ?_; rintro e w'' ⟨v', rfl, hr, hb⟩; exact ⟨_, ⟨fun e => absurd e (by decide), fun _ => hr, fun e => absurd e (by decide)⟩, rfl, hb⟩)
  rintro v2 w2 he2 ⟨_, hv2, _⟩
  have hr := hv2 rfl
  obtain ⟨wa, wc, rfl⟩ := hr.form
  have WR := Lib.hid hr
  clear hv2 hr
  simp only [Act.put, List.setIfInBounds_toArray, List.set_cons_succ, List.set_cons_zero]
  have E2 := Lib.hid he2
  clear he2
  refine T2.wpTab_nil (fun wy hey => ?_)
  have EY : Hid (Ext V wy) := Ext.trans (Ext.trans (Ext.trans (Ext.refl V) E1.out) E2.out) hey
  have BY := Lib.hid (BV.out.trans (Below.mono EY.out BV.out.size))
  have RY := Lib.hid (RV.out.stay (EY.out.block _ RV.out.lt))
  have WY := Lib.hid (WR.out.all (fun b h => h) hey)
  clear hey hlV m0 m1 m2
  go_wp2_with fail
  refine (nodeC d H.out kFunctionType (⟨#[]⟩ : ByteArray) 0 (x :: l) _ _ (In0 _) WY.out (fun b h => h) (fun z hz => HSZ.out.2 z (by rw [LE.out]; exact hz)) (by have := HSZ.out.1.2.2.2; rw [LE.out] at this; first | (simp; done) | simpa using this)).mono ?_
  rintro e wz ⟨kv, rfl, hL, hbz⟩
  obtain ⟨na, nc, rfl⟩ := hL.form
  have BZ := Lib.hid (BY.out.trans (hbz.mono BY.out.size))
  have RZ := Lib.hid (RY.out.stay (hbz.block _ RY.out.lt))
  have LZ := Lib.hid hL
  have hpy := RY.out.lt
  have HP := Lib.hid hpy
  clear hL hbz hpy
  have r0 := RZ.out.c0
  have r1 := RZ.out.c1
  have r2 := RZ.out.c2
  have r3 := RZ.out.c3
  have f0 := RZ.out.free 0
  have f1 := RZ.out.free 1
  have f2 := RZ.out.free 2
  have f3 := RZ.out.free 3
  go_wp2_with fail
  have hb := RZ.out.put ⟨kFunctionType, (⟨#[]⟩ : ByteArray), 0, x :: l⟩ (.slice na (l.length + 1) nc)
  have s0 := hb.c0
  have s1 := hb.c1
  have s2 := hb.c2
  have s3 := hb.c3
  refine bodyPost_ret (v := .agg #[.string kFunctionType, .string (⟨#[]⟩ : ByteArray), .int .i64 0, .slice na (l.length + 1) nc]) (by simp [results, Tryz.results20, go_sem, s0, s1, s2, s3]) rfl ⟨_, agg_eq KE.out.symm TE.out.symm NE.out.symm, KidsS.mk HSZ.out.1 (by rw [LE.out]; exact put_move LZ.out HP.out BY.out.size), below_put BZ.out (Nat.le_refl _) _ _ _ _⟩

end Go.Proofs.YtlfbmpenekiigaaGreatDoor
