/- impl.nodeOf, the other kinds of its own; conditions: the element lies in memory, it is known what nodeOf makes of smaller ones. -/
import Derived.Test.YtlfbmpenekiigaaGreatDoorNodeG
import Derived.Test.YtlfbmpenekiigaaGreatDoorKindOf
namespace Go.Proofs.YtlfbmpenekiigaaGreatDoor
open Go.ChangeShapes Go.WideShapes Go.ChangeAt Go.RowKit
set_option linter.unusedVariables false

set_option maxRecDepth 100000 in
set_option maxHeartbeats 4000000 in
theorem nodePointerType (d : Nat) (IH : NodeOf d) (w : World) (S : Nat → Prop) (t : Tree) (b : Nat) (hk : t.kind = kPointerType) (x : Tree) (u : Value) (ht : t.text = ByteArray.empty) (hn : t.num = 0) (hl : t.kids = [x]) (jx : AstAt w S d x u) (hkx : x.kind ≠ ByteArray.empty) (low : ∀ c, S c → c < w.heap.size) (hsz : All Sized (d + 1) t) (d0 : w.cell? ⟨b, 0, none⟩ = some u) :
    Calls Tryz.prog 20 #[.iface 73 (.pointer (some ⟨b, 0, none⟩))] w (Noded w (d + 1) t) := by
  have KE := Lib.hid hk
  have TE := Lib.hid ht
  have NE := Lib.hid hn
  have LE := Lib.hid hl
  have HL := Lib.hid low
  have HSZ := Lib.hid hsz
  have H := Lib.hid IH
  have Jx := Lib.hid jx
  have a0 : ∀ (a : Option Addr) (w : World), (Instr.typeAssert (.iface 73 (.pointer a)) 33 36 true).run Tryz.prog w = .ok (.tuple #[.pointer none, .bool false]) w := fun a w => by kernel_rfl
  have a1 : ∀ (a : Option Addr) (w : World), (Instr.typeAssert (.iface 73 (.pointer a)) 33 46 true).run Tryz.prog w = .ok (.tuple #[.pointer none, .bool false]) w := fun a w => by kernel_rfl
  have a2 : ∀ (a : Option Addr) (w : World), (Instr.typeAssert (.iface 73 (.pointer a)) 33 48 true).run Tryz.prog w = .ok (.tuple #[.pointer none, .bool false]) w := fun a w => by kernel_rfl
  have a3 : ∀ (a : Option Addr) (w : World), (Instr.typeAssert (.iface 73 (.pointer a)) 33 52 true).run Tryz.prog w = .ok (.tuple #[.pointer none, .bool false]) w := fun a w => by kernel_rfl
  have a4 : ∀ (a : Option Addr) (w : World), (Instr.typeAssert (.iface 73 (.pointer a)) 33 56 true).run Tryz.prog w = .ok (.tuple #[.pointer none, .bool false]) w := fun a w => by kernel_rfl
  have a5 : ∀ (a : Option Addr) (w : World), (Instr.typeAssert (.iface 73 (.pointer a)) 33 59 true).run Tryz.prog w = .ok (.tuple #[.pointer none, .bool false]) w := fun a w => by kernel_rfl
  have a6 : ∀ (a : Option Addr) (w : World), (Instr.typeAssert (.iface 73 (.pointer a)) 33 62 true).run Tryz.prog w = .ok (.tuple #[.pointer none, .bool false]) w := fun a w => by kernel_rfl
  have a7 : ∀ (a : Option Addr) (w : World), (Instr.typeAssert (.iface 73 (.pointer a)) 33 67 true).run Tryz.prog w = .ok (.tuple #[.pointer none, .bool false]) w := fun a w => by kernel_rfl
  have a8 : ∀ (a : Option Addr) (w : World), (Instr.typeAssert (.iface 73 (.pointer a)) 33 70 true).run Tryz.prog w = .ok (.tuple #[.pointer none, .bool false]) w := fun a w => by kernel_rfl
  have a9 : ∀ (a : Option Addr) (w : World), (Instr.typeAssert (.iface 73 (.pointer a)) 33 73 true).run Tryz.prog w = .ok (.tuple #[.pointer a, .bool true]) w := fun a w => by kernel_rfl
  have R1 : Hid (BoxAt (w.alloc (.cells #[.string ⟨#[]⟩, .string ⟨#[]⟩, .int .i64 0, .slice none 0 0] 24)) w.heap.size Tree.nil (.slice none 0 0)) := by show BoxAt _ _ _ _; unfold BoxAt; exact heap_alloc_new w _
  have BW := Lib.hid (below1 w (.cells #[.string ⟨#[]⟩, .string ⟨#[]⟩, .int .i64 0, .slice none 0 0] 24))
  have HKO := Lib.hid (kindPointerType (some ⟨b, 0, none⟩))
  obtain ⟨px, bkx, rfl, _⟩ := jx.ptr hkx
  clear hk ht hn hl low hsz IH jx
  go_enter Tryz.func20, Tryz.ntmps20
  go_wp2_with fail
  refine (HKO.out _).mono ?_
  rintro e w' ⟨rfl, rfl⟩
  have e0 := cells_below BW.out _ _ _ d0
  go_wp2_with fail
  have BX := Lib.hid (BW.out.trans ((below1 (w.alloc (.cells #[.string ⟨#[]⟩, .string ⟨#[]⟩, .int .i64 0, .slice none 0 0] 24)) (.cells #[(.iface px (.pointer (some ⟨bkx, 0, none⟩)))] 33)).mono BW.out.size))
  have RX := Lib.hid (R1.out.stay (Below.heap_alloc (w.alloc (.cells #[.string ⟨#[]⟩, .string ⟨#[]⟩, .int .i64 0, .slice none 0 0] 24)) (.cells #[(.iface px (.pointer (some ⟨bkx, 0, none⟩)))] 33) _ R1.out.lt))
  refine (nodeC d H.out kPointerType (⟨#[]⟩ : ByteArray) 0 ([x]) _ _ (In0 _) (row_one (nb := w.heap.size + 1) (alloc_here (by simp)) (by show _ < _; simp) (Jx.out.all HL.out BX.out)) (fun b h => h) (fun z hz => HSZ.out.2 z (by rw [LE.out]; exact hz)) (by have := HSZ.out.1.2.2.2; rw [LE.out] at this; first | (simp; done) | simpa using this)).mono ?_
  rintro e wz ⟨kv, rfl, hL, hbz⟩
  obtain ⟨na, nc, rfl⟩ := hL.form
  have BZ := Lib.hid (BX.out.trans (hbz.mono BX.out.size))
  have RZ := Lib.hid (RX.out.stay (hbz.block _ RX.out.lt))
  have LZ := Lib.hid hL
  have hpy := RX.out.lt
  have HP := Lib.hid hpy
  clear hL hbz hpy
  have r0 := RZ.out.c0
  have r1 := RZ.out.c1
  have r2 := RZ.out.c2
  have r3 := RZ.out.c3
  have f0 := RZ.out.free 0
  have f1 := RZ.out.free 1
  have f2 := RZ.out.free 2
  have f3 := RZ.out.free 3
  go_wp2_with fail
  have hb := RZ.out.put ⟨kPointerType, (⟨#[]⟩ : ByteArray), 0, [x]⟩ (.slice na 1 nc)
  have s0 := hb.c0
  have s1 := hb.c1
  have s2 := hb.c2
  have s3 := hb.c3
  refine bodyPost_ret (v := .agg #[.string kPointerType, .string (⟨#[]⟩ : ByteArray), .int .i64 0, .slice na 1 nc]) (by simp [results, Tryz.results20, go_sem, s0, s1, s2, s3]) rfl ⟨_, agg_eq KE.out.symm TE.out.symm NE.out.symm, KidsS.mk HSZ.out.1 (by rw [LE.out]; exact put_move LZ.out HP.out BX.out.size), below_put BZ.out (Nat.le_refl _) _ _ _ _⟩

set_option maxRecDepth 100000 in
set_option maxHeartbeats 4000000 in
theorem nodeReferenceType (d : Nat) (IH : NodeOf d) (w : World) (S : Nat → Prop) (t : Tree) (b : Nat) (hk : t.kind = kReferenceType) (x : Tree) (u : Value) (ht : t.text = ByteArray.empty) (hn : t.num = 0) (hl : t.kids = [x]) (jx : AstAt w S d x u) (hkx : x.kind ≠ ByteArray.empty) (low : ∀ c, S c → c < w.heap.size) (hsz : All Sized (d + 1) t) (d0 : w.cell? ⟨b, 0, none⟩ = some u) :
    Calls Tryz.prog 20 #[.iface 76 (.pointer (some ⟨b, 0, none⟩))] w (Noded w (d + 1) t) := by
  have KE := Lib.hid hk
  have TE := Lib.hid ht
  have NE := Lib.hid hn
  have LE := Lib.hid hl
  have HL := Lib.hid low
  have HSZ := Lib.hid hsz
  have H := Lib.hid IH
  have Jx := Lib.hid jx
  have a0 : ∀ (a : Option Addr) (w : World), (Instr.typeAssert (.iface 76 (.pointer a)) 33 36 true).run Tryz.prog w = .ok (.tuple #[.pointer none, .bool false]) w := fun a w => by kernel_rfl
  have a1 : ∀ (a : Option Addr) (w : World), (Instr.typeAssert (.iface 76 (.pointer a)) 33 46 true).run Tryz.prog w = .ok (.tuple #[.pointer none, .bool false]) w := fun a w => by kernel_rfl
  have a2 : ∀ (a : Option Addr) (w : World), (Instr.typeAssert (.iface 76 (.pointer a)) 33 48 true).run Tryz.prog w = .ok (.tuple #[.pointer none, .bool false]) w := fun a w => by kernel_rfl
  have a3 : ∀ (a : Option Addr) (w : World), (Instr.typeAssert (.iface 76 (.pointer a)) 33 52 true).run Tryz.prog w = .ok (.tuple #[.pointer none, .bool false]) w := fun a w => by kernel_rfl
  have a4 : ∀ (a : Option Addr) (w : World), (Instr.typeAssert (.iface 76 (.pointer a)) 33 56 true).run Tryz.prog w = .ok (.tuple #[.pointer none, .bool false]) w := fun a w => by kernel_rfl
  have a5 : ∀ (a : Option Addr) (w : World), (Instr.typeAssert (.iface 76 (.pointer a)) 33 59 true).run Tryz.prog w = .ok (.tuple #[.pointer none, .bool false]) w := fun a w => by kernel_rfl
  have a6 : ∀ (a : Option Addr) (w : World), (Instr.typeAssert (.iface 76 (.pointer a)) 33 62 true).run Tryz.prog w = .ok (.tuple #[.pointer none, .bool false]) w := fun a w => by kernel_rfl
  have a7 : ∀ (a : Option Addr) (w : World), (Instr.typeAssert (.iface 76 (.pointer a)) 33 67 true).run Tryz.prog w = .ok (.tuple #[.pointer none, .bool false]) w := fun a w => by kernel_rfl
  have a8 : ∀ (a : Option Addr) (w : World), (Instr.typeAssert (.iface 76 (.pointer a)) 33 70 true).run Tryz.prog w = .ok (.tuple #[.pointer none, .bool false]) w := fun a w => by kernel_rfl
  have a9 : ∀ (a : Option Addr) (w : World), (Instr.typeAssert (.iface 76 (.pointer a)) 33 73 true).run Tryz.prog w = .ok (.tuple #[.pointer none, .bool false]) w := fun a w => by kernel_rfl
  have a10 : ∀ (a : Option Addr) (w : World), (Instr.typeAssert (.iface 76 (.pointer a)) 33 76 true).run Tryz.prog w = .ok (.tuple #[.pointer a, .bool true]) w := fun a w => by kernel_rfl
  have R1 : Hid (BoxAt (w.alloc (.cells #[.string ⟨#[]⟩, .string ⟨#[]⟩, .int .i64 0, .slice none 0 0] 24)) w.heap.size Tree.nil (.slice none 0 0)) := by show BoxAt _ _ _ _; unfold BoxAt; exact heap_alloc_new w _
  have BW := Lib.hid (below1 w (.cells #[.string ⟨#[]⟩, .string ⟨#[]⟩, .int .i64 0, .slice none 0 0] 24))
  have HKO := Lib.hid (kindReferenceType (some ⟨b, 0, none⟩))
  obtain ⟨px, bkx, rfl, _⟩ := jx.ptr hkx
  clear hk ht hn hl low hsz IH jx
  go_enter Tryz.func20, Tryz.ntmps20
  go_wp2_with fail
  refine (HKO.out _).mono ?_
  rintro e w' ⟨rfl, rfl⟩
  have e0 := cells_below BW.out _ _ _ d0
  go_wp2_with fail
  have BX := Lib.hid (BW.out.trans ((below1 (w.alloc (.cells #[.string ⟨#[]⟩, .string ⟨#[]⟩, .int .i64 0, .slice none 0 0] 24)) (.cells #[(.iface px (.pointer (some ⟨bkx, 0, none⟩)))] 33)).mono BW.out.size))
  have RX := Lib.hid (R1.out.stay (Below.heap_alloc (w.alloc (.cells #[.string ⟨#[]⟩, .string ⟨#[]⟩, .int .i64 0, .slice none 0 0] 24)) (.cells #[(.iface px (.pointer (some ⟨bkx, 0, none⟩)))] 33) _ R1.out.lt))
  refine (nodeC d H.out kReferenceType (⟨#[]⟩ : ByteArray) 0 ([x]) _ _ (In0 _) (row_one (nb := w.heap.size + 1) (alloc_here (by simp)) (by show _ < _; simp) (Jx.out.all HL.out BX.out)) (fun b h => h) (fun z hz => HSZ.out.2 z (by rw [LE.out]; exact hz)) (by have := HSZ.out.1.2.2.2; rw [LE.out] at this; first | (simp; done) | simpa using this)).mono ?_
  rintro e wz ⟨kv, rfl, hL, hbz⟩
  obtain ⟨na, nc, rfl⟩ := hL.form
  have BZ := Lib.hid (BX.out.trans (hbz.mono BX.out.size))
  have RZ := Lib.hid (RX.out.stay (hbz.block _ RX.out.lt))
  have LZ := Lib.hid hL
  have hpy := RX.out.lt
  have HP := Lib.hid hpy
  clear hL hbz hpy
  have r0 := RZ.out.c0
  have r1 := RZ.out.c1
  have r2 := RZ.out.c2
  have r3 := RZ.out.c3
  have f0 := RZ.out.free 0
  have f1 := RZ.out.free 1
  have f2 := RZ.out.free 2
  have f3 := RZ.out.free 3
  go_wp2_with fail
  have hb := RZ.out.put ⟨kReferenceType, (⟨#[]⟩ : ByteArray), 0, [x]⟩ (.slice na 1 nc)
  have s0 := hb.c0
  have s1 := hb.c1
  have s2 := hb.c2
  have s3 := hb.c3
  refine bodyPost_ret (v := .agg #[.string kReferenceType, .string (⟨#[]⟩ : ByteArray), .int .i64 0, .slice na 1 nc]) (by simp [results, Tryz.results20, go_sem, s0, s1, s2, s3]) rfl ⟨_, agg_eq KE.out.symm TE.out.symm NE.out.symm, KidsS.mk HSZ.out.1 (by rw [LE.out]; exact put_move LZ.out HP.out BX.out.size), below_put BZ.out (Nat.le_refl _) _ _ _ _⟩

set_option maxRecDepth 100000 in
set_option maxHeartbeats 4000000 in
theorem nodeRvalueReferenceType (d : Nat) (IH : NodeOf d) (w : World) (S : Nat → Prop) (t : Tree) (b : Nat) (hk : t.kind = kRvalueReferenceType) (x : Tree) (u : Value) (ht : t.text = ByteArray.empty) (hn : t.num = 0) (hl : t.kids = [x]) (jx : AstAt w S d x u) (hkx : x.kind ≠ ByteArray.empty) (low : ∀ c, S c → c < w.heap.size) (hsz : All Sized (d + 1) t) (d0 : w.cell? ⟨b, 0, none⟩ = some u) :
    Calls Tryz.prog 20 #[.iface 78 (.pointer (some ⟨b, 0, none⟩))] w (Noded w (d + 1) t) := by
  have KE := Lib.hid hk
  have TE := Lib.hid ht
  have NE := Lib.hid hn
  have LE := Lib.hid hl
  have HL := Lib.hid low
  have HSZ := Lib.hid hsz
  have H := Lib.hid IH
  have Jx := Lib.hid jx
  have a0 : ∀ (a : Option Addr) (w : World), (Instr.typeAssert (.iface 78 (.pointer a)) 33 36 true).run Tryz.prog w = .ok (.tuple #[.pointer none, .bool false]) w := fun a w => by kernel_rfl
  have a1 : ∀ (a : Option Addr) (w : World), (Instr.typeAssert (.iface 78 (.pointer a)) 33 46 true).run Tryz.prog w = .ok (.tuple #[.pointer none, .bool false]) w := fun a w => by kernel_rfl
  have a2 : ∀ (a : Option Addr) (w : World), (Instr.typeAssert (.iface 78 (.pointer a)) 33 48 true).run Tryz.prog w = .ok (.tuple #[.pointer none, .bool false]) w := fun a w => by kernel_rfl
  have a3 : ∀ (a : Option Addr) (w : World), (Instr.typeAssert (.iface 78 (.pointer a)) 33 52 true).run Tryz.prog w = .ok (.tuple #[.pointer none, .bool false]) w := fun a w => by kernel_rfl
  have a4 : ∀ (a : Option Addr) (w : World), (Instr.typeAssert (.iface 78 (.pointer a)) 33 56 true).run Tryz.prog w = .ok (.tuple #[.pointer none, .bool false]) w := fun a w => by kernel_rfl
  have a5 : ∀ (a : Option Addr) (w : World), (Instr.typeAssert (.iface 78 (.pointer a)) 33 59 true).run Tryz.prog w = .ok (.tuple #[.pointer none, .bool false]) w := fun a w => by kernel_rfl
  have a6 : ∀ (a : Option Addr) (w : World), (Instr.typeAssert (.iface 78 (.pointer a)) 33 62 true).run Tryz.prog w = .ok (.tuple #[.pointer none, .bool false]) w := fun a w => by kernel_rfl
  have a7 : ∀ (a : Option Addr) (w : World), (Instr.typeAssert (.iface 78 (.pointer a)) 33 67 true).run Tryz.prog w = .ok (.tuple #[.pointer none, .bool false]) w := fun a w => by kernel_rfl
  have a8 : ∀ (a : Option Addr) (w : World), (Instr.typeAssert (.iface 78 (.pointer a)) 33 70 true).run Tryz.prog w = .ok (.tuple #[.pointer none, .bool false]) w := fun a w => by kernel_rfl
  have a9 : ∀ (a : Option Addr) (w : World), (Instr.typeAssert (.iface 78 (.pointer a)) 33 73 true).run Tryz.prog w = .ok (.tuple #[.pointer none, .bool false]) w := fun a w => by kernel_rfl
  have a10 : ∀ (a : Option Addr) (w : World), (Instr.typeAssert (.iface 78 (.pointer a)) 33 76 true).run Tryz.prog w = .ok (.tuple #[.pointer none, .bool false]) w := fun a w => by kernel_rfl
  have a11 : ∀ (a : Option Addr) (w : World), (Instr.typeAssert (.iface 78 (.pointer a)) 33 78 true).run Tryz.prog w = .ok (.tuple #[.pointer a, .bool true]) w := fun a w => by kernel_rfl
  have R1 : Hid (BoxAt (w.alloc (.cells #[.string ⟨#[]⟩, .string ⟨#[]⟩, .int .i64 0, .slice none 0 0] 24)) w.heap.size Tree.nil (.slice none 0 0)) := by show BoxAt _ _ _ _; unfold BoxAt; exact heap_alloc_new w _
  have BW := Lib.hid (below1 w (.cells #[.string ⟨#[]⟩, .string ⟨#[]⟩, .int .i64 0, .slice none 0 0] 24))
  have HKO := Lib.hid (kindRvalueReferenceType (some ⟨b, 0, none⟩))
  obtain ⟨px, bkx, rfl, _⟩ := jx.ptr hkx
  clear hk ht hn hl low hsz IH jx
  go_enter Tryz.func20, Tryz.ntmps20
  go_wp2_with fail
  refine (HKO.out _).mono ?_
  rintro e w' ⟨rfl, rfl⟩
  have e0 := cells_below BW.out _ _ _ d0
  go_wp2_with fail
  have BX := Lib.hid (BW.out.trans ((below1 (w.alloc (.cells #[.string ⟨#[]⟩, .string ⟨#[]⟩, .int .i64 0, .slice none 0 0] 24)) (.cells #[(.iface px (.pointer (some ⟨bkx, 0, none⟩)))] 33)).mono BW.out.size))
  have RX := Lib.hid (R1.out.stay (Below.heap_alloc (w.alloc (.cells #[.string ⟨#[]⟩, .string ⟨#[]⟩, .int .i64 0, .slice none 0 0] 24)) (.cells #[(.iface px (.pointer (some ⟨bkx, 0, none⟩)))] 33) _ R1.out.lt))
  refine (nodeC d H.out kRvalueReferenceType (⟨#[]⟩ : ByteArray) 0 ([x]) _ _ (In0 _) (row_one (nb := w.heap.size + 1) (alloc_here (by simp)) (by show _ < _; simp) (Jx.out.all HL.out BX.out)) (fun b h => h) (fun z hz => HSZ.out.2 z (by rw [LE.out]; exact hz)) (by have := HSZ.out.1.2.2.2; rw [LE.out] at this; first | (simp; done) | simpa using this)).mono ?_
  rintro e wz ⟨kv, rfl, hL, hbz⟩
  obtain ⟨na, nc, rfl⟩ := hL.form
  have BZ := Lib.hid (BX.out.trans (hbz.mono BX.out.size))
  have RZ := Lib.hid (RX.out.stay (hbz.block _ RX.out.lt))
  have LZ := Lib.hid hL
  have hpy := RX.out.lt
  have HP := Lib.hid hpy
  clear hL hbz hpy
  have r0 := RZ.out.c0
  have r1 := RZ.out.c1
  have r2 := RZ.out.c2
  have r3 := RZ.out.c3
  have f0 := RZ.out.free 0
  have f1 := RZ.out.free 1
  have f2 := RZ.out.free 2
  have f3 := RZ.out.free 3
  go_wp2_with fail
  have hb := RZ.out.put ⟨kRvalueReferenceType, (⟨#[]⟩ : ByteArray), 0, [x]⟩ (.slice na 1 nc)
  have s0 := hb.c0
  have s1 := hb.c1
  have s2 := hb.c2
  have s3 := hb.c3
  refine bodyPost_ret (v := .agg #[.string kRvalueReferenceType, .string (⟨#[]⟩ : ByteArray), .int .i64 0, .slice na 1 nc]) (by simp [results, Tryz.results20, go_sem, s0, s1, s2, s3]) rfl ⟨_, agg_eq KE.out.symm TE.out.symm NE.out.symm, KidsS.mk HSZ.out.1 (by rw [LE.out]; exact put_move LZ.out HP.out BX.out.size), below_put BZ.out (Nat.le_refl _) _ _ _ _⟩

set_option maxRecDepth 100000 in
set_option maxHeartbeats 4000000 in
theorem nodeComplexType (d : Nat) (IH : NodeOf d) (w : World) (S : Nat → Prop) (t : Tree) (b : Nat) (hk : t.kind = kComplexType) (x : Tree) (u : Value) (ht : t.text = ByteArray.empty) (hn : t.num = 0) (hl : t.kids = [x]) (jx : AstAt w S d x u) (hkx : x.kind ≠ ByteArray.empty) (low : ∀ c, S c → c < w.heap.size) (hsz : All Sized (d + 1) t) (d0 : w.cell? ⟨b, 0, none⟩ = some u) :
    Calls Tryz.prog 20 #[.iface 80 (.pointer (some ⟨b, 0, none⟩))] w (Noded w (d + 1) t) := by
  have KE := Lib.hid hk
  have TE := Lib.hid ht
  have NE := Lib.hid hn
  have LE := Lib.hid hl
  have HL := Lib.hid low
  have HSZ := Lib.hid hsz
  have H := Lib.hid IH
  have Jx := Lib.hid jx
  have a0 : ∀ (a : Option Addr) (w : World), (Instr.typeAssert (.iface 80 (.pointer a)) 33 36 true).run Tryz.prog w = .ok (.tuple #[.pointer none, .bool false]) w := fun a w => by kernel_rfl
  have a1 : ∀ (a : Option Addr) (w : World), (Instr.typeAssert (.iface 80 (.pointer a)) 33 46 true).run Tryz.prog w = .ok (.tuple #[.pointer none, .bool false]) w := fun a w => by kernel_rfl
  have a2 : ∀ (a : Option Addr) (w : World), (Instr.typeAssert (.iface 80 (.pointer a)) 33 48 true).run Tryz.prog w = .ok (.tuple #[.pointer none, .bool false]) w := fun a w => by kernel_rfl
  have a3 : ∀ (a : Option Addr) (w : World), (Instr.typeAssert (.iface 80 (.pointer a)) 33 52 true).run Tryz.prog w = .ok (.tuple #[.pointer none, .bool false]) w := fun a w => by kernel_rfl
  have a4 : ∀ (a : Option Addr) (w : World), (Instr.typeAssert (.iface 80 (.pointer a)) 33 56 true).run Tryz.prog w = .ok (.tuple #[.pointer none, .bool false]) w := fun a w => by kernel_rfl
  have a5 : ∀ (a : Option Addr) (w : World), (Instr.typeAssert (.iface 80 (.pointer a)) 33 59 true).run Tryz.prog w = .ok (.tuple #[.pointer none, .bool false]) w := fun a w => by kernel_rfl
  have a6 : ∀ (a : Option Addr) (w : World), (Instr.typeAssert (.iface 80 (.pointer a)) 33 62 true).run Tryz.prog w = .ok (.tuple #[.pointer none, .bool false]) w := fun a w => by kernel_rfl
  have a7 : ∀ (a : Option Addr) (w : World), (Instr.typeAssert (.iface 80 (.pointer a)) 33 67 true).run Tryz.prog w = .ok (.tuple #[.pointer none, .bool false]) w := fun a w => by kernel_rfl
  have a8 : ∀ (a : Option Addr) (w : World), (Instr.typeAssert (.iface 80 (.pointer a)) 33 70 true).run Tryz.prog w = .ok (.tuple #[.pointer none, .bool false]) w := fun a w => by kernel_rfl
  have a9 : ∀ (a : Option Addr) (w : World), (Instr.typeAssert (.iface 80 (.pointer a)) 33 73 true).run Tryz.prog w = .ok (.tuple #[.pointer none, .bool false]) w := fun a w => by kernel_rfl
  have a10 : ∀ (a : Option Addr) (w : World), (Instr.typeAssert (.iface 80 (.pointer a)) 33 76 true).run Tryz.prog w = .ok (.tuple #[.pointer none, .bool false]) w := fun a w => by kernel_rfl
  have a11 : ∀ (a : Option Addr) (w : World), (Instr.typeAssert (.iface 80 (.pointer a)) 33 78 true).run Tryz.prog w = .ok (.tuple #[.pointer none, .bool false]) w := fun a w => by kernel_rfl
  have a12 : ∀ (a : Option Addr) (w : World), (Instr.typeAssert (.iface 80 (.pointer a)) 33 80 true).run Tryz.prog w = .ok (.tuple #[.pointer a, .bool true]) w := fun a w => by kernel_rfl
  have R1 : Hid (BoxAt (w.alloc (.cells #[.string ⟨#[]⟩, .string ⟨#[]⟩, .int .i64 0, .slice none 0 0] 24)) w.heap.size Tree.nil (.slice none 0 0)) := by show BoxAt _ _ _ _; unfold BoxAt; exact heap_alloc_new w _
  have BW := Lib.hid (below1 w (.cells #[.string ⟨#[]⟩, .string ⟨#[]⟩, .int .i64 0, .slice none 0 0] 24))
  have HKO := Lib.hid (kindComplexType (some ⟨b, 0, none⟩))
  obtain ⟨px, bkx, rfl, _⟩ := jx.ptr hkx
  clear hk ht hn hl low hsz IH jx
  go_enter Tryz.func20, Tryz.ntmps20
  go_wp2_with fail
  refine (HKO.out _).mono ?_
  rintro e w' ⟨rfl, rfl⟩
  have e0 := cells_below BW.out _ _ _ d0
  go_wp2_with fail
  have BX := Lib.hid (BW.out.trans ((below1 (w.alloc (.cells #[.string ⟨#[]⟩, .string ⟨#[]⟩, .int .i64 0, .slice none 0 0] 24)) (.cells #[(.iface px (.pointer (some ⟨bkx, 0, none⟩)))] 33)).mono BW.out.size))
  have RX := Lib.hid (R1.out.stay (Below.heap_alloc (w.alloc (.cells #[.string ⟨#[]⟩, .string ⟨#[]⟩, .int .i64 0, .slice none 0 0] 24)) (.cells #[(.iface px (.pointer (some ⟨bkx, 0, none⟩)))] 33) _ R1.out.lt))
  refine (nodeC d H.out kComplexType (⟨#[]⟩ : ByteArray) 0 ([x]) _ _ (In0 _) (row_one (nb := w.heap.size + 1) (alloc_here (by simp)) (by show _ < _; simp) (Jx.out.all HL.out BX.out)) (fun b h => h) (fun z hz => HSZ.out.2 z (by rw [LE.out]; exact hz)) (by have := HSZ.out.1.2.2.2; rw [LE.out] at this; first | (simp; done) | simpa using this)).mono ?_
  rintro e wz ⟨kv, rfl, hL, hbz⟩
  obtain ⟨na, nc, rfl⟩ := hL.form
  have BZ := Lib.hid (BX.out.trans (hbz.mono BX.out.size))
  have RZ := Lib.hid (RX.out.stay (hbz.block _ RX.out.lt))
  have LZ := Lib.hid hL
  have hpy := RX.out.lt
  have HP := Lib.hid hpy
  clear hL hbz hpy
  have r0 := RZ.out.c0
  have r1 := RZ.out.c1
  have r2 := RZ.out.c2
  have r3 := RZ.out.c3
  have f0 := RZ.out.free 0
  have f1 := RZ.out.free 1
  have f2 := RZ.out.free 2
  have f3 := RZ.out.free 3
  go_wp2_with fail
  have hb := RZ.out.put ⟨kComplexType, (⟨#[]⟩ : ByteArray), 0, [x]⟩ (.slice na 1 nc)
  have s0 := hb.c0
  have s1 := hb.c1
  have s2 := hb.c2
  have s3 := hb.c3
  refine bodyPost_ret (v := .agg #[.string kComplexType, .string (⟨#[]⟩ : ByteArray), .int .i64 0, .slice na 1 nc]) (by simp [results, Tryz.results20, go_sem, s0, s1, s2, s3]) rfl ⟨_, agg_eq KE.out.symm TE.out.symm NE.out.symm, KidsS.mk HSZ.out.1 (by rw [LE.out]; exact put_move LZ.out HP.out BX.out.size), below_put BZ.out (Nat.le_refl _) _ _ _ _⟩

set_option maxRecDepth 100000 in
set_option maxHeartbeats 4000000 in
theorem nodeImaginaryType (d : Nat) (IH : NodeOf d) (w : World) (S : Nat → Prop) (t : Tree) (b : Nat) (hk : t.kind = kImaginaryType) (x : Tree) (u : Value) (ht : t.text = ByteArray.empty) (hn : t.num = 0) (hl : t.kids = [x]) (jx : AstAt w S d x u) (hkx : x.kind ≠ ByteArray.empty) (low : ∀ c, S c → c < w.heap.size) (hsz : All Sized (d + 1) t) (d0 : w.cell? ⟨b, 0, none⟩ = some u) :
    Calls Tryz.prog 20 #[.iface 82 (.pointer (some ⟨b, 0, none⟩))] w (Noded w (d + 1) t) := by
  have KE := Lib.hid hk
  have TE := Lib.hid ht
  have NE := Lib.hid hn
  have LE := Lib.hid hl
  have HL := Lib.hid low
  have HSZ := Lib.hid hsz
  have H := Lib.hid IH
  have Jx := Lib.hid jx
  have a0 : ∀ (a : Option Addr) (w : World), (Instr.typeAssert (.iface 82 (.pointer a)) 33 36 true).run Tryz.prog w = .ok (.tuple #[.pointer none, .bool false]) w := fun a w => by kernel_rfl
  have a1 : ∀ (a : Option Addr) (w : World), (Instr.typeAssert (.iface 82 (.pointer a)) 33 46 true).run Tryz.prog w = .ok (.tuple #[.pointer none, .bool false]) w := fun a w => by kernel_rfl
  have a2 : ∀ (a : Option Addr) (w : World), (Instr.typeAssert (.iface 82 (.pointer a)) 33 48 true).run Tryz.prog w = .ok (.tuple #[.pointer none, .bool false]) w := fun a w => by kernel_rfl
  have a3 : ∀ (a : Option Addr) (w : World), (Instr.typeAssert (.iface 82 (.pointer a)) 33 52 true).run Tryz.prog w = .ok (.tuple #[.pointer none, .bool false]) w := fun a w => by kernel_rfl
  have a4 : ∀ (a : Option Addr) (w : World), (Instr.typeAssert (.iface 82 (.pointer a)) 33 56 true).run Tryz.prog w = .ok (.tuple #[.pointer none, .bool false]) w := fun a w => by kernel_rfl
  have a5 : ∀ (a : Option Addr) (w : World), (Instr.typeAssert (.iface 82 (.pointer a)) 33 59 true).run Tryz.prog w = .ok (.tuple #[.pointer none, .bool false]) w := fun a w => by kernel_rfl
  have a6 : ∀ (a : Option Addr) (w : World), (Instr.typeAssert (.iface 82 (.pointer a)) 33 62 true).run Tryz.prog w = .ok (.tuple #[.pointer none, .bool false]) w := fun a w => by kernel_rfl
  have a7 : ∀ (a : Option Addr) (w : World), (Instr.typeAssert (.iface 82 (.pointer a)) 33 67 true).run Tryz.prog w = .ok (.tuple #[.pointer none, .bool false]) w := fun a w => by kernel_rfl
  have a8 : ∀ (a : Option Addr) (w : World), (Instr.typeAssert (.iface 82 (.pointer a)) 33 70 true).run Tryz.prog w = .ok (.tuple #[.pointer none, .bool false]) w := fun a w => by kernel_rfl
  have a9 : ∀ (a : Option Addr) (w : World), (Instr.typeAssert (.iface 82 (.pointer a)) 33 73 true).run Tryz.prog w = .ok (.tuple #[.pointer none, .bool false]) w := fun a w => by kernel_rfl
  have a10 : ∀ (a : Option Addr) (w : World), (Instr.typeAssert (.iface 82 (.pointer a)) 33 76 true).run Tryz.prog w = .ok (.tuple #[.pointer none, .bool false]) w := fun a w => by kernel_rfl
  have a11 : ∀ (a : Option Addr) (w : World), (Instr.typeAssert (.iface 82 (.pointer a)) 33 78 true).run Tryz.prog w = .ok (.tuple #[.pointer none, .bool false]) w := fun a w => by kernel_rfl
  have a12 : ∀ (a : Option Addr) (w : World), (Instr.typeAssert (.iface 82 (.pointer a)) 33 80 true).run Tryz.prog w = .ok (.tuple #[.pointer none, .bool false]) w := fun a w => by kernel_rfl
  have a13 : ∀ (a : Option Addr) (w : World), (Instr.typeAssert (.iface 82 (.pointer a)) 33 82 true).run Tryz.prog w = .ok (.tuple #[.pointer a, .bool true]) w := fun a w => by kernel_rfl
  have R1 : Hid (BoxAt (w.alloc (.cells #[.string ⟨#[]⟩, .string ⟨#[]⟩, .int .i64 0, .slice none 0 0] 24)) w.heap.size Tree.nil (.slice none 0 0)) := by show BoxAt _ _ _ _; unfold BoxAt; exact heap_alloc_new w _
  have BW := Lib.hid (below1 w (.cells #[.string ⟨#[]⟩, .string ⟨#[]⟩, .int .i64 0, .slice none 0 0] 24))
  have HKO := Lib.hid (kindImaginaryType (some ⟨b, 0, none⟩))
  obtain ⟨px, bkx, rfl, _⟩ := jx.ptr hkx
  clear hk ht hn hl low hsz IH jx
  go_enter Tryz.func20, Tryz.ntmps20
  go_wp2_with fail
  refine (HKO.out _).mono ?_
  rintro e w' ⟨rfl, rfl⟩
  have e0 := cells_below BW.out _ _ _ d0
  go_wp2_with fail
  have BX := Lib.hid (BW.out.trans ((below1 (w.alloc (.cells #[.string ⟨#[]⟩, .string ⟨#[]⟩, .int .i64 0, .slice none 0 0] 24)) (.cells #[(.iface px (.pointer (some ⟨bkx, 0, none⟩)))] 33)).mono BW.out.size))
  have RX := Lib.hid (R1.out.stay (Below.heap_alloc (w.alloc (.cells #[.string ⟨#[]⟩, .string ⟨#[]⟩, .int .i64 0, .slice none 0 0] 24)) (.cells #[(.iface px (.pointer (some ⟨bkx, 0, none⟩)))] 33) _ R1.out.lt))
  refine (nodeC d H.out kImaginaryType (⟨#[]⟩ : ByteArray) 0 ([x]) _ _ (In0 _) (row_one (nb := w.heap.size + 1) (alloc_here (by simp)) (by show _ < _; simp) (Jx.out.all HL.out BX.out)) (fun b h => h) (fun z hz => HSZ.out.2 z (by rw [LE.out]; exact hz)) (by have := HSZ.out.1.2.2.2; rw [LE.out] at this; first | (simp; done) | simpa using this)).mono ?_
  rintro e wz ⟨kv, rfl, hL, hbz⟩
  obtain ⟨na, nc, rfl⟩ := hL.form
  have BZ := Lib.hid (BX.out.trans (hbz.mono BX.out.size))
  have RZ := Lib.hid (RX.out.stay (hbz.block _ RX.out.lt))
  have LZ := Lib.hid hL
  have hpy := RX.out.lt
  have HP := Lib.hid hpy
  clear hL hbz hpy
  have r0 := RZ.out.c0
  have r1 := RZ.out.c1
  have r2 := RZ.out.c2
  have r3 := RZ.out.c3
  have f0 := RZ.out.free 0
  have f1 := RZ.out.free 1
  have f2 := RZ.out.free 2
  have f3 := RZ.out.free 3
  go_wp2_with fail
  have hb := RZ.out.put ⟨kImaginaryType, (⟨#[]⟩ : ByteArray), 0, [x]⟩ (.slice na 1 nc)
  have s0 := hb.c0
  have s1 := hb.c1
  have s2 := hb.c2
  have s3 := hb.c3
  refine bodyPost_ret (v := .agg #[.string kImaginaryType, .string (⟨#[]⟩ : ByteArray), .int .i64 0, .slice na 1 nc]) (by simp [results, Tryz.results20, go_sem, s0, s1, s2, s3]) rfl ⟨_, agg_eq KE.out.symm TE.out.symm NE.out.symm, KidsS.mk HSZ.out.1 (by rw [LE.out]; exact put_move LZ.out HP.out BX.out.size), below_put BZ.out (Nat.le_refl _) _ _ _ _⟩

set_option maxRecDepth 100000 in
set_option maxHeartbeats 4000000 in
theorem nodeTypeWithQualifiers (d : Nat) (IH : NodeOf d) (w : World) (S : Nat → Prop) (t : Tree) (b : Nat) (hk : t.kind = kTypeWithQualifiers) (x y : Tree) (u v : Value) (ht : t.text = ByteArray.empty) (hn : t.num = 0) (hl : t.kids = [x, y]) (jx : AstAt w S d x u) (hkx : x.kind ≠ ByteArray.empty) (jy : AstAt w S d y v) (hky : y.kind ≠ ByteArray.empty) (low : ∀ c, S c → c < w.heap.size) (hsz : All Sized (d + 1) t) (d0 : w.cell? ⟨b, 0, none⟩ = some u) (d1 : w.cell? ⟨b, 1, none⟩ = some v) :
    Calls Tryz.prog 20 #[.iface 84 (.pointer (some ⟨b, 0, none⟩))] w (Noded w (d + 1) t) := by
  have KE := Lib.hid hk
  have TE := Lib.hid ht
  have NE := Lib.hid hn
  have LE := Lib.hid hl
  have HL := Lib.hid low
  have HSZ := Lib.hid hsz
  have H := Lib.hid IH
  have Jx := Lib.hid jx
  have Jy := Lib.hid jy
  have a0 : ∀ (a : Option Addr) (w : World), (Instr.typeAssert (.iface 84 (.pointer a)) 33 36 true).run Tryz.prog w = .ok (.tuple #[.pointer none, .bool false]) w := fun a w => by kernel_rfl
  have a1 : ∀ (a : Option Addr) (w : World), (Instr.typeAssert (.iface 84 (.pointer a)) 33 46 true).run Tryz.prog w = .ok (.tuple #[.pointer none, .bool false]) w := fun a w => by kernel_rfl
  have a2 : ∀ (a : Option Addr) (w : World), (Instr.typeAssert (.iface 84 (.pointer a)) 33 48 true).run Tryz.prog w = .ok (.tuple #[.pointer none, .bool false]) w := fun a w => by kernel_rfl
  have a3 : ∀ (a : Option Addr) (w : World), (Instr.typeAssert (.iface 84 (.pointer a)) 33 52 true).run Tryz.prog w = .ok (.tuple #[.pointer none, .bool false]) w := fun a w => by kernel_rfl
  have a4 : ∀ (a : Option Addr) (w : World), (Instr.typeAssert (.iface 84 (.pointer a)) 33 56 true).run Tryz.prog w = .ok (.tuple #[.pointer none, .bool false]) w := fun a w => by kernel_rfl
  have a5 : ∀ (a : Option Addr) (w : World), (Instr.typeAssert (.iface 84 (.pointer a)) 33 59 true).run Tryz.prog w = .ok (.tuple #[.pointer none, .bool false]) w := fun a w => by kernel_rfl
  have a6 : ∀ (a : Option Addr) (w : World), (Instr.typeAssert (.iface 84 (.pointer a)) 33 62 true).run Tryz.prog w = .ok (.tuple #[.pointer none, .bool false]) w := fun a w => by kernel_rfl
  have a7 : ∀ (a : Option Addr) (w : World), (Instr.typeAssert (.iface 84 (.pointer a)) 33 67 true).run Tryz.prog w = .ok (.tuple #[.pointer none, .bool false]) w := fun a w => by kernel_rfl
  have a8 : ∀ (a : Option Addr) (w : World), (Instr.typeAssert (.iface 84 (.pointer a)) 33 70 true).run Tryz.prog w = .ok (.tuple #[.pointer none, .bool false]) w := fun a w => by kernel_rfl
  have a9 : ∀ (a : Option Addr) (w : World), (Instr.typeAssert (.iface 84 (.pointer a)) 33 73 true).run Tryz.prog w = .ok (.tuple #[.pointer none, .bool false]) w := fun a w => by kernel_rfl
  have a10 : ∀ (a : Option Addr) (w : World), (Instr.typeAssert (.iface 84 (.pointer a)) 33 76 true).run Tryz.prog w = .ok (.tuple #[.pointer none, .bool false]) w := fun a w => by kernel_rfl
  have a11 : ∀ (a : Option Addr) (w : World), (Instr.typeAssert (.iface 84 (.pointer a)) 33 78 true).run Tryz.prog w = .ok (.tuple #[.pointer none, .bool false]) w := fun a w => by kernel_rfl
  have a12 : ∀ (a : Option Addr) (w : World), (Instr.typeAssert (.iface 84 (.pointer a)) 33 80 true).run Tryz.prog w = .ok (.tuple #[.pointer none, .bool false]) w := fun a w => by kernel_rfl
  have a13 : ∀ (a : Option Addr) (w : World), (Instr.typeAssert (.iface 84 (.pointer a)) 33 82 true).run Tryz.prog w = .ok (.tuple #[.pointer none, .bool false]) w := fun a w => by kernel_rfl
  have a14 : ∀ (a : Option Addr) (w : World), (Instr.typeAssert (.iface 84 (.pointer a)) 33 84 true).run Tryz.prog w = .ok (.tuple #[.pointer a, .bool true]) w := fun a w => by kernel_rfl
  have R1 : Hid (BoxAt (w.alloc (.cells #[.string ⟨#[]⟩, .string ⟨#[]⟩, .int .i64 0, .slice none 0 0] 24)) w.heap.size Tree.nil (.slice none 0 0)) := by show BoxAt _ _ _ _; unfold BoxAt; exact heap_alloc_new w _
  have BW := Lib.hid (below1 w (.cells #[.string ⟨#[]⟩, .string ⟨#[]⟩, .int .i64 0, .slice none 0 0] 24))
  have HKO := Lib.hid (kindTypeWithQualifiers (some ⟨b, 0, none⟩))
  obtain ⟨px, bkx, rfl, _⟩ := jx.ptr hkx
  obtain ⟨py, bky, rfl, _⟩ := jy.ptr hky
  clear hk ht hn hl low hsz IH jx jy
  go_enter Tryz.func20, Tryz.ntmps20
  go_wp2_with fail
  refine (HKO.out _).mono ?_
  rintro e w' ⟨rfl, rfl⟩
  go_wp2_with fail
  refine T2.wp_region_tab 10 (TabF d kTypeWithQualifiers (⟨#[]⟩ : ByteArray) 0 ([x, y]) (w.alloc (.cells #[.string ⟨#[]⟩, .string ⟨#[]⟩, .int .i64 0, .slice none 0 0] 24)).drew) (TabF.stable d _ _ _ _ _) (by kernel_rfl) (by kernel_rfl) ?_
  simp only [List.take_succ_cons, List.take_zero, List.drop_succ_cons, List.drop_zero]
  obtain ⟨V, hV⟩ : ∃ V, V = (w.alloc (.cells #[.string ⟨#[]⟩, .string ⟨#[]⟩, .int .i64 0, .slice none 0 0] 24)).drew := ⟨_, rfl⟩
  rw [← hV]
  have BV : Hid (Below w.heap.size w V) := by rw [hV]; exact (below1 w (.cells #[.string ⟨#[]⟩, .string ⟨#[]⟩, .int .i64 0, .slice none 0 0] 24)).drew
  have RV : Hid (BoxAt V w.heap.size Tree.nil (.slice none 0 0)) := by rw [hV]; exact R1.out
  have m0 : V.cell? ⟨b, 0, none⟩ = some (.iface px (.pointer (some ⟨bkx, 0, none⟩))) := cells_below BV.out _ _ _ d0
  have m1 : V.cell? ⟨b, 1, none⟩ = some (.iface py (.pointer (some ⟨bky, 0, none⟩))) := cells_below BV.out _ _ _ d1
  have hlV := World.block_lt_of_cell? V _ m0
  have HV := Lib.hid hV
  clear hV
  refine T2.tab_value ?u51 ?g51 ?h51 ?_
  case g51 => kernel_rfl
  case h51 => (intro w' hw'; obtain ⟨hc', hf'⟩ := bcell hw'; go_simp; try with_reducible rfl)
  simp only [Act.put, List.setIfInBounds_toArray, List.set_cons_succ, List.set_cons_zero]
  refine T2.tab_value ?u52 ?g52 ?h52 ?_
  case g52 => kernel_rfl
  case h52 => (intro w' hw'; obtain ⟨hc', hf'⟩ := bcell hw'; go_simp; try with_reducible rfl)
  simp only [Act.put, List.setIfInBounds_toArray, List.set_cons_succ, List.set_cons_zero]
  refine T2.tab_value ?u53 ?g53 ?h53 ?_
  case g53 => kernel_rfl
  case h53 => (intro w' hw'; obtain ⟨hc', hf'⟩ := bcell hw'; go_simp; try with_reducible rfl)
  simp only [Act.put, List.setIfInBounds_toArray, List.set_cons_succ, List.set_cons_zero]
  refine T2.tab_value ?u54 ?g54 ?h54 ?_
  case g54 => kernel_rfl
  case h54 => (intro w' hw'; obtain ⟨hc', hf'⟩ := bcell hw'; go_simp; try with_reducible rfl)
  simp only [Act.put, List.setIfInBounds_toArray, List.set_cons_succ, List.set_cons_zero]
  refine T2.tab_value ?u55 ?g55 ?h55 ?_
  case g55 => kernel_rfl
  case h55 => (intro w' hw'; obtain ⟨hc', hf'⟩ := bcell hw'; go_simp; try with_reducible rfl)
  simp only [Act.put, List.setIfInBounds_toArray, List.set_cons_succ, List.set_cons_zero]
  refine T2.tab_value ?u56 ?g56 ?h56 ?_
  case g56 => kernel_rfl
  case h56 => (intro w' hw'; obtain ⟨hc', hf'⟩ := bcell hw'; go_simp; try with_reducible rfl)
  simp only [Act.put, List.setIfInBounds_toArray, List.set_cons_succ, List.set_cons_zero]
  refine T2.tab_value ?u57 ?g57 ?h57 ?_
  case g57 => kernel_rfl
  case h57 => (intro w' hw'; obtain ⟨hc', hf'⟩ := bcell hw'; go_simp; try with_reducible rfl)
  simp only [Act.put, List.setIfInBounds_toArray, List.set_cons_succ, List.set_cons_zero]
  refine T2.tab_value ?u58 ?g58 ?h58 ?_
  case g58 => kernel_rfl
  case h58 => (intro w' hw'; obtain ⟨hc', hf'⟩ := bcell hw'; go_simp; try with_reducible rfl)
  simp only [Act.put, List.setIfInBounds_toArray, List.set_cons_succ, List.set_cons_zero]
  refine T2.tab_value ?u59 ?g59 ?h59 ?_
  case g59 => kernel_rfl
  case h59 => (intro w' hw'; obtain ⟨hc', hf'⟩ := bcell hw'; go_simp; try with_reducible rfl)
  simp only [Act.put, List.setIfInBounds_toArray, List.set_cons_succ, List.set_cons_zero]
  refine T2.tab_slice 2 ?o60 ?g60 ?h60 ?_
  case g60 => kernel_rfl
  case h60 => (intro w' hw'; obtain ⟨hc', hf'⟩ := bcell hw'; go_simp; try with_reducible rfl)
  intro nb w1 he1 hlz hsz' hbz
  have NB := Lib.hid hbz
  have NS := Lib.hid hsz'
  clear hbz hsz' hlz
  simp only [Act.put, List.setIfInBounds_toArray, List.set_cons_succ, List.set_cons_zero]
  have E1 := Lib.hid he1
  clear he1
  refine T2.wpTab_nil (fun wy hey => ?_)
  have EY : Hid (Ext V wy) := Ext.trans (Ext.trans (Ext.refl V) E1.out) hey
  have BY := Lib.hid (BV.out.trans (Below.mono EY.out BV.out.size))
  have RY := Lib.hid (RV.out.stay (EY.out.block _ RV.out.lt))
  have NY := Lib.hid ((hey.block nb NS.out).trans NB.out)
  have NLY := Lib.hid (Nat.lt_of_lt_of_le NS.out hey.size)
  clear hey hlV m0 m1
  go_wp2_with fail
  refine (nodeC d H.out kTypeWithQualifiers (⟨#[]⟩ : ByteArray) 0 ([x, y]) _ _ (In0 _) (row_two NY.out NLY.out (Jx.out.all HL.out BY.out) (Jy.out.all HL.out BY.out)) (fun b h => h) (fun z hz => HSZ.out.2 z (by rw [LE.out]; exact hz)) (by have := HSZ.out.1.2.2.2; rw [LE.out] at this; first | (simp; done) | simpa using this)).mono ?_
  rintro e wz ⟨kv, rfl, hL, hbz⟩
  obtain ⟨na, nc, rfl⟩ := hL.form
  have BZ := Lib.hid (BY.out.trans (hbz.mono BY.out.size))
  have RZ := Lib.hid (RY.out.stay (hbz.block _ RY.out.lt))
  have LZ := Lib.hid hL
  have hpy := RY.out.lt
  have HP := Lib.hid hpy
  clear hL hbz hpy
  have r0 := RZ.out.c0
  have r1 := RZ.out.c1
  have r2 := RZ.out.c2
  have r3 := RZ.out.c3
  have f0 := RZ.out.free 0
  have f1 := RZ.out.free 1
  have f2 := RZ.out.free 2
  have f3 := RZ.out.free 3
  go_wp2_with fail
  have hb := RZ.out.put ⟨kTypeWithQualifiers, (⟨#[]⟩ : ByteArray), 0, [x, y]⟩ (.slice na 2 nc)
  have s0 := hb.c0
  have s1 := hb.c1
  have s2 := hb.c2
  have s3 := hb.c3
  refine bodyPost_ret (v := .agg #[.string kTypeWithQualifiers, .string (⟨#[]⟩ : ByteArray), .int .i64 0, .slice na 2 nc]) (by simp [results, Tryz.results20, go_sem, s0, s1, s2, s3]) rfl ⟨_, agg_eq KE.out.symm TE.out.symm NE.out.symm, KidsS.mk HSZ.out.1 (by rw [LE.out]; exact put_move LZ.out HP.out BY.out.size), below_put BZ.out (Nat.le_refl _) _ _ _ _⟩

set_option maxRecDepth 100000 in
set_option maxHeartbeats 4000000 in
theorem nodeQualifiers (d : Nat) (IH : NodeOf d) (w : World) (S : Nat → Prop) (t : Tree) (b : Nat) (hk : t.kind = kQualifiers) (la : Option Addr) (lc : Nat) (ht : t.text = ByteArray.empty) (hn : t.num = 0) (hrow : RowAt w S (AstAt w S d) t.kids (.slice la t.kids.length lc)) (low : ∀ c, S c → c < w.heap.size) (hsz : All Sized (d + 1) t) (d0 : w.cell? ⟨b, 0, none⟩ = some (.slice la t.kids.length lc)) :
    Calls Tryz.prog 20 #[.iface 87 (.pointer (some ⟨b, 0, none⟩))] w (Noded w (d + 1) t) := by
  have KE := Lib.hid hk
  have TE := Lib.hid ht
  have NE := Lib.hid hn
  have HL := Lib.hid low
  have HSZ := Lib.hid hsz
  have ROW := Lib.hid hrow
  have H := Lib.hid IH
  have a0 : ∀ (a : Option Addr) (w : World), (Instr.typeAssert (.iface 87 (.pointer a)) 33 36 true).run Tryz.prog w = .ok (.tuple #[.pointer none, .bool false]) w := fun a w => by kernel_rfl
  have a1 : ∀ (a : Option Addr) (w : World), (Instr.typeAssert (.iface 87 (.pointer a)) 33 46 true).run Tryz.prog w = .ok (.tuple #[.pointer none, .bool false]) w := fun a w => by kernel_rfl
  have a2 : ∀ (a : Option Addr) (w : World), (Instr.typeAssert (.iface 87 (.pointer a)) 33 48 true).run Tryz.prog w = .ok (.tuple #[.pointer none, .bool false]) w := fun a w => by kernel_rfl
  have a3 : ∀ (a : Option Addr) (w : World), (Instr.typeAssert (.iface 87 (.pointer a)) 33 52 true).run Tryz.prog w = .ok (.tuple #[.pointer none, .bool false]) w := fun a w => by kernel_rfl
  have a4 : ∀ (a : Option Addr) (w : World), (Instr.typeAssert (.iface 87 (.pointer a)) 33 56 true).run Tryz.prog w = .ok (.tuple #[.pointer none, .bool false]) w := fun a w => by kernel_rfl
  have a5 : ∀ (a : Option Addr) (w : World), (Instr.typeAssert (.iface 87 (.pointer a)) 33 59 true).run Tryz.prog w = .ok (.tuple #[.pointer none, .bool false]) w := fun a w => by kernel_rfl
  have a6 : ∀ (a : Option Addr) (w : World), (Instr.typeAssert (.iface 87 (.pointer a)) 33 62 true).run Tryz.prog w = .ok (.tuple #[.pointer none, .bool false]) w := fun a w => by kernel_rfl
  have a7 : ∀ (a : Option Addr) (w : World), (Instr.typeAssert (.iface 87 (.pointer a)) 33 67 true).run Tryz.prog w = .ok (.tuple #[.pointer none, .bool false]) w := fun a w => by kernel_rfl
  have a8 : ∀ (a : Option Addr) (w : World), (Instr.typeAssert (.iface 87 (.pointer a)) 33 70 true).run Tryz.prog w = .ok (.tuple #[.pointer none, .bool false]) w := fun a w => by kernel_rfl
  have a9 : ∀ (a : Option Addr) (w : World), (Instr.typeAssert (.iface 87 (.pointer a)) 33 73 true).run Tryz.prog w = .ok (.tuple #[.pointer none, .bool false]) w := fun a w => by kernel_rfl
  have a10 : ∀ (a : Option Addr) (w : World), (Instr.typeAssert (.iface 87 (.pointer a)) 33 76 true).run Tryz.prog w = .ok (.tuple #[.pointer none, .bool false]) w := fun a w => by kernel_rfl
  have a11 : ∀ (a : Option Addr) (w : World), (Instr.typeAssert (.iface 87 (.pointer a)) 33 78 true).run Tryz.prog w = .ok (.tuple #[.pointer none, .bool false]) w := fun a w => by kernel_rfl
  have a12 : ∀ (a : Option Addr) (w : World), (Instr.typeAssert (.iface 87 (.pointer a)) 33 80 true).run Tryz.prog w = .ok (.tuple #[.pointer none, .bool false]) w := fun a w => by kernel_rfl
  have a13 : ∀ (a : Option Addr) (w : World), (Instr.typeAssert (.iface 87 (.pointer a)) 33 82 true).run Tryz.prog w = .ok (.tuple #[.pointer none, .bool false]) w := fun a w => by kernel_rfl
  have a14 : ∀ (a : Option Addr) (w : World), (Instr.typeAssert (.iface 87 (.pointer a)) 33 84 true).run Tryz.prog w = .ok (.tuple #[.pointer none, .bool false]) w := fun a w => by kernel_rfl
  have a15 : ∀ (a : Option Addr) (w : World), (Instr.typeAssert (.iface 87 (.pointer a)) 33 87 true).run Tryz.prog w = .ok (.tuple #[.pointer a, .bool true]) w := fun a w => by kernel_rfl
  have R1 : Hid (BoxAt (w.alloc (.cells #[.string ⟨#[]⟩, .string ⟨#[]⟩, .int .i64 0, .slice none 0 0] 24)) w.heap.size Tree.nil (.slice none 0 0)) := by show BoxAt _ _ _ _; unfold BoxAt; exact heap_alloc_new w _
  have BW := Lib.hid (below1 w (.cells #[.string ⟨#[]⟩, .string ⟨#[]⟩, .int .i64 0, .slice none 0 0] 24))
  have HKO := Lib.hid (kindQualifiers (some ⟨b, 0, none⟩))
  clear hk ht hn low hsz hrow IH
  go_enter Tryz.func20, Tryz.ntmps20
  go_wp2_with fail
  refine (HKO.out _).mono ?_
  rintro e w' ⟨rfl, rfl⟩
  have e0 := cells_below BW.out _ _ _ d0
  go_wp2_with fail
  refine (nodeC d H.out kQualifiers (⟨#[]⟩ : ByteArray) 0 (t.kids) _ _ (In0 _) (ROW.out.all HL.out BW.out) (fun b h => h) (fun z hz => HSZ.out.2 z (by exact hz)) (by have := HSZ.out.1.2.2.2; first | (simp; done) | simpa using this)).mono ?_
  rintro e wz ⟨kv, rfl, hL, hbz⟩
  obtain ⟨na, nc, rfl⟩ := hL.form
  have BZ := Lib.hid (BW.out.trans (hbz.mono BW.out.size))
  have RZ := Lib.hid (R1.out.stay (hbz.block _ R1.out.lt))
  have LZ := Lib.hid hL
  have hpy := R1.out.lt
  have HP := Lib.hid hpy
  clear hL hbz hpy
  have r0 := RZ.out.c0
  have r1 := RZ.out.c1
  have r2 := RZ.out.c2
  have r3 := RZ.out.c3
  have f0 := RZ.out.free 0
  have f1 := RZ.out.free 1
  have f2 := RZ.out.free 2
  have f3 := RZ.out.free 3
  go_wp2_with fail
  have hb := RZ.out.put ⟨kQualifiers, (⟨#[]⟩ : ByteArray), 0, t.kids⟩ (.slice na t.kids.length nc)
  have s0 := hb.c0
  have s1 := hb.c1
  have s2 := hb.c2
  have s3 := hb.c3
  refine bodyPost_ret (v := .agg #[.string kQualifiers, .string (⟨#[]⟩ : ByteArray), .int .i64 0, .slice na t.kids.length nc]) (by simp [results, Tryz.results20, go_sem, s0, s1, s2, s3]) rfl ⟨_, agg_eq KE.out.symm TE.out.symm NE.out.symm, KidsS.mk HSZ.out.1 (by exact put_move LZ.out HP.out BW.out.size), below_put BZ.out (Nat.le_refl _) _ _ _ _⟩

set_option maxRecDepth 100000 in
set_option maxHeartbeats 4000000 in
theorem nodeQualifier (d : Nat) (IH : NodeOf d) (w : World) (S : Nat → Prop) (t : Tree) (b : Nat) (hk : t.kind = kQualifier) (la : Option Addr) (lc : Nat) (hn : t.num = 0) (hl : t.kids = []) (hlc : lc ≤ 9223372036854775807) (low : ∀ c, S c → c < w.heap.size) (hsz : All Sized (d + 1) t) (d0 : w.cell? ⟨b, 0, none⟩ = some (.string t.text)) (d1 : w.cell? ⟨b, 1, none⟩ = some (.slice la 0 lc)) :
    Calls Tryz.prog 20 #[.iface 90 (.pointer (some ⟨b, 0, none⟩))] w (Noded w (d + 1) t) := by
  have KE := Lib.hid hk
  have NE := Lib.hid hn
  have LE := Lib.hid hl
  have HL := Lib.hid low
  have HSZ := Lib.hid hsz
  have HLC := Lib.hid hlc
  have H := Lib.hid IH
  have a0 : ∀ (a : Option Addr) (w : World), (Instr.typeAssert (.iface 90 (.pointer a)) 33 36 true).run Tryz.prog w = .ok (.tuple #[.pointer none, .bool false]) w := fun a w => by kernel_rfl
  have a1 : ∀ (a : Option Addr) (w : World), (Instr.typeAssert (.iface 90 (.pointer a)) 33 46 true).run Tryz.prog w = .ok (.tuple #[.pointer none, .bool false]) w := fun a w => by kernel_rfl
  have a2 : ∀ (a : Option Addr) (w : World), (Instr.typeAssert (.iface 90 (.pointer a)) 33 48 true).run Tryz.prog w = .ok (.tuple #[.pointer none, .bool false]) w := fun a w => by kernel_rfl
  have a3 : ∀ (a : Option Addr) (w : World), (Instr.typeAssert (.iface 90 (.pointer a)) 33 52 true).run Tryz.prog w = .ok (.tuple #[.pointer none, .bool false]) w := fun a w => by kernel_rfl
  have a4 : ∀ (a : Option Addr) (w : World), (Instr.typeAssert (.iface 90 (.pointer a)) 33 56 true).run Tryz.prog w = .ok (.tuple #[.pointer none, .bool false]) w := fun a w => by kernel_rfl
  have a5 : ∀ (a : Option Addr) (w : World), (Instr.typeAssert (.iface 90 (.pointer a)) 33 59 true).run Tryz.prog w = .ok (.tuple #[.pointer none, .bool false]) w := fun a w => by kernel_rfl
  have a6 : ∀ (a : Option Addr) (w : World), (Instr.typeAssert (.iface 90 (.pointer a)) 33 62 true).run Tryz.prog w = .ok (.tuple #[.pointer none, .bool false]) w := fun a w => by kernel_rfl
  have a7 : ∀ (a : Option Addr) (w : World), (Instr.typeAssert (.iface 90 (.pointer a)) 33 67 true).run Tryz.prog w = .ok (.tuple #[.pointer none, .bool false]) w := fun a w => by kernel_rfl
  have a8 : ∀ (a : Option Addr) (w : World), (Instr.typeAssert (.iface 90 (.pointer a)) 33 70 true).run Tryz.prog w = .ok (.tuple #[.pointer none, .bool false]) w := fun a w => by kernel_rfl
  have a9 : ∀ (a : Option Addr) (w : World), (Instr.typeAssert (.iface 90 (.pointer a)) 33 73 true).run Tryz.prog w = .ok (.tuple #[.pointer none, .bool false]) w := fun a w => by kernel_rfl
  have a10 : ∀ (a : Option Addr) (w : World), (Instr.typeAssert (.iface 90 (.pointer a)) 33 76 true).run Tryz.prog w = .ok (.tuple #[.pointer none, .bool false]) w := fun a w => by kernel_rfl
  have a11 : ∀ (a : Option Addr) (w : World), (Instr.typeAssert (.iface 90 (.pointer a)) 33 78 true).run Tryz.prog w = .ok (.tuple #[.pointer none, .bool false]) w := fun a w => by kernel_rfl
  have a12 : ∀ (a : Option Addr) (w : World), (Instr.typeAssert (.iface 90 (.pointer a)) 33 80 true).run Tryz.prog w = .ok (.tuple #[.pointer none, .bool false]) w := fun a w => by kernel_rfl
  have a13 : ∀ (a : Option Addr) (w : World), (Instr.typeAssert (.iface 90 (.pointer a)) 33 82 true).run Tryz.prog w = .ok (.tuple #[.pointer none, .bool false]) w := fun a w => by kernel_rfl
  have a14 : ∀ (a : Option Addr) (w : World), (Instr.typeAssert (.iface 90 (.pointer a)) 33 84 true).run Tryz.prog w = .ok (.tuple #[.pointer none, .bool false]) w := fun a w => by kernel_rfl
  have a15 : ∀ (a : Option Addr) (w : World), (Instr.typeAssert (.iface 90 (.pointer a)) 33 87 true).run Tryz.prog w = .ok (.tuple #[.pointer none, .bool false]) w := fun a w => by kernel_rfl
  have a16 : ∀ (a : Option Addr) (w : World), (Instr.typeAssert (.iface 90 (.pointer a)) 33 90 true).run Tryz.prog w = .ok (.tuple #[.pointer a, .bool true]) w := fun a w => by kernel_rfl
  have R1 : Hid (BoxAt (w.alloc (.cells #[.string ⟨#[]⟩, .string ⟨#[]⟩, .int .i64 0, .slice none 0 0] 24)) w.heap.size Tree.nil (.slice none 0 0)) := by show BoxAt _ _ _ _; unfold BoxAt; exact heap_alloc_new w _
  have BW := Lib.hid (below1 w (.cells #[.string ⟨#[]⟩, .string ⟨#[]⟩, .int .i64 0, .slice none 0 0] 24))
  have HKO := Lib.hid (kindQualifier (some ⟨b, 0, none⟩))
  clear hk hn hl low hsz hlc IH
  go_enter Tryz.func20, Tryz.ntmps20
  go_wp2_with fail
  refine (HKO.out _).mono ?_
  rintro e w' ⟨rfl, rfl⟩
  go_wp2_with fail
  refine T2.wp_region_tab 9 (TabF d kQualifier t.text 0 (([] : List Tree)) (w.alloc (.cells #[.string ⟨#[]⟩, .string ⟨#[]⟩, .int .i64 0, .slice none 0 0] 24)).drew) (TabF.stable d _ _ _ _ _) (by kernel_rfl) (by kernel_rfl) ?_
  simp only [List.take_succ_cons, List.take_zero, List.drop_succ_cons, List.drop_zero]
  obtain ⟨V, hV⟩ : ∃ V, V = (w.alloc (.cells #[.string ⟨#[]⟩, .string ⟨#[]⟩, .int .i64 0, .slice none 0 0] 24)).drew := ⟨_, rfl⟩
  rw [← hV]
  have BV : Hid (Below w.heap.size w V) := by rw [hV]; exact (below1 w (.cells #[.string ⟨#[]⟩, .string ⟨#[]⟩, .int .i64 0, .slice none 0 0] 24)).drew
  have RV : Hid (BoxAt V w.heap.size Tree.nil (.slice none 0 0)) := by rw [hV]; exact R1.out
  have m0 : V.cell? ⟨b, 0, none⟩ = some (.string t.text) := cells_below BV.out _ _ _ d0
  have m1 : V.cell? ⟨b, 1, none⟩ = some (.slice la 0 lc) := cells_below BV.out _ _ _ d1
  have hlV := World.block_lt_of_cell? V _ m0
  have HV := Lib.hid hV
  clear hV
  refine T2.tab_value ?u61 ?g61 ?h61 ?_
  case g61 => kernel_rfl
  case h61 => (intro w' hw'; obtain ⟨hc', hf'⟩ := bcell hw'; go_simp; try with_reducible rfl)
  simp only [Act.put, List.setIfInBounds_toArray, List.set_cons_succ, List.set_cons_zero]
  refine T2.tab_value ?u62 ?g62 ?h62 ?_
  case g62 => kernel_rfl
  case h62 => (intro w' hw'; obtain ⟨hc', hf'⟩ := bcell hw'; go_simp; try with_reducible rfl)
  simp only [Act.put, List.setIfInBounds_toArray, List.set_cons_succ, List.set_cons_zero]
  refine T2.tab_value ?u63 ?g63 ?h63 ?_
  case g63 => kernel_rfl
  case h63 => (intro w' hw'; obtain ⟨hc', hf'⟩ := bcell hw'; go_simp; try with_reducible rfl)
  simp only [Act.put, List.setIfInBounds_toArray, List.set_cons_succ, List.set_cons_zero]
  refine T2.tab_value ?u64 ?g64 ?h64 ?_
  case g64 => kernel_rfl
  case h64 => (intro w' hw'; obtain ⟨hc', hf'⟩ := bcell hw'; go_simp; try with_reducible rfl)
  simp only [Act.put, List.setIfInBounds_toArray, List.set_cons_succ, List.set_cons_zero]
  refine T2.tab_value ?u65 ?g65 ?h65 ?_
  case g65 => kernel_rfl
  case h65 => (intro w' hw'; obtain ⟨hc', hf'⟩ := bcell hw'; go_simp; try with_reducible rfl)
  simp only [Act.put, List.setIfInBounds_toArray, List.set_cons_succ, List.set_cons_zero]
  refine T2.tab_value ?u66 ?g66 ?h66 ?_
  case g66 => kernel_rfl
  case h66 => (intro w' hw'; obtain ⟨hc', hf'⟩ := bcell hw'; go_simp; try with_reducible rfl)
  simp only [Act.put, List.setIfInBounds_toArray, List.set_cons_succ, List.set_cons_zero]
  refine T2.tab_value ?u67 ?g67 ?h67 ?_
  case g67 => kernel_rfl
  case h67 => (intro w' hw'; obtain ⟨hc', hf'⟩ := bcell hw'; go_simp; try with_reducible rfl)
  simp only [Act.put, List.setIfInBounds_toArray, List.set_cons_succ, List.set_cons_zero]
  refine T2.tab_value ?u68 ?g68 ?h68 ?_
  case g68 => kernel_rfl
  case h68 => (intro w' hw'; obtain ⟨hc', hf'⟩ := bcell hw'; go_simp; try with_reducible rfl)
  simp only [Act.put, List.setIfInBounds_toArray, List.set_cons_succ, List.set_cons_zero]
  refine T2.tab_value ?u69 ?g69 ?h69 ?_
  case g69 => kernel_rfl
  case h69 => (intro w' hw'; obtain ⟨hc', hf'⟩ := bcell hw'; go_simp; try with_reducible rfl)
  simp only [Act.put, List.setIfInBounds_toArray, List.set_cons_succ, List.set_cons_zero]
  refine T2.wpTab_nil (fun wy hey => ?_)
  have EY : Hid (Ext V wy) := Ext.trans (Ext.refl V) hey
  have BY := Lib.hid (BV.out.trans (Below.mono EY.out BV.out.size))
  have RY := Lib.hid (RV.out.stay (EY.out.block _ RV.out.lt))
  clear hey hlV m0 m1
  go_wp2_with fail
  refine (nodeC d H.out kQualifier t.text 0 (([] : List Tree)) _ _ (In0 _) (row_nil _ _ _ _ _ HLC.out) (fun b h => h) (fun z hz => HSZ.out.2 z (by rw [LE.out]; exact hz)) (by have := HSZ.out.1.2.2.2; rw [LE.out] at this; first | (simp; done) | simpa using this)).mono ?_
  rintro e wz ⟨kv, rfl, hL, hbz⟩
  obtain ⟨na, nc, rfl⟩ := hL.form
  have BZ := Lib.hid (BY.out.trans (hbz.mono BY.out.size))
  have RZ := Lib.hid (RY.out.stay (hbz.block _ RY.out.lt))
  have LZ := Lib.hid hL
  have hpy := RY.out.lt
  have HP := Lib.hid hpy
  clear hL hbz hpy
  have r0 := RZ.out.c0
  have r1 := RZ.out.c1
  have r2 := RZ.out.c2
  have r3 := RZ.out.c3
  have f0 := RZ.out.free 0
  have f1 := RZ.out.free 1
  have f2 := RZ.out.free 2
  have f3 := RZ.out.free 3
  go_wp2_with fail
  have hb := RZ.out.put ⟨kQualifier, t.text, 0, ([] : List Tree)⟩ (.slice na 0 nc)
  have s0 := hb.c0
  have s1 := hb.c1
  have s2 := hb.c2
  have s3 := hb.c3
  refine bodyPost_ret (v := .agg #[.string kQualifier, .string t.text, .int .i64 0, .slice na 0 nc]) (by simp [results, Tryz.results20, go_sem, s0, s1, s2, s3]) rfl ⟨_, agg_eq KE.out.symm rfl NE.out.symm, KidsS.mk HSZ.out.1 (by rw [LE.out]; exact put_move LZ.out HP.out BY.out.size), below_put BZ.out (Nat.le_refl _) _ _ _ _⟩

set_option maxRecDepth 100000 in
set_option maxHeartbeats 4000000 in
theorem nodeMethodWithQualifiers (d : Nat) (IH : NodeOf d) (w : World) (S : Nat → Prop) (t : Tree) (b : Nat) (hk : t.kind = kMethodWithQualifiers) (x y : Tree) (u v : Value) (hn : t.num = 0) (hl : t.kids = [x, y]) (jx : AstAt w S d x u) (hkx : x.kind ≠ ByteArray.empty) (jy : AstAt w S d y v) (low : ∀ c, S c → c < w.heap.size) (hsz : All Sized (d + 1) t) (d0 : w.cell? ⟨b, 0, none⟩ = some u) (d1 : w.cell? ⟨b, 1, none⟩ = some v) (d2 : w.cell? ⟨b, 2, none⟩ = some (.string t.text)) :
    Calls Tryz.prog 20 #[.iface 93 (.pointer (some ⟨b, 0, none⟩))] w (Noded w (d + 1) t) := by
  have KE := Lib.hid hk
  have NE := Lib.hid hn
  have LE := Lib.hid hl
  have HL := Lib.hid low
  have HSZ := Lib.hid hsz
  have H := Lib.hid IH
  have Jx := Lib.hid jx
  have Jy := Lib.hid jy
  have a0 : ∀ (a : Option Addr) (w : World), (Instr.typeAssert (.iface 93 (.pointer a)) 33 36 true).run Tryz.prog w = .ok (.tuple #[.pointer none, .bool false]) w := fun a w => by kernel_rfl
  have a1 : ∀ (a : Option Addr) (w : World), (Instr.typeAssert (.iface 93 (.pointer a)) 33 46 true).run Tryz.prog w = .ok (.tuple #[.pointer none, .bool false]) w := fun a w => by kernel_rfl
  have a2 : ∀ (a : Option Addr) (w : World), (Instr.typeAssert (.iface 93 (.pointer a)) 33 48 true).run Tryz.prog w = .ok (.tuple #[.pointer none, .bool false]) w := fun a w => by kernel_rfl
  have a3 : ∀ (a : Option Addr) (w : World), (Instr.typeAssert (.iface 93 (.pointer a)) 33 52 true).run Tryz.prog w = .ok (.tuple #[.pointer none, .bool false]) w := fun a w => by kernel_rfl
  have a4 : ∀ (a : Option Addr) (w : World), (Instr.typeAssert (.iface 93 (.pointer a)) 33 56 true).run Tryz.prog w = .ok (.tuple #[.pointer none, .bool false]) w := fun a w => by kernel_rfl
  have a5 : ∀ (a : Option Addr) (w : World), (Instr.typeAssert (.iface 93 (.pointer a)) 33 59 true).run Tryz.prog w = .ok (.tuple #[.pointer none, .bool false]) w := fun a w => by kernel_rfl
  have a6 : ∀ (a : Option Addr) (w : World), (Instr.typeAssert (.iface 93 (.pointer a)) 33 62 true).run Tryz.prog w = .ok (.tuple #[.pointer none, .bool false]) w := fun a w => by kernel_rfl
  have a7 : ∀ (a : Option Addr) (w : World), (Instr.typeAssert (.iface 93 (.pointer a)) 33 67 true).run Tryz.prog w = .ok (.tuple #[.pointer none, .bool false]) w := fun a w => by kernel_rfl
  have a8 : ∀ (a : Option Addr) (w : World), (Instr.typeAssert (.iface 93 (.pointer a)) 33 70 true).run Tryz.prog w = .ok (.tuple #[.pointer none, .bool false]) w := fun a w => by kernel_rfl
  have a9 : ∀ (a : Option Addr) (w : World), (Instr.typeAssert (.iface 93 (.pointer a)) 33 73 true).run Tryz.prog w = .ok (.tuple #[.pointer none, .bool false]) w := fun a w => by kernel_rfl
  have a10 : ∀ (a : Option Addr) (w : World), (Instr.typeAssert (.iface 93 (.pointer a)) 33 76 true).run Tryz.prog w = .ok (.tuple #[.pointer none, .bool false]) w := fun a w => by kernel_rfl
  have a11 : ∀ (a : Option Addr) (w : World), (Instr.typeAssert (.iface 93 (.pointer a)) 33 78 true).run Tryz.prog w = .ok (.tuple #[.pointer none, .bool false]) w := fun a w => by kernel_rfl
  have a12 : ∀ (a : Option Addr) (w : World), (Instr.typeAssert (.iface 93 (.pointer a)) 33 80 true).run Tryz.prog w = .ok (.tuple #[.pointer none, .bool false]) w := fun a w => by kernel_rfl
  have a13 : ∀ (a : Option Addr) (w : World), (Instr.typeAssert (.iface 93 (.pointer a)) 33 82 true).run Tryz.prog w = .ok (.tuple #[.pointer none, .bool false]) w := fun a w => by kernel_rfl
  have a14 : ∀ (a : Option Addr) (w : World), (Instr.typeAssert (.iface 93 (.pointer a)) 33 84 true).run Tryz.prog w = .ok (.tuple #[.pointer none, .bool false]) w := fun a w => by kernel_rfl
  have a15 : ∀ (a : Option Addr) (w : World), (Instr.typeAssert (.iface 93 (.pointer a)) 33 87 true).run Tryz.prog w = .ok (.tuple #[.pointer none, .bool false]) w := fun a w => by kernel_rfl
  have a16 : ∀ (a : Option Addr) (w : World), (Instr.typeAssert (.iface 93 (.pointer a)) 33 90 true).run Tryz.prog w = .ok (.tuple #[.pointer none, .bool false]) w := fun a w => by kernel_rfl
  have a17 : ∀ (a : Option Addr) (w : World), (Instr.typeAssert (.iface 93 (.pointer a)) 33 93 true).run Tryz.prog w = .ok (.tuple #[.pointer a, .bool true]) w := fun a w => by kernel_rfl
  have R1 : Hid (BoxAt (w.alloc (.cells #[.string ⟨#[]⟩, .string ⟨#[]⟩, .int .i64 0, .slice none 0 0] 24)) w.heap.size Tree.nil (.slice none 0 0)) := by show BoxAt _ _ _ _; unfold BoxAt; exact heap_alloc_new w _
  have BW := Lib.hid (below1 w (.cells #[.string ⟨#[]⟩, .string ⟨#[]⟩, .int .i64 0, .slice none 0 0] 24))
  have HKO := Lib.hid (kindMethodWithQualifiers (some ⟨b, 0, none⟩))
  obtain ⟨px, bkx, rfl, _⟩ := jx.ptr hkx
  rcases jy.ptr2 with rfl | ⟨py, bky, rfl⟩
  · skip
    clear hk hn hl low hsz IH jx jy
    go_enter Tryz.func20, Tryz.ntmps20
    go_wp2_with fail
    refine (HKO.out _).mono ?_
    rintro e w' ⟨rfl, rfl⟩
    go_wp2_with fail
    refine T2.wp_region_tab 14 (TabF d kMethodWithQualifiers t.text 0 ([x, y]) (w.alloc (.cells #[.string ⟨#[]⟩, .string ⟨#[]⟩, .int .i64 0, .slice none 0 0] 24)).drew) (TabF.stable d _ _ _ _ _) (by kernel_rfl) (by kernel_rfl) ?_
    simp only [List.take_succ_cons, List.take_zero, List.drop_succ_cons, List.drop_zero]
    obtain ⟨V, hV⟩ : ∃ V, V = (w.alloc (.cells #[.string ⟨#[]⟩, .string ⟨#[]⟩, .int .i64 0, .slice none 0 0] 24)).drew := ⟨_, rfl⟩
    rw [← hV]
    have BV : Hid (Below w.heap.size w V) := by rw [hV]; exact (below1 w (.cells #[.string ⟨#[]⟩, .string ⟨#[]⟩, .int .i64 0, .slice none 0 0] 24)).drew
    have RV : Hid (BoxAt V w.heap.size Tree.nil (.slice none 0 0)) := by rw [hV]; exact R1.out
    have m0 : V.cell? ⟨b, 0, none⟩ = some (.iface px (.pointer (some ⟨bkx, 0, none⟩))) := cells_below BV.out _ _ _ d0
    have m1 : V.cell? ⟨b, 1, none⟩ = some .nilIface := cells_below BV.out _ _ _ d1
    have m2 : V.cell? ⟨b, 2, none⟩ = some (.string t.text) := cells_below BV.out _ _ _ d2
    have hlV := World.block_lt_of_cell? V _ m0
    have HV := Lib.hid hV
    clear hV
    refine T2.tab_value ?u70 ?g70 ?h70 ?_
    case g70 => kernel_rfl
    case h70 => (intro w' hw'; obtain ⟨hc', hf'⟩ := bcell hw'; go_simp; try with_reducible rfl)
    simp only [Act.put, List.setIfInBounds_toArray, List.set_cons_succ, List.set_cons_zero]
    refine T2.tab_value ?u71 ?g71 ?h71 ?_
    case g71 => kernel_rfl
    case h71 => (intro w' hw'; obtain ⟨hc', hf'⟩ := bcell hw'; go_simp; try with_reducible rfl)
    simp only [Act.put, List.setIfInBounds_toArray, List.set_cons_succ, List.set_cons_zero]
    refine T2.tab_value ?u72 ?g72 ?h72 ?_
    case g72 => kernel_rfl
    case h72 => (intro w' hw'; obtain ⟨hc', hf'⟩ := bcell hw'; go_simp; try with_reducible rfl)
    simp only [Act.put, List.setIfInBounds_toArray, List.set_cons_succ, List.set_cons_zero]
    refine T2.tab_value ?u73 ?g73 ?h73 ?_
    case g73 => kernel_rfl
    case h73 => (intro w' hw'; obtain ⟨hc', hf'⟩ := bcell hw'; go_simp; try with_reducible rfl)
    simp only [Act.put, List.setIfInBounds_toArray, List.set_cons_succ, List.set_cons_zero]
    refine T2.tab_value ?u74 ?g74 ?h74 ?_
    case g74 => kernel_rfl
    case h74 => (intro w' hw'; obtain ⟨hc', hf'⟩ := bcell hw'; go_simp; try with_reducible rfl)
    simp only [Act.put, List.setIfInBounds_toArray, List.set_cons_succ, List.set_cons_zero]
    refine T2.tab_value ?u75 ?g75 ?h75 ?_
    case g75 => kernel_rfl
    case h75 => (intro w' hw'; obtain ⟨hc', hf'⟩ := bcell hw'; go_simp; try with_reducible rfl)
    simp only [Act.put, List.setIfInBounds_toArray, List.set_cons_succ, List.set_cons_zero]
    refine T2.tab_value ?u76 ?g76 ?h76 ?_
    case g76 => kernel_rfl
    case h76 => (intro w' hw'; obtain ⟨hc', hf'⟩ := bcell hw'; go_simp; try with_reducible rfl)
    simp only [Act.put, List.setIfInBounds_toArray, List.set_cons_succ, List.set_cons_zero]
    refine T2.tab_value ?u77 ?g77 ?h77 ?_
    case g77 => kernel_rfl
    case h77 => (intro w' hw'; obtain ⟨hc', hf'⟩ := bcell hw'; go_simp; try with_reducible rfl)
    simp only [Act.put, List.setIfInBounds_toArray, List.set_cons_succ, List.set_cons_zero]
    refine T2.tab_value ?u78 ?g78 ?h78 ?_
    case g78 => kernel_rfl
    case h78 => (intro w' hw'; obtain ⟨hc', hf'⟩ := bcell hw'; go_simp; try with_reducible rfl)
    simp only [Act.put, List.setIfInBounds_toArray, List.set_cons_succ, List.set_cons_zero]
    refine T2.tab_value ?u79 ?g79 ?h79 ?_
    case g79 => kernel_rfl
    case h79 => (intro w' hw'; obtain ⟨hc', hf'⟩ := bcell hw'; go_simp; try with_reducible rfl)
    simp only [Act.put, List.setIfInBounds_toArray, List.set_cons_succ, List.set_cons_zero]
    refine T2.tab_value ?u80 ?g80 ?h80 ?_
    case g80 => kernel_rfl
    case h80 => (intro w' hw'; obtain ⟨hc', hf'⟩ := bcell hw'; go_simp; try with_reducible rfl)
    simp only [Act.put, List.setIfInBounds_toArray, List.set_cons_succ, List.set_cons_zero]
    refine T2.tab_value ?u81 ?g81 ?h81 ?_
    case g81 => kernel_rfl
    case h81 => (intro w' hw'; obtain ⟨hc', hf'⟩ := bcell hw'; go_simp; try with_reducible rfl)
    simp only [Act.put, List.setIfInBounds_toArray, List.set_cons_succ, List.set_cons_zero]
    refine T2.tab_value ?u82 ?g82 ?h82 ?_
    case g82 => kernel_rfl
    case h82 => (intro w' hw'; obtain ⟨hc', hf'⟩ := bcell hw'; go_simp; try with_reducible rfl)
    simp only [Act.put, List.setIfInBounds_toArray, List.set_cons_succ, List.set_cons_zero]
    refine T2.tab_slice 2 ?o83 ?g83 ?h83 ?_
    case g83 => kernel_rfl
    case h83 => (intro w' hw'; obtain ⟨hc', hf'⟩ := bcell hw'; go_simp; try with_reducible rfl)
    intro nb w1 he1 hlz hsz' hbz
    have NB := Lib.hid hbz
    have NS := Lib.hid hsz'
    clear hbz hsz' hlz
    simp only [Act.put, List.setIfInBounds_toArray, List.set_cons_succ, List.set_cons_zero]
    have E1 := Lib.hid he1
    clear he1
    refine T2.wpTab_nil (fun wy hey => ?_)
    have EY : Hid (Ext V wy) := Ext.trans (Ext.trans (Ext.refl V) E1.out) hey
    have BY := Lib.hid (BV.out.trans (Below.mono EY.out BV.out.size))
    have RY := Lib.hid (RV.out.stay (EY.out.block _ RV.out.lt))
    have NY := Lib.hid ((hey.block nb NS.out).trans NB.out)
    have NLY := Lib.hid (Nat.lt_of_lt_of_le NS.out hey.size)
    clear hey hlV m0 m1 m2
    go_wp2_with fail
    refine (nodeC d H.out kMethodWithQualifiers t.text 0 ([x, y]) _ _ (In0 _) (row_two NY.out NLY.out (Jx.out.all HL.out BY.out) (Jy.out.all HL.out BY.out)) (fun b h => h) (fun z hz => HSZ.out.2 z (by rw [LE.out]; exact hz)) (by have := HSZ.out.1.2.2.2; rw [LE.out] at this; first | (simp; done) | simpa using this)).mono ?_
    rintro e wz ⟨kv, rfl, hL, hbz⟩
    obtain ⟨na, nc, rfl⟩ := hL.form
    have BZ := Lib.hid (BY.out.trans (hbz.mono BY.out.size))
    have RZ := Lib.hid (RY.out.stay (hbz.block _ RY.out.lt))
    have LZ := Lib.hid hL
    have hpy := RY.out.lt
    have HP := Lib.hid hpy
    clear hL hbz hpy
    have r0 := RZ.out.c0
    have r1 := RZ.out.c1
    have r2 := RZ.out.c2
    have r3 := RZ.out.c3
    have f0 := RZ.out.free 0
    have f1 := RZ.out.free 1
    have f2 := RZ.out.free 2
    have f3 := RZ.out.free 3
    go_wp2_with fail
    have hb := RZ.out.put ⟨kMethodWithQualifiers, t.text, 0, [x, y]⟩ (.slice na 2 nc)
    have s0 := hb.c0
    have s1 := hb.c1
    have s2 := hb.c2
    have s3 := hb.c3
    refine bodyPost_ret (v := .agg #[.string kMethodWithQualifiers, .string t.text, .int .i64 0, .slice na 2 nc]) (by simp [results, Tryz.results20, go_sem, s0, s1, s2, s3]) rfl ⟨_, agg_eq KE.out.symm rfl NE.out.symm, KidsS.mk HSZ.out.1 (by rw [LE.out]; exact put_move LZ.out HP.out BY.out.size), below_put BZ.out (Nat.le_refl _) _ _ _ _⟩
  · skip
    clear hk hn hl low hsz IH jx jy
    go_enter Tryz.func20, Tryz.ntmps20
    go_wp2_with fail
    refine (HKO.out _).mono ?_
    rintro e w' ⟨rfl, rfl⟩
    go_wp2_with fail
    refine T2.wp_region_tab 14 (TabF d kMethodWithQualifiers t.text 0 ([x, y]) (w.alloc (.cells #[.string ⟨#[]⟩, .string ⟨#[]⟩, .int .i64 0, .slice none 0 0] 24)).drew) (TabF.stable d _ _ _ _ _) (by kernel_rfl) (by kernel_rfl) ?_
    simp only [List.take_succ_cons, List.take_zero, List.drop_succ_cons, List.drop_zero]
    obtain ⟨V, hV⟩ : ∃ V, V = (w.alloc (.cells #[.string ⟨#[]⟩, .string ⟨#[]⟩, .int .i64 0, .slice none 0 0] 24)).drew := ⟨_, rfl⟩
    rw [← hV]
    have BV : Hid (Below w.heap.size w V) := by rw [hV]; exact (below1 w (.cells #[.string ⟨#[]⟩, .string ⟨#[]⟩, .int .i64 0, .slice none 0 0] 24)).drew
    have RV : Hid (BoxAt V w.heap.size Tree.nil (.slice none 0 0)) := by rw [hV]; exact R1.out
    have m0 : V.cell? ⟨b, 0, none⟩ = some (.iface px (.pointer (some ⟨bkx, 0, none⟩))) := cells_below BV.out _ _ _ d0
    have m1 : V.cell? ⟨b, 1, none⟩ = some (.iface py (.pointer (some ⟨bky, 0, none⟩))) := cells_below BV.out _ _ _ d1
    have m2 : V.cell? ⟨b, 2, none⟩ = some (.string t.text) := cells_below BV.out _ _ _ d2
    have hlV := World.block_lt_of_cell? V _ m0
    have HV := Lib.hid hV
    clear hV
    refine T2.tab_value ?u84 ?g84 ?h84 ?_
    case g84 => kernel_rfl
    case h84 => (intro w' hw'; obtain ⟨hc', hf'⟩ := bcell hw'; go_simp; try with_reducible rfl)
    simp only [Act.put, List.setIfInBounds_toArray, List.set_cons_succ, List.set_cons_zero]
    refine T2.tab_value ?u85 ?g85 ?h85 ?_
    case g85 => kernel_rfl
    case h85 => (intro w' hw'; obtain ⟨hc', hf'⟩ := bcell hw'; go_simp; try with_reducible rfl)
    simp only [Act.put, List.setIfInBounds_toArray, List.set_cons_succ, List.set_cons_zero]
    refine T2.tab_value ?u86 ?g86 ?h86 ?_
    case g86 => kernel_rfl
    case h86 => (intro w' hw'; obtain ⟨hc', hf'⟩ := bcell hw'; go_simp; try with_reducible rfl)
    simp only [Act.put, List.setIfInBounds_toArray, List.set_cons_succ, List.set_cons_zero]
    refine T2.tab_value ?u87 ?g87 ?h87 ?_
    case g87 => kernel_rfl
    case h87 => (intro w' hw'; obtain ⟨hc', hf'⟩ := bcell hw'; go_simp; try with_reducible rfl)
    simp only [Act.put, List.setIfInBounds_toArray, List.set_cons_succ, List.set_cons_zero]
    refine T2.tab_value ?u88 ?g88 ?h88 ?_
    case g88 => kernel_rfl
    case h88 => (intro w' hw'; obtain ⟨hc', hf'⟩ := bcell hw'; go_simp; try with_reducible rfl)
    simp only [Act.put, List.setIfInBounds_toArray, List.set_cons_succ, List.set_cons_zero]
    refine T2.tab_value ?u89 ?g89 ?h89 ?_
    case g89 => kernel_rfl
    case h89 => (intro w' hw'; obtain ⟨hc', hf'⟩ := bcell hw'; go_simp; try with_reducible rfl)
    simp only [Act.put, List.setIfInBounds_toArray, List.set_cons_succ, List.set_cons_zero]
    refine T2.tab_value ?u90 ?g90 ?h90 ?_
    case g90 => kernel_rfl
    case h90 => (intro w' hw'; obtain ⟨hc', hf'⟩ := bcell hw'; go_simp; try with_reducible rfl)
    simp only [Act.put, List.setIfInBounds_toArray, List.set_cons_succ, List.set_cons_zero]
    refine T2.tab_value ?u91 ?g91 ?h91 ?_
    case g91 => kernel_rfl
    case h91 => (intro w' hw'; obtain ⟨hc', hf'⟩ := bcell hw'; go_simp; try with_reducible rfl)
    simp only [Act.put, List.setIfInBounds_toArray, List.set_cons_succ, List.set_cons_zero]
    refine T2.tab_value ?u92 ?g92 ?h92 ?_
    case g92 => kernel_rfl
    case h92 => (intro w' hw'; obtain ⟨hc', hf'⟩ := bcell hw'; go_simp; try with_reducible rfl)
    simp only [Act.put, List.setIfInBounds_toArray, List.set_cons_succ, List.set_cons_zero]
    refine T2.tab_value ?u93 ?g93 ?h93 ?_
    case g93 => kernel_rfl
    case h93 => (intro w' hw'; obtain ⟨hc', hf'⟩ := bcell hw'; go_simp; try with_reducible rfl)
    simp only [Act.put, List.setIfInBounds_toArray, List.set_cons_succ, List.set_cons_zero]
    refine T2.tab_value ?u94 ?g94 ?h94 ?_
    case g94 => kernel_rfl
    case h94 => (intro w' hw'; obtain ⟨hc', hf'⟩ := bcell hw'; go_simp; try with_reducible rfl)
    simp only [Act.put, List.setIfInBounds_toArray, List.set_cons_succ, List.set_cons_zero]
    refine T2.tab_value ?u95 ?g95 ?h95 ?_
    case g95 => kernel_rfl
    case h95 => (intro w' hw'; obtain ⟨hc', hf'⟩ := bcell hw'; go_simp; try with_reducible rfl)
    simp only [Act.put, List.setIfInBounds_toArray, List.set_cons_succ, List.set_cons_zero]
    refine T2.tab_value ?u96 ?g96 ?h96 ?_
    case g96 => kernel_rfl
    case h96 => (intro w' hw'; obtain ⟨hc', hf'⟩ := bcell hw'; go_simp; try with_reducible rfl)
    simp only [Act.put, List.setIfInBounds_toArray, List.set_cons_succ, List.set_cons_zero]
    refine T2.tab_slice 2 ?o97 ?g97 ?h97 ?_
    case g97 => kernel_rfl
    case h97 => (intro w' hw'; obtain ⟨hc', hf'⟩ := bcell hw'; go_simp; try with_reducible rfl)
    intro nb w1 he1 hlz hsz' hbz
    have NB := Lib.hid hbz
    have NS := Lib.hid hsz'
    clear hbz hsz' hlz
    simp only [Act.put, List.setIfInBounds_toArray, List.set_cons_succ, List.set_cons_zero]
    have E1 := Lib.hid he1
    clear he1
    refine T2.wpTab_nil (fun wy hey => ?_)
    have EY : Hid (Ext V wy) := Ext.trans (Ext.trans (Ext.refl V) E1.out) hey
    have BY := Lib.hid (BV.out.trans (Below.mono EY.out BV.out.size))
    have RY := Lib.hid (RV.out.stay (EY.out.block _ RV.out.lt))
    have NY := Lib.hid ((hey.block nb NS.out).trans NB.out)
    have NLY := Lib.hid (Nat.lt_of_lt_of_le NS.out hey.size)
    clear hey hlV m0 m1 m2
    go_wp2_with fail
    refine (nodeC d H.out kMethodWithQualifiers t.text 0 ([x, y]) _ _ (In0 _) (row_two NY.out NLY.out (Jx.out.all HL.out BY.out) (Jy.out.all HL.out BY.out)) (fun b h => h) (fun z hz => HSZ.out.2 z (by rw [LE.out]; exact hz)) (by have := HSZ.out.1.2.2.2; rw [LE.out] at this; first | (simp; done) | simpa using this)).mono ?_
    rintro e wz ⟨kv, rfl, hL, hbz⟩
    obtain ⟨na, nc, rfl⟩ := hL.form
    have BZ := Lib.hid (BY.out.trans (hbz.mono BY.out.size))
    have RZ := Lib.hid (RY.out.stay (hbz.block _ RY.out.lt))
    have LZ := Lib.hid hL
    have hpy := RY.out.lt
    have HP := Lib.hid hpy
    clear hL hbz hpy
    have r0 := RZ.out.c0
    have r1 := RZ.out.c1
    have r2 := RZ.out.c2
    have r3 := RZ.out.c3
    have f0 := RZ.out.free 0
    have f1 := RZ.out.free 1
    have f2 := RZ.out.free 2
    have f3 := RZ.out.free 3
    go_wp2_with fail
    have hb := RZ.out.put ⟨kMethodWithQualifiers, t.text, 0, [x, y]⟩ (.slice na 2 nc)
    have s0 := hb.c0
    have s1 := hb.c1
    have s2 := hb.c2
    have s3 := hb.c3
    refine bodyPost_ret (v := .agg #[.string kMethodWithQualifiers, .string t.text, .int .i64 0, .slice na 2 nc]) (by simp [results, Tryz.results20, go_sem, s0, s1, s2, s3]) rfl ⟨_, agg_eq KE.out.symm rfl NE.out.symm, KidsS.mk HSZ.out.1 (by rw [LE.out]; exact put_move LZ.out HP.out BY.out.size), below_put BZ.out (Nat.le_refl _) _ _ _ _⟩

end Go.Proofs.YtlfbmpenekiigaaGreatDoor
