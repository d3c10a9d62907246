/- Copy of elements with no kids or one, with the closures of Rename; conditions: the element lies in memory, it is known what Copy makes of smaller ones. -/
import Derived.Test.YtlfbmpenekiigaaGreatDoorCopyA
import Derived.Test.YtlfbmpenekiigaaGreatDoorTab
namespace Go.Proofs.YtlfbmpenekiigaaGreatDoor
open Go.ChangeShapes Go.WideShapes Go.ChangeAt Go.RowKit
set_option linter.unusedVariables false

set_option maxRecDepth 100000 in
set_option maxHeartbeats 4000000 in
theorem copyName (f g : ByteArray) (pf pt ps : Nat) (d : Nat) (IH : CopyAll d) (w : World) (S : Nat → Prop) (t : Tree) (b : Nat) (hk : t.kind = kName) (hn : t.num = 0) (hl : t.kids = []) (hS : S b) (low : ∀ c, S c → c < w.heap.size) (he : Env w f g pf pt ps) (d0 : w.cell? ⟨b, 0, none⟩ = some (.string t.text)) :
    Calls Tryz.prog 86 #[.pointer (some ⟨b, 0, none⟩), fnV pf pt, skV ps] w (CopySaid S w (d + 1) t f g) := by
  have HPK : Hid (PtrK kName 36) := by show PtrK _ _; unfold PtrK leafTab unaryTab binaryTab listTab; simp
  have HE := Lib.hid he
  have HS := Lib.hid hS
  have HL := Lib.hid low
  have H := Lib.hid IH
  unfold fnV skV
  have KE := Lib.hid hk
  have LE := Lib.hid hl
  by_cases hh : t.text = f
  · have HH := Lib.hid hh
    clear IH he hS low hk hl hn hh
    go_enter Tryz.func86, Tryz.ntmps86
    go_wp2_with fail
    refine (skipC HPK.out b f g pf pt ps w HE.out).mono ?_
    rintro e w1 ⟨rfl, hb1⟩
    have B1 := Lib.hid hb1
    clear hb1
    go_wp2_with fail
    refine (fnYes b t.text f g pf pt ps w1 (HE.out.below B1.out) (cells_below B1.out _ _ _ d0) HH.out).mono ?_
    rintro e w2 ⟨b', rfl, hnew, hb', hb2⟩
    have B2 := Lib.hid (B1.out.trans (hb2.mono B1.out.size))
    have NW := Lib.hid hnew
    have HB := Lib.hid hb'
    clear hnew hb' hb2
    go_wp2_with fail
    go_ret
    refine ⟨B2.out, .inr ⟨.inl ⟨KE.out, HH.out⟩, _, _, rfl, ?_⟩⟩
    rw [ren_name KE.out HH.out]
    exact .inr ⟨_, _, _, rfl, .inr (NW.out.wide B1.out.size (Nat.le_refl _)), cells_of HB.out, .inl ⟨_, .head _, rfl, rfl, rfl⟩⟩
  · have HH := Lib.hid hh
    clear IH he hS low hk hl hn hh
    go_enter Tryz.func86, Tryz.ntmps86
    go_wp2_with fail
    refine (skipC HPK.out b f g pf pt ps w HE.out).mono ?_
    rintro e w1 ⟨rfl, hb1⟩
    have B1 := Lib.hid hb1
    clear hb1
    go_wp2_with fail
    refine (fnNo b t.text f g pf pt ps w1 (HE.out.below B1.out) (cells_below B1.out _ _ _ d0) HH.out).mono ?_
    rintro e w2 ⟨rfl, hb2⟩
    have B2 := Lib.hid (B1.out.trans (hb2.mono B1.out.size))
    clear hb2
    go_wp2_with fail
    go_ret
    refine ⟨B2.out, .inl ⟨?_, rfl⟩⟩
    rintro (h | ⟨x, hx, _⟩)
    · exact HH.out h.2
    · rw [LE.out] at hx; cases hx

set_option maxRecDepth 100000 in
set_option maxHeartbeats 4000000 in
theorem copyBuiltinType (f g : ByteArray) (pf pt ps : Nat) (d : Nat) (IH : CopyAll d) (w : World) (S : Nat → Prop) (t : Tree) (b : Nat) (hk : t.kind = kBuiltinType) (hl : t.kids = []) (hS : S b) (low : ∀ c, S c → c < w.heap.size) (he : Env w f g pf pt ps) :
    Calls Tryz.prog 89 #[.pointer (some ⟨b, 0, none⟩), fnV pf pt, skV ps] w (CopySaid S w (d + 1) t f g) := by
  have hta : ∀ (a : Option Addr) (w : World), (Instr.typeAssert (.iface 46 (.pointer a)) 33 36 true).run Tryz.prog w = .ok (.tuple #[.pointer none, .bool false]) w := fun a w => by kernel_rfl
  have HPK : Hid (PtrK kBuiltinType 46) := by show PtrK _ _; unfold PtrK leafTab unaryTab binaryTab listTab; simp
  have HE := Lib.hid he
  have HS := Lib.hid hS
  have HL := Lib.hid low
  have H := Lib.hid IH
  unfold fnV skV
  have KE := Lib.hid hk
  have LE := Lib.hid hl
  clear IH he hS low hk hl
  go_enter Tryz.func89, Tryz.ntmps89
  go_wp2_with fail
  refine (skipC HPK.out b f g pf pt ps w HE.out).mono ?_
  rintro e w1 ⟨rfl, hb1⟩
  have B1 := Lib.hid hb1
  clear hb1
  go_wp2_with fail
  refine (fnOther (k := kBuiltinType) hta b pf pt w1).mono ?_
  rintro e w2 ⟨rfl, hb2⟩
  have B2 := Lib.hid (B1.out.trans (hb2.mono B1.out.size))
  clear hb2
  go_wp2_with fail
  go_ret
  refine ⟨B2.out, .inl ⟨?_, rfl⟩⟩
  rintro (h | ⟨x, hx, _⟩)
  · rw [KE.out] at h; exact absurd h.1 (by decide)
  · rw [LE.out] at hx; cases hx

set_option maxRecDepth 100000 in
set_option maxHeartbeats 4000000 in
theorem copyOperator (f g : ByteArray) (pf pt ps : Nat) (d : Nat) (IH : CopyAll d) (w : World) (S : Nat → Prop) (t : Tree) (b : Nat) (hk : t.kind = kOperator) (hl : t.kids = []) (hS : S b) (low : ∀ c, S c → c < w.heap.size) (he : Env w f g pf pt ps) :
    Calls Tryz.prog 92 #[.pointer (some ⟨b, 0, none⟩), fnV pf pt, skV ps] w (CopySaid S w (d + 1) t f g) := by
  have hta : ∀ (a : Option Addr) (w : World), (Instr.typeAssert (.iface 48 (.pointer a)) 33 36 true).run Tryz.prog w = .ok (.tuple #[.pointer none, .bool false]) w := fun a w => by kernel_rfl
  have HPK : Hid (PtrK kOperator 48) := by show PtrK _ _; unfold PtrK leafTab unaryTab binaryTab listTab; simp
  have HE := Lib.hid he
  have HS := Lib.hid hS
  have HL := Lib.hid low
  have H := Lib.hid IH
  unfold fnV skV
  have KE := Lib.hid hk
  have LE := Lib.hid hl
  clear IH he hS low hk hl
  go_enter Tryz.func92, Tryz.ntmps92
  go_wp2_with fail
  refine (skipC HPK.out b f g pf pt ps w HE.out).mono ?_
  rintro e w1 ⟨rfl, hb1⟩
  have B1 := Lib.hid hb1
  clear hb1
  go_wp2_with fail
  refine (fnOther (k := kOperator) hta b pf pt w1).mono ?_
  rintro e w2 ⟨rfl, hb2⟩
  have B2 := Lib.hid (B1.out.trans (hb2.mono B1.out.size))
  clear hb2
  go_wp2_with fail
  go_ret
  refine ⟨B2.out, .inl ⟨?_, rfl⟩⟩
  rintro (h | ⟨x, hx, _⟩)
  · rw [KE.out] at h; exact absurd h.1 (by decide)
  · rw [LE.out] at hx; cases hx

set_option maxRecDepth 100000 in
set_option maxHeartbeats 4000000 in
theorem copyUnnamedType (f g : ByteArray) (pf pt ps : Nat) (d : Nat) (IH : CopyAll d) (w : World) (S : Nat → Prop) (t : Tree) (b : Nat) (hk : t.kind = kUnnamedType) (hl : t.kids = []) (hS : S b) (low : ∀ c, S c → c < w.heap.size) (he : Env w f g pf pt ps) :
    Calls Tryz.prog 170 #[.pointer (some ⟨b, 0, none⟩), fnV pf pt, skV ps] w (CopySaid S w (d + 1) t f g) := by
  have hta : ∀ (a : Option Addr) (w : World), (Instr.typeAssert (.iface 132 (.pointer a)) 33 36 true).run Tryz.prog w = .ok (.tuple #[.pointer none, .bool false]) w := fun a w => by kernel_rfl
  have HPK : Hid (PtrK kUnnamedType 132) := by show PtrK _ _; unfold PtrK leafTab unaryTab binaryTab listTab; simp
  have HE := Lib.hid he
  have HS := Lib.hid hS
  have HL := Lib.hid low
  have H := Lib.hid IH
  unfold fnV skV
  have KE := Lib.hid hk
  have LE := Lib.hid hl
  clear IH he hS low hk hl
  go_enter Tryz.func170, Tryz.ntmps170
  go_wp2_with fail
  refine (skipC HPK.out b f g pf pt ps w HE.out).mono ?_
  rintro e w1 ⟨rfl, hb1⟩
  have B1 := Lib.hid hb1
  clear hb1
  go_wp2_with fail
  refine (fnOther (k := kUnnamedType) hta b pf pt w1).mono ?_
  rintro e w2 ⟨rfl, hb2⟩
  have B2 := Lib.hid (B1.out.trans (hb2.mono B1.out.size))
  clear hb2
  go_wp2_with fail
  go_ret
  refine ⟨B2.out, .inl ⟨?_, rfl⟩⟩
  rintro (h | ⟨x, hx, _⟩)
  · rw [KE.out] at h; exact absurd h.1 (by decide)
  · rw [LE.out] at hx; cases hx

set_option maxRecDepth 100000 in
set_option maxHeartbeats 4000000 in
theorem copyConstructor (f g : ByteArray) (pf pt ps : Nat) (d : Nat) (IH : CopyAll d) (w : World) (S : Nat → Prop) (t : Tree) (b : Nat) (x : Tree) (u : Value) (hk : t.kind = kConstructor) (ht : t.text = ByteArray.empty) (hn : t.num = 0) (hl : t.kids = [x]) (jx : Job w S d x u) (hS : S b) (low : ∀ c, S c → c < w.heap.size) (he : Env w f g pf pt ps) (d0 : w.cell? ⟨b, 0, none⟩ = some (u)) (d1 : w.cell? ⟨b, 1, none⟩ = some (.nilIface)) :
    Calls Tryz.prog 95 #[.pointer (some ⟨b, 0, none⟩), fnV pf pt, skV ps] w (CopySaid S w (d + 1) t f g) := by
  have hta : ∀ (a : Option Addr) (w : World), (Instr.typeAssert (.iface 52 (.pointer a)) 33 36 true).run Tryz.prog w = .ok (.tuple #[.pointer none, .bool false]) w := fun a w => by kernel_rfl
  have HPK : Hid (PtrK kConstructor 52) := by show PtrK _ _; unfold PtrK leafTab unaryTab binaryTab listTab; simp
  have HE := Lib.hid he
  have HS := Lib.hid hS
  have HL := Lib.hid low
  have H := Lib.hid IH
  unfold fnV skV
  have KE := Lib.hid hk
  have LE := Lib.hid hl
  have NE := Lib.hid hn
  have TE := Lib.hid ht
  obtain ⟨px, bkx, rfl, hpx⟩ := jx.ast.ptr jx.kind
  obtain ⟨Fx, hTx⟩ := turnsC hpx
  have hax := hTx.ahead
  have hmx := hTx.met
  have hcx := hTx.call
  have Tx := Lib.hid hTx
  have Jx := Lib.hid jx
  clear IH he hS low hk hl hn ht jx hpx hTx
  go_enter Tryz.func95, Tryz.ntmps95
  go_wp2_with fail
  refine (skipC HPK.out b f g pf pt ps w HE.out).mono ?_
  rintro e w1 ⟨rfl, hb1⟩
  have B1 := Lib.hid hb1
  clear hb1
  have e0 := cells_below B1.out _ _ _ d0
  have e1 := cells_below B1.out _ _ _ d1
  go_wp2_with fail
  refine (H.out w1 S x _ f g pf pt ps (Jx.out.below B1.out) (HE.out.below B1.out) px bkx Fx rfl Tx.out).mono ?_
  rintro e w2 ⟨hb2, hr2⟩
  have B2 := Lib.hid (B1.out.trans (hb2.mono B1.out.size))
  have G2 := Lib.hid hb2
  clear e0 e1
  clear hb2
  have e0 := cells_below B2.out _ _ _ d0
  have e1 := cells_below B2.out _ _ _ d1
  rcases hr2 with ⟨hnox, rfl⟩ | ⟨hyesx, Px, cx, rfl, Ax⟩
  · have NOx := Lib.hid hnox
    clear hnox
    go_wp2_with fail
    refine (fnOther (k := kConstructor) hta b pf pt w2).mono ?_
    rintro e w3 ⟨rfl, hb3⟩
    have B3 := Lib.hid (B2.out.trans (hb3.mono B2.out.size))
    clear hb3 e0 e1
    go_wp2_with fail
    go_ret
    refine ⟨B3.out, .inl ⟨?_, rfl⟩⟩
    intro h
    rcases has_list (by rw [KE.out]; decide) LE.out h with h
    · exact NOx.out h
  · have YESx := Lib.hid hyesx
    have AAx := Lib.hid Ax
    clear hyesx Ax
    go_wp2_with fail
    refine (fnOther (k := kConstructor) hta _ pf pt _).mono ?_
    rintro e w3 ⟨rfl, hb3⟩
    have NB := Lib.hid (alloc_here (w := w2) (o := (.cells #[(.iface Px (.pointer (some ⟨cx, 0, none⟩))), .nilIface] 55)) rfl)
    have BX := Lib.hid (B2.out.trans ((below1 w2 (.cells #[(.iface Px (.pointer (some ⟨cx, 0, none⟩))), .nilIface] 55)).mono B2.out.size))
    have BZ := Lib.hid (BX.out.trans (hb3.mono BX.out.size))
    have GZ := Lib.hid hb3
    have GX := Lib.hid (below1 w2 (.cells #[(.iface Px (.pointer (some ⟨cx, 0, none⟩))), .nilIface] 55))
    clear hb3 e0 e1
    go_wp2_with fail
    go_ret
    refine ⟨BZ.out, .inr ⟨has_kid (by rw [LE.out]; simp) YESx.out, _, _, rfl, ?_⟩⟩
    rw [ren_other (by rw [KE.out]; decide)]
    exact .inr ⟨_, _, _, rfl, .inr ⟨B2.out.size, Nat.lt_of_lt_of_le (by simp) GZ.out.size⟩, cells_of ((GZ.out.block _ (by simp)).trans NB.out), .inr (.inr (.inr (.inl ⟨_, _, _, by rw [KE.out]; exact .head _, TE.out, NE.out, by rw [LE.out]; rfl, (by rw [ren_kind]; exact Jx.out.kind), (AstAt.carry AAx.out (fun c hc => Nat.lt_of_lt_of_le (HL.out c hc) B1.out.size) B1.out.size G2.out.size ((GX.out).trans (GZ.out.mono GX.out.size))), rfl⟩)))⟩

set_option maxRecDepth 100000 in
set_option maxHeartbeats 4000000 in
theorem copyDestructor (f g : ByteArray) (pf pt ps : Nat) (d : Nat) (IH : CopyAll d) (w : World) (S : Nat → Prop) (t : Tree) (b : Nat) (x : Tree) (u : Value) (hk : t.kind = kDestructor) (ht : t.text = ByteArray.empty) (hn : t.num = 0) (hl : t.kids = [x]) (jx : Job w S d x u) (hS : S b) (low : ∀ c, S c → c < w.heap.size) (he : Env w f g pf pt ps) (d0 : w.cell? ⟨b, 0, none⟩ = some (u)) :
    Calls Tryz.prog 98 #[.pointer (some ⟨b, 0, none⟩), fnV pf pt, skV ps] w (CopySaid S w (d + 1) t f g) := by
  have hta : ∀ (a : Option Addr) (w : World), (Instr.typeAssert (.iface 56 (.pointer a)) 33 36 true).run Tryz.prog w = .ok (.tuple #[.pointer none, .bool false]) w := fun a w => by kernel_rfl
  have HPK : Hid (PtrK kDestructor 56) := by show PtrK _ _; unfold PtrK leafTab unaryTab binaryTab listTab; simp
  have HE := Lib.hid he
  have HS := Lib.hid hS
  have HL := Lib.hid low
  have H := Lib.hid IH
  unfold fnV skV
  have KE := Lib.hid hk
  have LE := Lib.hid hl
  have NE := Lib.hid hn
  have TE := Lib.hid ht
  obtain ⟨px, bkx, rfl, hpx⟩ := jx.ast.ptr jx.kind
  obtain ⟨Fx, hTx⟩ := turnsC hpx
  have hax := hTx.ahead
  have hmx := hTx.met
  have hcx := hTx.call
  have Tx := Lib.hid hTx
  have Jx := Lib.hid jx
  clear IH he hS low hk hl hn ht jx hpx hTx
  go_enter Tryz.func98, Tryz.ntmps98
  go_wp2_with fail
  refine (skipC HPK.out b f g pf pt ps w HE.out).mono ?_
  rintro e w1 ⟨rfl, hb1⟩
  have B1 := Lib.hid hb1
  clear hb1
  have e0 := cells_below B1.out _ _ _ d0
  go_wp2_with fail
  refine (H.out w1 S x _ f g pf pt ps (Jx.out.below B1.out) (HE.out.below B1.out) px bkx Fx rfl Tx.out).mono ?_
  rintro e w2 ⟨hb2, hr2⟩
  have B2 := Lib.hid (B1.out.trans (hb2.mono B1.out.size))
  have G2 := Lib.hid hb2
  clear e0
  clear hb2
  have e0 := cells_below B2.out _ _ _ d0
  rcases hr2 with ⟨hnox, rfl⟩ | ⟨hyesx, Px, cx, rfl, Ax⟩
  · have NOx := Lib.hid hnox
    clear hnox
    go_wp2_with fail
    refine (fnOther (k := kDestructor) hta b pf pt w2).mono ?_
    rintro e w3 ⟨rfl, hb3⟩
    have B3 := Lib.hid (B2.out.trans (hb3.mono B2.out.size))
    clear hb3 e0
    go_wp2_with fail
    go_ret
    refine ⟨B3.out, .inl ⟨?_, rfl⟩⟩
    intro h
    rcases has_list (by rw [KE.out]; decide) LE.out h with h
    · exact NOx.out h
  · have YESx := Lib.hid hyesx
    have AAx := Lib.hid Ax
    clear hyesx Ax
    go_wp2_with fail
    refine (fnOther (k := kDestructor) hta _ pf pt _).mono ?_
    rintro e w3 ⟨rfl, hb3⟩
    have NB := Lib.hid (alloc_here (w := w2) (o := (.cells #[(.iface Px (.pointer (some ⟨cx, 0, none⟩)))] 58)) rfl)
    have BX := Lib.hid (B2.out.trans ((below1 w2 (.cells #[(.iface Px (.pointer (some ⟨cx, 0, none⟩)))] 58)).mono B2.out.size))
    have BZ := Lib.hid (BX.out.trans (hb3.mono BX.out.size))
    have GZ := Lib.hid hb3
    have GX := Lib.hid (below1 w2 (.cells #[(.iface Px (.pointer (some ⟨cx, 0, none⟩)))] 58))
    clear hb3 e0
    go_wp2_with fail
    go_ret
    refine ⟨BZ.out, .inr ⟨has_kid (by rw [LE.out]; simp) YESx.out, _, _, rfl, ?_⟩⟩
    rw [ren_other (by rw [KE.out]; decide)]
    exact .inr ⟨_, _, _, rfl, .inr ⟨B2.out.size, Nat.lt_of_lt_of_le (by simp) GZ.out.size⟩, cells_of ((GZ.out.block _ (by simp)).trans NB.out), .inr (.inr (.inr (.inl ⟨_, _, _, by rw [KE.out]; exact .tail _ (.head _), TE.out, NE.out, by rw [LE.out]; rfl, (by rw [ren_kind]; exact Jx.out.kind), (AstAt.carry AAx.out (fun c hc => Nat.lt_of_lt_of_le (HL.out c hc) B1.out.size) B1.out.size G2.out.size ((GX.out).trans (GZ.out.mono GX.out.size))), rfl⟩)))⟩

set_option maxRecDepth 100000 in
set_option maxHeartbeats 4000000 in
theorem copyPointerType (f g : ByteArray) (pf pt ps : Nat) (d : Nat) (IH : CopyAll d) (w : World) (S : Nat → Prop) (t : Tree) (b : Nat) (x : Tree) (u : Value) (hk : t.kind = kPointerType) (ht : t.text = ByteArray.empty) (hn : t.num = 0) (hl : t.kids = [x]) (jx : Job w S d x u) (hS : S b) (low : ∀ c, S c → c < w.heap.size) (he : Env w f g pf pt ps) (d0 : w.cell? ⟨b, 0, none⟩ = some (u)) :
    Calls Tryz.prog 113 #[.pointer (some ⟨b, 0, none⟩), fnV pf pt, skV ps] w (CopySaid S w (d + 1) t f g) := by
  have hta : ∀ (a : Option Addr) (w : World), (Instr.typeAssert (.iface 73 (.pointer a)) 33 36 true).run Tryz.prog w = .ok (.tuple #[.pointer none, .bool false]) w := fun a w => by kernel_rfl
  have HPK : Hid (PtrK kPointerType 73) := by show PtrK _ _; unfold PtrK leafTab unaryTab binaryTab listTab; simp
  have HE := Lib.hid he
  have HS := Lib.hid hS
  have HL := Lib.hid low
  have H := Lib.hid IH
  unfold fnV skV
  have KE := Lib.hid hk
  have LE := Lib.hid hl
  have NE := Lib.hid hn
  have TE := Lib.hid ht
  obtain ⟨px, bkx, rfl, hpx⟩ := jx.ast.ptr jx.kind
  obtain ⟨Fx, hTx⟩ := turnsC hpx
  have hax := hTx.ahead
  have hmx := hTx.met
  have hcx := hTx.call
  have Tx := Lib.hid hTx
  have Jx := Lib.hid jx
  clear IH he hS low hk hl hn ht jx hpx hTx
  go_enter Tryz.func113, Tryz.ntmps113
  go_wp2_with fail
  refine (skipC HPK.out b f g pf pt ps w HE.out).mono ?_
  rintro e w1 ⟨rfl, hb1⟩
  have B1 := Lib.hid hb1
  clear hb1
  have e0 := cells_below B1.out _ _ _ d0
  go_wp2_with fail
  refine (H.out w1 S x _ f g pf pt ps (Jx.out.below B1.out) (HE.out.below B1.out) px bkx Fx rfl Tx.out).mono ?_
  rintro e w2 ⟨hb2, hr2⟩
  have B2 := Lib.hid (B1.out.trans (hb2.mono B1.out.size))
  have G2 := Lib.hid hb2
  clear e0
  clear hb2
  have e0 := cells_below B2.out _ _ _ d0
  rcases hr2 with ⟨hnox, rfl⟩ | ⟨hyesx, Px, cx, rfl, Ax⟩
  · have NOx := Lib.hid hnox
    clear hnox
    go_wp2_with fail
    refine (fnOther (k := kPointerType) hta b pf pt w2).mono ?_
    rintro e w3 ⟨rfl, hb3⟩
    have B3 := Lib.hid (B2.out.trans (hb3.mono B2.out.size))
    clear hb3 e0
    go_wp2_with fail
    go_ret
    refine ⟨B3.out, .inl ⟨?_, rfl⟩⟩
    intro h
    rcases has_list (by rw [KE.out]; decide) LE.out h with h
    · exact NOx.out h
  · have YESx := Lib.hid hyesx
    have AAx := Lib.hid Ax
    clear hyesx Ax
    go_wp2_with fail
    refine (fnOther (k := kPointerType) hta _ pf pt _).mono ?_
    rintro e w3 ⟨rfl, hb3⟩
    have NB := Lib.hid (alloc_here (w := w2) (o := (.cells #[(.iface Px (.pointer (some ⟨cx, 0, none⟩)))] 75)) rfl)
    have BX := Lib.hid (B2.out.trans ((below1 w2 (.cells #[(.iface Px (.pointer (some ⟨cx, 0, none⟩)))] 75)).mono B2.out.size))
    have BZ := Lib.hid (BX.out.trans (hb3.mono BX.out.size))
    have GZ := Lib.hid hb3
    have GX := Lib.hid (below1 w2 (.cells #[(.iface Px (.pointer (some ⟨cx, 0, none⟩)))] 75))
    clear hb3 e0
    go_wp2_with fail
    go_ret
    refine ⟨BZ.out, .inr ⟨has_kid (by rw [LE.out]; simp) YESx.out, _, _, rfl, ?_⟩⟩
    rw [ren_other (by rw [KE.out]; decide)]
    exact .inr ⟨_, _, _, rfl, .inr ⟨B2.out.size, Nat.lt_of_lt_of_le (by simp) GZ.out.size⟩, cells_of ((GZ.out.block _ (by simp)).trans NB.out), .inr (.inr (.inr (.inl ⟨_, _, _, by rw [KE.out]; exact .tail _ (.tail _ (.head _)), TE.out, NE.out, by rw [LE.out]; rfl, (by rw [ren_kind]; exact Jx.out.kind), (AstAt.carry AAx.out (fun c hc => Nat.lt_of_lt_of_le (HL.out c hc) B1.out.size) B1.out.size G2.out.size ((GX.out).trans (GZ.out.mono GX.out.size))), rfl⟩)))⟩

set_option maxRecDepth 100000 in
set_option maxHeartbeats 4000000 in
theorem copyReferenceType (f g : ByteArray) (pf pt ps : Nat) (d : Nat) (IH : CopyAll d) (w : World) (S : Nat → Prop) (t : Tree) (b : Nat) (x : Tree) (u : Value) (hk : t.kind = kReferenceType) (ht : t.text = ByteArray.empty) (hn : t.num = 0) (hl : t.kids = [x]) (jx : Job w S d x u) (hS : S b) (low : ∀ c, S c → c < w.heap.size) (he : Env w f g pf pt ps) (d0 : w.cell? ⟨b, 0, none⟩ = some (u)) :
    Calls Tryz.prog 116 #[.pointer (some ⟨b, 0, none⟩), fnV pf pt, skV ps] w (CopySaid S w (d + 1) t f g) := by
  have hta : ∀ (a : Option Addr) (w : World), (Instr.typeAssert (.iface 76 (.pointer a)) 33 36 true).run Tryz.prog w = .ok (.tuple #[.pointer none, .bool false]) w := fun a w => by kernel_rfl
  have HPK : Hid (PtrK kReferenceType 76) := by show PtrK _ _; unfold PtrK leafTab unaryTab binaryTab listTab; simp
  have HE := Lib.hid he
  have HS := Lib.hid hS
  have HL := Lib.hid low
  have H := Lib.hid IH
  unfold fnV skV
  have KE := Lib.hid hk
  have LE := Lib.hid hl
  have NE := Lib.hid hn
  have TE := Lib.hid ht
  obtain ⟨px, bkx, rfl, hpx⟩ := jx.ast.ptr jx.kind
  obtain ⟨Fx, hTx⟩ := turnsC hpx
  have hax := hTx.ahead
  have hmx := hTx.met
  have hcx := hTx.call
  have Tx := Lib.hid hTx
  have Jx := Lib.hid jx
  clear IH he hS low hk hl hn ht jx hpx hTx
  go_enter Tryz.func116, Tryz.ntmps116
  go_wp2_with fail
  refine (skipC HPK.out b f g pf pt ps w HE.out).mono ?_
  rintro e w1 ⟨rfl, hb1⟩
  have B1 := Lib.hid hb1
  clear hb1
  have e0 := cells_below B1.out _ _ _ d0
  go_wp2_with fail
  refine (H.out w1 S x _ f g pf pt ps (Jx.out.below B1.out) (HE.out.below B1.out) px bkx Fx rfl Tx.out).mono ?_
  rintro e w2 ⟨hb2, hr2⟩
  have B2 := Lib.hid (B1.out.trans (hb2.mono B1.out.size))
  have G2 := Lib.hid hb2
  clear e0
  clear hb2
  have e0 := cells_below B2.out _ _ _ d0
  rcases hr2 with ⟨hnox, rfl⟩ | ⟨hyesx, Px, cx, rfl, Ax⟩
  · have NOx := Lib.hid hnox
    clear hnox
    go_wp2_with fail
    refine (fnOther (k := kReferenceType) hta b pf pt w2).mono ?_
    rintro e w3 ⟨rfl, hb3⟩
    have B3 := Lib.hid (B2.out.trans (hb3.mono B2.out.size))
    clear hb3 e0
    go_wp2_with fail
    go_ret
    refine ⟨B3.out, .inl ⟨?_, rfl⟩⟩
    intro h
    rcases has_list (by rw [KE.out]; decide) LE.out h with h
    · exact NOx.out h
  · have YESx := Lib.hid hyesx
    have AAx := Lib.hid Ax
    clear hyesx Ax
    go_wp2_with fail
    refine (fnOther (k := kReferenceType) hta _ pf pt _).mono ?_
    rintro e w3 ⟨rfl, hb3⟩
    have NB := Lib.hid (alloc_here (w := w2) (o := (.cells #[(.iface Px (.pointer (some ⟨cx, 0, none⟩)))] 77)) rfl)
    have BX := Lib.hid (B2.out.trans ((below1 w2 (.cells #[(.iface Px (.pointer (some ⟨cx, 0, none⟩)))] 77)).mono B2.out.size))
    have BZ := Lib.hid (BX.out.trans (hb3.mono BX.out.size))
    have GZ := Lib.hid hb3
    have GX := Lib.hid (below1 w2 (.cells #[(.iface Px (.pointer (some ⟨cx, 0, none⟩)))] 77))
    clear hb3 e0
    go_wp2_with fail
    go_ret
    refine ⟨BZ.out, .inr ⟨has_kid (by rw [LE.out]; simp) YESx.out, _, _, rfl, ?_⟩⟩
    rw [ren_other (by rw [KE.out]; decide)]
    exact .inr ⟨_, _, _, rfl, .inr ⟨B2.out.size, Nat.lt_of_lt_of_le (by simp) GZ.out.size⟩, cells_of ((GZ.out.block _ (by simp)).trans NB.out), .inr (.inr (.inr (.inl ⟨_, _, _, by rw [KE.out]; exact .tail _ (.tail _ (.tail _ (.head _))), TE.out, NE.out, by rw [LE.out]; rfl, (by rw [ren_kind]; exact Jx.out.kind), (AstAt.carry AAx.out (fun c hc => Nat.lt_of_lt_of_le (HL.out c hc) B1.out.size) B1.out.size G2.out.size ((GX.out).trans (GZ.out.mono GX.out.size))), rfl⟩)))⟩

set_option maxRecDepth 100000 in
set_option maxHeartbeats 4000000 in
theorem copyRvalueReferenceType (f g : ByteArray) (pf pt ps : Nat) (d : Nat) (IH : CopyAll d) (w : World) (S : Nat → Prop) (t : Tree) (b : Nat) (x : Tree) (u : Value) (hk : t.kind = kRvalueReferenceType) (ht : t.text = ByteArray.empty) (hn : t.num = 0) (hl : t.kids = [x]) (jx : Job w S d x u) (hS : S b) (low : ∀ c, S c → c < w.heap.size) (he : Env w f g pf pt ps) (d0 : w.cell? ⟨b, 0, none⟩ = some (u)) :
    Calls Tryz.prog 119 #[.pointer (some ⟨b, 0, none⟩), fnV pf pt, skV ps] w (CopySaid S w (d + 1) t f g) := by
  have hta : ∀ (a : Option Addr) (w : World), (Instr.typeAssert (.iface 78 (.pointer a)) 33 36 true).run Tryz.prog w = .ok (.tuple #[.pointer none, .bool false]) w := fun a w => by kernel_rfl
  have HPK : Hid (PtrK kRvalueReferenceType 78) := by show PtrK _ _; unfold PtrK leafTab unaryTab binaryTab listTab; simp
  have HE := Lib.hid he
  have HS := Lib.hid hS
  have HL := Lib.hid low
  have H := Lib.hid IH
  unfold fnV skV
  have KE := Lib.hid hk
  have LE := Lib.hid hl
  have NE := Lib.hid hn
  have TE := Lib.hid ht
  obtain ⟨px, bkx, rfl, hpx⟩ := jx.ast.ptr jx.kind
  obtain ⟨Fx, hTx⟩ := turnsC hpx
  have hax := hTx.ahead
  have hmx := hTx.met
  have hcx := hTx.call
  have Tx := Lib.hid hTx
  have Jx := Lib.hid jx
  clear IH he hS low hk hl hn ht jx hpx hTx
  go_enter Tryz.func119, Tryz.ntmps119
  go_wp2_with fail
  refine (skipC HPK.out b f g pf pt ps w HE.out).mono ?_
  rintro e w1 ⟨rfl, hb1⟩
  have B1 := Lib.hid hb1
  clear hb1
  have e0 := cells_below B1.out _ _ _ d0
  go_wp2_with fail
  refine (H.out w1 S x _ f g pf pt ps (Jx.out.below B1.out) (HE.out.below B1.out) px bkx Fx rfl Tx.out).mono ?_
  rintro e w2 ⟨hb2, hr2⟩
  have B2 := Lib.hid (B1.out.trans (hb2.mono B1.out.size))
  have G2 := Lib.hid hb2
  clear e0
  clear hb2
  have e0 := cells_below B2.out _ _ _ d0
  rcases hr2 with ⟨hnox, rfl⟩ | ⟨hyesx, Px, cx, rfl, Ax⟩
  · have NOx := Lib.hid hnox
    clear hnox
    go_wp2_with fail
    refine (fnOther (k := kRvalueReferenceType) hta b pf pt w2).mono ?_
    rintro e w3 ⟨rfl, hb3⟩
    have B3 := Lib.hid (B2.out.trans (hb3.mono B2.out.size))
    clear hb3 e0
    go_wp2_with fail
    go_ret
    refine ⟨B3.out, .inl ⟨?_, rfl⟩⟩
    intro h
    rcases has_list (by rw [KE.out]; decide) LE.out h with h
    · exact NOx.out h
  · have YESx := Lib.hid hyesx
    have AAx := Lib.hid Ax
    clear hyesx Ax
    go_wp2_with fail
    refine (fnOther (k := kRvalueReferenceType) hta _ pf pt _).mono ?_
    rintro e w3 ⟨rfl, hb3⟩
    have NB := Lib.hid (alloc_here (w := w2) (o := (.cells #[(.iface Px (.pointer (some ⟨cx, 0, none⟩)))] 79)) rfl)
    have BX := Lib.hid (B2.out.trans ((below1 w2 (.cells #[(.iface Px (.pointer (some ⟨cx, 0, none⟩)))] 79)).mono B2.out.size))
    have BZ := Lib.hid (BX.out.trans (hb3.mono BX.out.size))
    have GZ := Lib.hid hb3
    have GX := Lib.hid (below1 w2 (.cells #[(.iface Px (.pointer (some ⟨cx, 0, none⟩)))] 79))
    clear hb3 e0
    go_wp2_with fail
    go_ret
    refine ⟨BZ.out, .inr ⟨has_kid (by rw [LE.out]; simp) YESx.out, _, _, rfl, ?_⟩⟩
    rw [ren_other (by rw [KE.out]; decide)]
    exact .inr ⟨_, _, _, rfl, .inr ⟨B2.out.size, Nat.lt_of_lt_of_le (by simp) GZ.out.size⟩, cells_of ((GZ.out.block _ (by simp)).trans NB.out), .inr (.inr (.inr (.inl ⟨_, _, _, by rw [KE.out]; exact .tail _ (.tail _ (.tail _ (.tail _ (.head _)))), TE.out, NE.out, by rw [LE.out]; rfl, (by rw [ren_kind]; exact Jx.out.kind), (AstAt.carry AAx.out (fun c hc => Nat.lt_of_lt_of_le (HL.out c hc) B1.out.size) B1.out.size G2.out.size ((GX.out).trans (GZ.out.mono GX.out.size))), rfl⟩)))⟩

set_option maxRecDepth 100000 in
set_option maxHeartbeats 4000000 in
theorem copyComplexType (f g : ByteArray) (pf pt ps : Nat) (d : Nat) (IH : CopyAll d) (w : World) (S : Nat → Prop) (t : Tree) (b : Nat) (x : Tree) (u : Value) (hk : t.kind = kComplexType) (ht : t.text = ByteArray.empty) (hn : t.num = 0) (hl : t.kids = [x]) (jx : Job w S d x u) (hS : S b) (low : ∀ c, S c → c < w.heap.size) (he : Env w f g pf pt ps) (d0 : w.cell? ⟨b, 0, none⟩ = some (u)) :
    Calls Tryz.prog 122 #[.pointer (some ⟨b, 0, none⟩), fnV pf pt, skV ps] w (CopySaid S w (d + 1) t f g) := by
  have hta : ∀ (a : Option Addr) (w : World), (Instr.typeAssert (.iface 80 (.pointer a)) 33 36 true).run Tryz.prog w = .ok (.tuple #[.pointer none, .bool false]) w := fun a w => by kernel_rfl
  have HPK : Hid (PtrK kComplexType 80) := by show PtrK _ _; unfold PtrK leafTab unaryTab binaryTab listTab; simp
  have HE := Lib.hid he
  have HS := Lib.hid hS
  have HL := Lib.hid low
  have H := Lib.hid IH
  unfold fnV skV
  have KE := Lib.hid hk
  have LE := Lib.hid hl
  have NE := Lib.hid hn
  have TE := Lib.hid ht
  obtain ⟨px, bkx, rfl, hpx⟩ := jx.ast.ptr jx.kind
  obtain ⟨Fx, hTx⟩ := turnsC hpx
  have hax := hTx.ahead
  have hmx := hTx.met
  have hcx := hTx.call
  have Tx := Lib.hid hTx
  have Jx := Lib.hid jx
  clear IH he hS low hk hl hn ht jx hpx hTx
  go_enter Tryz.func122, Tryz.ntmps122
  go_wp2_with fail
  refine (skipC HPK.out b f g pf pt ps w HE.out).mono ?_
  rintro e w1 ⟨rfl, hb1⟩
  have B1 := Lib.hid hb1
  clear hb1
  have e0 := cells_below B1.out _ _ _ d0
  go_wp2_with fail
  refine (H.out w1 S x _ f g pf pt ps (Jx.out.below B1.out) (HE.out.below B1.out) px bkx Fx rfl Tx.out).mono ?_
  rintro e w2 ⟨hb2, hr2⟩
  have B2 := Lib.hid (B1.out.trans (hb2.mono B1.out.size))
  have G2 := Lib.hid hb2
  clear e0
  clear hb2
  have e0 := cells_below B2.out _ _ _ d0
  rcases hr2 with ⟨hnox, rfl⟩ | ⟨hyesx, Px, cx, rfl, Ax⟩
  · have NOx := Lib.hid hnox
    clear hnox
    go_wp2_with fail
    refine (fnOther (k := kComplexType) hta b pf pt w2).mono ?_
    rintro e w3 ⟨rfl, hb3⟩
    have B3 := Lib.hid (B2.out.trans (hb3.mono B2.out.size))
    clear hb3 e0
    go_wp2_with fail
    go_ret
    refine ⟨B3.out, .inl ⟨?_, rfl⟩⟩
    intro h
    rcases has_list (by rw [KE.out]; decide) LE.out h with h
    · exact NOx.out h
  · have YESx := Lib.hid hyesx
    have AAx := Lib.hid Ax
    clear hyesx Ax
    go_wp2_with fail
    refine (fnOther (k := kComplexType) hta _ pf pt _).mono ?_
    rintro e w3 ⟨rfl, hb3⟩
    have NB := Lib.hid (alloc_here (w := w2) (o := (.cells #[(.iface Px (.pointer (some ⟨cx, 0, none⟩)))] 81)) rfl)
    have BX := Lib.hid (B2.out.trans ((below1 w2 (.cells #[(.iface Px (.pointer (some ⟨cx, 0, none⟩)))] 81)).mono B2.out.size))
    have BZ := Lib.hid (BX.out.trans (hb3.mono BX.out.size))
    have GZ := Lib.hid hb3
    have GX := Lib.hid (below1 w2 (.cells #[(.iface Px (.pointer (some ⟨cx, 0, none⟩)))] 81))
    clear hb3 e0
    go_wp2_with fail
    go_ret
    refine ⟨BZ.out, .inr ⟨has_kid (by rw [LE.out]; simp) YESx.out, _, _, rfl, ?_⟩⟩
    rw [ren_other (by rw [KE.out]; decide)]
    exact .inr ⟨_, _, _, rfl, .inr ⟨B2.out.size, Nat.lt_of_lt_of_le (by simp) GZ.out.size⟩, cells_of ((GZ.out.block _ (by simp)).trans NB.out), .inr (.inr (.inr (.inl ⟨_, _, _, by rw [KE.out]; exact .tail _ (.tail _ (.tail _ (.tail _ (.tail _ (.head _))))), TE.out, NE.out, by rw [LE.out]; rfl, (by rw [ren_kind]; exact Jx.out.kind), (AstAt.carry AAx.out (fun c hc => Nat.lt_of_lt_of_le (HL.out c hc) B1.out.size) B1.out.size G2.out.size ((GX.out).trans (GZ.out.mono GX.out.size))), rfl⟩)))⟩

set_option maxRecDepth 100000 in
set_option maxHeartbeats 4000000 in
theorem copyImaginaryType (f g : ByteArray) (pf pt ps : Nat) (d : Nat) (IH : CopyAll d) (w : World) (S : Nat → Prop) (t : Tree) (b : Nat) (x : Tree) (u : Value) (hk : t.kind = kImaginaryType) (ht : t.text = ByteArray.empty) (hn : t.num = 0) (hl : t.kids = [x]) (jx : Job w S d x u) (hS : S b) (low : ∀ c, S c → c < w.heap.size) (he : Env w f g pf pt ps) (d0 : w.cell? ⟨b, 0, none⟩ = some (u)) :
    Calls Tryz.prog 125 #[.pointer (some ⟨b, 0, none⟩), fnV pf pt, skV ps] w (CopySaid S w (d + 1) t f g) := by
  have hta : ∀ (a : Option Addr) (w : World), (Instr.typeAssert (.iface 82 (.pointer a)) 33 36 true).run Tryz.prog w = .ok (.tuple #[.pointer none, .bool false]) w := fun a w => by kernel_rfl
  have HPK : Hid (PtrK kImaginaryType 82) := by show PtrK _ _; unfold PtrK leafTab unaryTab binaryTab listTab; simp
  have HE := Lib.hid he
  have HS := Lib.hid hS
  have HL := Lib.hid low
  have H := Lib.hid IH
  unfold fnV skV
  have KE := Lib.hid hk
  have LE := Lib.hid hl
  have NE := Lib.hid hn
  have TE := Lib.hid ht
  obtain ⟨px, bkx, rfl, hpx⟩ := jx.ast.ptr jx.kind
  obtain ⟨Fx, hTx⟩ := turnsC hpx
  have hax := hTx.ahead
  have hmx := hTx.met
  have hcx := hTx.call
  have Tx := Lib.hid hTx
  have Jx := Lib.hid jx
  clear IH he hS low hk hl hn ht jx hpx hTx
  go_enter Tryz.func125, Tryz.ntmps125
  go_wp2_with fail
  refine (skipC HPK.out b f g pf pt ps w HE.out).mono ?_
  rintro e w1 ⟨rfl, hb1⟩
  have B1 := Lib.hid hb1
  clear hb1
  have e0 := cells_below B1.out _ _ _ d0
  go_wp2_with fail
  refine (H.out w1 S x _ f g pf pt ps (Jx.out.below B1.out) (HE.out.below B1.out) px bkx Fx rfl Tx.out).mono ?_
  rintro e w2 ⟨hb2, hr2⟩
  have B2 := Lib.hid (B1.out.trans (hb2.mono B1.out.size))
  have G2 := Lib.hid hb2
  clear e0
  clear hb2
  have e0 := cells_below B2.out _ _ _ d0
  rcases hr2 with ⟨hnox, rfl⟩ | ⟨hyesx, Px, cx, rfl, Ax⟩
  · have NOx := Lib.hid hnox
    clear hnox
    go_wp2_with fail
    refine (fnOther (k := kImaginaryType) hta b pf pt w2).mono ?_
    rintro e w3 ⟨rfl, hb3⟩
    have B3 := Lib.hid (B2.out.trans (hb3.mono B2.out.size))
    clear hb3 e0
    go_wp2_with fail
    go_ret
    refine ⟨B3.out, .inl ⟨?_, rfl⟩⟩
    intro h
    rcases has_list (by rw [KE.out]; decide) LE.out h with h
    · exact NOx.out h
  · have YESx := Lib.hid hyesx
    have AAx := Lib.hid Ax
    clear hyesx Ax
    go_wp2_with fail
    refine (fnOther (k := kImaginaryType) hta _ pf pt _).mono ?_
    rintro e w3 ⟨rfl, hb3⟩
    have NB := Lib.hid (alloc_here (w := w2) (o := (.cells #[(.iface Px (.pointer (some ⟨cx, 0, none⟩)))] 83)) rfl)
    have BX := Lib.hid (B2.out.trans ((below1 w2 (.cells #[(.iface Px (.pointer (some ⟨cx, 0, none⟩)))] 83)).mono B2.out.size))
    have BZ := Lib.hid (BX.out.trans (hb3.mono BX.out.size))
    have GZ := Lib.hid hb3
    have GX := Lib.hid (below1 w2 (.cells #[(.iface Px (.pointer (some ⟨cx, 0, none⟩)))] 83))
    clear hb3 e0
    go_wp2_with fail
    go_ret
    refine ⟨BZ.out, .inr ⟨has_kid (by rw [LE.out]; simp) YESx.out, _, _, rfl, ?_⟩⟩
    rw [ren_other (by rw [KE.out]; decide)]
    exact .inr ⟨_, _, _, rfl, .inr ⟨B2.out.size, Nat.lt_of_lt_of_le (by simp) GZ.out.size⟩, cells_of ((GZ.out.block _ (by simp)).trans NB.out), .inr (.inr (.inr (.inl ⟨_, _, _, by rw [KE.out]; exact .tail _ (.tail _ (.tail _ (.tail _ (.tail _ (.tail _ (.head _)))))), TE.out, NE.out, by rw [LE.out]; rfl, (by rw [ren_kind]; exact Jx.out.kind), (AstAt.carry AAx.out (fun c hc => Nat.lt_of_lt_of_le (HL.out c hc) B1.out.size) B1.out.size G2.out.size ((GX.out).trans (GZ.out.mono GX.out.size))), rfl⟩)))⟩

set_option maxRecDepth 100000 in
set_option maxHeartbeats 4000000 in
theorem copyCast (f g : ByteArray) (pf pt ps : Nat) (d : Nat) (IH : CopyAll d) (w : World) (S : Nat → Prop) (t : Tree) (b : Nat) (x : Tree) (u : Value) (hk : t.kind = kCast) (ht : t.text = ByteArray.empty) (hn : t.num = 0) (hl : t.kids = [x]) (jx : Job w S d x u) (hS : S b) (low : ∀ c, S c → c < w.heap.size) (he : Env w f g pf pt ps) (d0 : w.cell? ⟨b, 0, none⟩ = some (u)) :
    Calls Tryz.prog 185 #[.pointer (some ⟨b, 0, none⟩), fnV pf pt, skV ps] w (CopySaid S w (d + 1) t f g) := by
  have hta : ∀ (a : Option Addr) (w : World), (Instr.typeAssert (.iface 147 (.pointer a)) 33 36 true).run Tryz.prog w = .ok (.tuple #[.pointer none, .bool false]) w := fun a w => by kernel_rfl
  have HPK : Hid (PtrK kCast 147) := by show PtrK _ _; unfold PtrK leafTab unaryTab binaryTab listTab; simp
  have HE := Lib.hid he
  have HS := Lib.hid hS
  have HL := Lib.hid low
  have H := Lib.hid IH
  unfold fnV skV
  have KE := Lib.hid hk
  have LE := Lib.hid hl
  have NE := Lib.hid hn
  have TE := Lib.hid ht
  obtain ⟨px, bkx, rfl, hpx⟩ := jx.ast.ptr jx.kind
  obtain ⟨Fx, hTx⟩ := turnsC hpx
  have hax := hTx.ahead
  have hmx := hTx.met
  have hcx := hTx.call
  have Tx := Lib.hid hTx
  have Jx := Lib.hid jx
  clear IH he hS low hk hl hn ht jx hpx hTx
  go_enter Tryz.func185, Tryz.ntmps185
  go_wp2_with fail
  refine (skipC HPK.out b f g pf pt ps w HE.out).mono ?_
  rintro e w1 ⟨rfl, hb1⟩
  have B1 := Lib.hid hb1
  clear hb1
  have e0 := cells_below B1.out _ _ _ d0
  go_wp2_with fail
  refine (H.out w1 S x _ f g pf pt ps (Jx.out.below B1.out) (HE.out.below B1.out) px bkx Fx rfl Tx.out).mono ?_
  rintro e w2 ⟨hb2, hr2⟩
  have B2 := Lib.hid (B1.out.trans (hb2.mono B1.out.size))
  have G2 := Lib.hid hb2
  clear e0
  clear hb2
  have e0 := cells_below B2.out _ _ _ d0
  rcases hr2 with ⟨hnox, rfl⟩ | ⟨hyesx, Px, cx, rfl, Ax⟩
  · have NOx := Lib.hid hnox
    clear hnox
    go_wp2_with fail
    refine (fnOther (k := kCast) hta b pf pt w2).mono ?_
    rintro e w3 ⟨rfl, hb3⟩
    have B3 := Lib.hid (B2.out.trans (hb3.mono B2.out.size))
    clear hb3 e0
    go_wp2_with fail
    go_ret
    refine ⟨B3.out, .inl ⟨?_, rfl⟩⟩
    intro h
    rcases has_list (by rw [KE.out]; decide) LE.out h with h
    · exact NOx.out h
  · have YESx := Lib.hid hyesx
    have AAx := Lib.hid Ax
    clear hyesx Ax
    go_wp2_with fail
    refine (fnOther (k := kCast) hta _ pf pt _).mono ?_
    rintro e w3 ⟨rfl, hb3⟩
    have NB := Lib.hid (alloc_here (w := w2) (o := (.cells #[(.iface Px (.pointer (some ⟨cx, 0, none⟩)))] 149)) rfl)
    have BX := Lib.hid (B2.out.trans ((below1 w2 (.cells #[(.iface Px (.pointer (some ⟨cx, 0, none⟩)))] 149)).mono B2.out.size))
    have BZ := Lib.hid (BX.out.trans (hb3.mono BX.out.size))
    have GZ := Lib.hid hb3
    have GX := Lib.hid (below1 w2 (.cells #[(.iface Px (.pointer (some ⟨cx, 0, none⟩)))] 149))
    clear hb3 e0
    go_wp2_with fail
    go_ret
    refine ⟨BZ.out, .inr ⟨has_kid (by rw [LE.out]; simp) YESx.out, _, _, rfl, ?_⟩⟩
    rw [ren_other (by rw [KE.out]; decide)]
    exact .inr ⟨_, _, _, rfl, .inr ⟨B2.out.size, Nat.lt_of_lt_of_le (by simp) GZ.out.size⟩, cells_of ((GZ.out.block _ (by simp)).trans NB.out), .inr (.inr (.inr (.inl ⟨_, _, _, by rw [KE.out]; exact .tail _ (.tail _ (.tail _ (.tail _ (.tail _ (.tail _ (.tail _ (.head _))))))), TE.out, NE.out, by rw [LE.out]; rfl, (by rw [ren_kind]; exact Jx.out.kind), (AstAt.carry AAx.out (fun c hc => Nat.lt_of_lt_of_le (HL.out c hc) B1.out.size) B1.out.size G2.out.size ((GX.out).trans (GZ.out.mono GX.out.size))), rfl⟩)))⟩

set_option maxRecDepth 100000 in
set_option maxHeartbeats 4000000 in
theorem copyLiteral (f g : ByteArray) (pf pt ps : Nat) (d : Nat) (IH : CopyAll d) (w : World) (S : Nat → Prop) (t : Tree) (b : Nat) (x : Tree) (u : Value) (hk : t.kind = kLiteral) (hn : t.num = 0 ∨ t.num = 1) (hl : t.kids = [x]) (jx : Job w S d x u) (hS : S b) (low : ∀ c, S c → c < w.heap.size) (he : Env w f g pf pt ps) (d0 : w.cell? ⟨b, 0, none⟩ = some (u)) (d1 : w.cell? ⟨b, 1, none⟩ = some (.string t.text)) (d2 : w.cell? ⟨b, 2, none⟩ = some (.bool (t.num == 1))) :
    Calls Tryz.prog 158 #[.pointer (some ⟨b, 0, none⟩), fnV pf pt, skV ps] w (CopySaid S w (d + 1) t f g) := by
  have hta : ∀ (a : Option Addr) (w : World), (Instr.typeAssert (.iface 119 (.pointer a)) 33 36 true).run Tryz.prog w = .ok (.tuple #[.pointer none, .bool false]) w := fun a w => by kernel_rfl
  have HPK : Hid (PtrK kLiteral 119) := by show PtrK _ _; unfold PtrK leafTab unaryTab binaryTab listTab; simp
  have HE := Lib.hid he
  have HS := Lib.hid hS
  have HL := Lib.hid low
  have H := Lib.hid IH
  unfold fnV skV
  have KE := Lib.hid hk
  have LE := Lib.hid hl
  have NE := Lib.hid hn
  obtain ⟨px, bkx, rfl, hpx⟩ := jx.ast.ptr jx.kind
  obtain ⟨Fx, hTx⟩ := turnsC hpx
  have hax := hTx.ahead
  have hmx := hTx.met
  have hcx := hTx.call
  have Tx := Lib.hid hTx
  have Jx := Lib.hid jx
  clear IH he hS low hk hl hn jx hpx hTx
  go_enter Tryz.func158, Tryz.ntmps158
  go_wp2_with fail
  refine (skipC HPK.out b f g pf pt ps w HE.out).mono ?_
  rintro e w1 ⟨rfl, hb1⟩
  have B1 := Lib.hid hb1
  clear hb1
  have e0 := cells_below B1.out _ _ _ d0
  have e1 := cells_below B1.out _ _ _ d1
  have e2 := cells_below B1.out _ _ _ d2
  go_wp2_with fail
  refine (H.out w1 S x _ f g pf pt ps (Jx.out.below B1.out) (HE.out.below B1.out) px bkx Fx rfl Tx.out).mono ?_
  rintro e w2 ⟨hb2, hr2⟩
  have B2 := Lib.hid (B1.out.trans (hb2.mono B1.out.size))
  have G2 := Lib.hid hb2
  clear e0 e1 e2
  clear hb2
  have e0 := cells_below B2.out _ _ _ d0
  have e1 := cells_below B2.out _ _ _ d1
  have e2 := cells_below B2.out _ _ _ d2
  rcases hr2 with ⟨hnox, rfl⟩ | ⟨hyesx, Px, cx, rfl, Ax⟩
  · have NOx := Lib.hid hnox
    clear hnox
    go_wp2_with fail
    refine (fnOther (k := kLiteral) hta b pf pt w2).mono ?_
    rintro e w3 ⟨rfl, hb3⟩
    have B3 := Lib.hid (B2.out.trans (hb3.mono B2.out.size))
    clear hb3 e0 e1 e2
    go_wp2_with fail
    go_ret
    refine ⟨B3.out, .inl ⟨?_, rfl⟩⟩
    intro h
    rcases has_list (by rw [KE.out]; decide) LE.out h with h
    · exact NOx.out h
  · have YESx := Lib.hid hyesx
    have AAx := Lib.hid Ax
    clear hyesx Ax
    have hlb := World.block_lt_of_cell? w2 _ e0
    go_wp2_with fail
    refine wp_region_tab 11 (fun _ _ _ _ => True) (fun _ _ _ _ _ _ _ => trivial) (by kernel_rfl) (by kernel_rfl) ?_
    simp only [List.take_succ_cons, List.take_zero, List.drop_succ_cons, List.drop_zero]
    obtain ⟨W, hW⟩ : ∃ W, W = w2.drew := ⟨_, rfl⟩
    rw [← hW]
    have BW : Hid (Below w2.heap.size w2 W) := by rw [hW]; exact (Below.refl w2.heap.size w2).drew
    have HWS : Hid (W.heap.size = w2.heap.size) := by rw [hW]; rfl
    have m0 : W.cell? ⟨b, 0, none⟩ = some (.iface px (.pointer (some ⟨bkx, 0, none⟩))) := (cells_below BW.out _ _ _ e0)
    have m1 : W.cell? ⟨b, 1, none⟩ = some (.string t.text) := (cells_below BW.out _ _ _ e1)
    have m2 : W.cell? ⟨b, 2, none⟩ = some (.bool (t.num == 1)) := (cells_below BW.out _ _ _ e2)
    have hlW : b < W.heap.size := by rw [HWS.out]; exact hlb
    clear e0 e1 e2 hW hlb
    refine tab_value ?u1 ?g1 ?h1 ?_
    case g1 => kernel_rfl
    case h1 => (intro w' hw'; obtain ⟨hc', hf'⟩ := bcell hw'; go_simp; try with_reducible rfl)
    simp only [Act.put, List.setIfInBounds_toArray, List.set_cons_succ, List.set_cons_zero]
    refine tab_value ?u2 ?g2 ?h2 ?_
    case g2 => kernel_rfl
    case h2 => (intro w' hw'; obtain ⟨hc', hf'⟩ := bcell hw'; go_simp; try with_reducible rfl)
    simp only [Act.put, List.setIfInBounds_toArray, List.set_cons_succ, List.set_cons_zero]
    refine tab_value ?u3 ?g3 ?h3 ?_
    case g3 => kernel_rfl
    case h3 => (intro w' hw'; obtain ⟨hc', hf'⟩ := bcell hw'; go_simp; try with_reducible rfl)
    simp only [Act.put, List.setIfInBounds_toArray, List.set_cons_succ, List.set_cons_zero]
    refine tab_value ?u4 ?g4 ?h4 ?_
    case g4 => kernel_rfl
    case h4 => (intro w' hw'; obtain ⟨hc', hf'⟩ := bcell hw'; go_simp; try with_reducible rfl)
    simp only [Act.put, List.setIfInBounds_toArray, List.set_cons_succ, List.set_cons_zero]
    refine tab_value ?u5 ?g5 ?h5 ?_
    case g5 => kernel_rfl
    case h5 => (intro w' hw'; obtain ⟨hc', hf'⟩ := bcell hw'; go_simp; try with_reducible rfl)
    simp only [Act.put, List.setIfInBounds_toArray, List.set_cons_succ, List.set_cons_zero]
    refine tab_value ?u6 ?g6 ?h6 ?_
    case g6 => kernel_rfl
    case h6 => (intro w' hw'; obtain ⟨hc', hf'⟩ := bcell hw'; go_simp; try with_reducible rfl)
    simp only [Act.put, List.setIfInBounds_toArray, List.set_cons_succ, List.set_cons_zero]
    refine tab_value ?u7 ?g7 ?h7 ?_
    case g7 => kernel_rfl
    case h7 => (intro w' hw'; obtain ⟨hc', hf'⟩ := bcell hw'; go_simp; try with_reducible rfl)
    simp only [Act.put, List.setIfInBounds_toArray, List.set_cons_succ, List.set_cons_zero]
    refine tab_value ?u8 ?g8 ?h8 ?_
    case g8 => kernel_rfl
    case h8 => (intro w' hw'; obtain ⟨hc', hf'⟩ := bcell hw'; go_simp; try with_reducible rfl)
    simp only [Act.put, List.setIfInBounds_toArray, List.set_cons_succ, List.set_cons_zero]
    refine tab_value ?u9 ?g9 ?h9 ?_
    case g9 => kernel_rfl
    case h9 => (intro w' hw'; obtain ⟨hc', hf'⟩ := bcell hw'; go_simp; try with_reducible rfl)
    simp only [Act.put, List.setIfInBounds_toArray, List.set_cons_succ, List.set_cons_zero]
    refine tab_value ?u10 ?g10 ?h10 ?_
    case g10 => kernel_rfl
    case h10 => (intro w' hw'; obtain ⟨hc', hf'⟩ := bcell hw'; go_simp; try with_reducible rfl)
    simp only [Act.put, List.setIfInBounds_toArray, List.set_cons_succ, List.set_cons_zero]
    refine tab_box ?o11 ?g11 ?h11 ?_
    case g11 => kernel_rfl
    case h11 => (intro w' hw'; obtain ⟨hc', hf'⟩ := bcell hw'; go_simp; try with_reducible rfl)
    intro bz wz hez hlz hsz hbz
    simp only [Act.put, List.setIfInBounds_toArray, List.set_cons_succ, List.set_cons_zero]
    refine wpTab_nil (fun wy hey => ?_)
    have EY : Hid (Below w2.heap.size w2 wy) := by have := HWS.out; have h1 : Below w2.heap.size W wz := hez.mono (by omega); exact (BW.out.trans h1).trans (hey.mono (by omega))
    have NB := Lib.hid ((hey.block bz hsz).trans hbz)
    have NZ : Hid (w2.heap.size ≤ bz ∧ bz < wy.heap.size) := ⟨by have := HWS.out; omega, Nat.lt_of_lt_of_le hsz hey.size⟩
    clear hez hlz hsz hbz hey
    go_wp2_with fail
    refine (fnOther (k := kLiteral) hta _ pf pt _).mono ?_
    rintro e w3 ⟨rfl, hb3⟩
    have BX := Lib.hid (B2.out.trans (EY.out.mono B2.out.size))
    have BZ := Lib.hid (BX.out.trans (hb3.mono BX.out.size))
    have GZ := Lib.hid hb3
    clear hb3
    go_wp2_with fail
    go_ret
    refine ⟨BZ.out, .inr ⟨has_kid (by rw [LE.out]; simp) YESx.out, _, _, rfl, ?_⟩⟩
    rw [ren_other (by rw [KE.out]; decide)]
    exact .inr ⟨_, _, _, rfl, .inr ⟨Nat.le_trans B2.out.size NZ.out.1, Nat.lt_of_lt_of_le NZ.out.2 GZ.out.size⟩, cells_of ((GZ.out.block _ NZ.out.2).trans NB.out), .inr (.inr (.inr (.inr (.inl ⟨_, _, KE.out, rfl, NE.out, by rw [LE.out]; rfl, (by rw [ren_kind]; exact Jx.out.kind), (AstAt.carry AAx.out (fun c hc => Nat.lt_of_lt_of_le (HL.out c hc) B1.out.size) B1.out.size G2.out.size (EY.out.trans (GZ.out.mono EY.out.size))), rfl⟩))))⟩

end Go.Proofs.YtlfbmpenekiigaaGreatDoor
