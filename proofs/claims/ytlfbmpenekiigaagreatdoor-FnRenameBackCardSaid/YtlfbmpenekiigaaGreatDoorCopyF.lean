/- Copy of the other elements with two kids, with the closures of Rename; conditions: the element lies in memory, it is known what Copy makes of smaller ones. -/
import Derived.Test.YtlfbmpenekiigaaGreatDoorCopyA
import Derived.Test.YtlfbmpenekiigaaGreatDoorTab
namespace Go.Proofs.YtlfbmpenekiigaaGreatDoor
open Go.ChangeShapes Go.WideShapes Go.ChangeAt Go.RowKit
set_option linter.unusedVariables false

set_option maxRecDepth 100000 in
set_option maxHeartbeats 4000000 in
theorem copyVectorType (f g : ByteArray) (pf pt ps : Nat) (d : Nat) (IH : CopyAll d) (w : World) (S : Nat → Prop) (t : Tree) (b : Nat) (x y : Tree) (u v : Value) (hk : t.kind = kVectorType) (ht : t.text = ByteArray.empty) (hn : t.num = 0) (hl : t.kids = [x, y]) (jx : Job w S d x u) (jy : Job w S d y v) (hS : S b) (low : ∀ c, S c → c < w.heap.size) (he : Env w f g pf pt ps) (d0 : w.cell? ⟨b, 0, none⟩ = some (u)) (d1 : w.cell? ⟨b, 1, none⟩ = some (v)) :
    Calls Tryz.prog 143 #[.pointer (some ⟨b, 0, none⟩), fnV pf pt, skV ps] w (CopySaid S w (d + 1) t f g) := by
  have hta : ∀ (a : Option Addr) (w : World), (Instr.typeAssert (.iface 104 (.pointer a)) 33 36 true).run Tryz.prog w = .ok (.tuple #[.pointer none, .bool false]) w := fun a w => by kernel_rfl
  have HPK : Hid (PtrK kVectorType 104) := by show PtrK _ _; unfold PtrK leafTab unaryTab binaryTab listTab; simp
  have HE := Lib.hid he
  have HS := Lib.hid hS
  have HL := Lib.hid low
  have H := Lib.hid IH
  unfold fnV skV
  have KE := Lib.hid hk
  have LE := Lib.hid hl
  have NE := Lib.hid hn
  have TE := Lib.hid ht
  obtain ⟨px, bkx, rfl, hpx⟩ := jx.ast.ptr jx.kind
  obtain ⟨Fx, hTx⟩ := turnsC hpx
  have hax := hTx.ahead
  have hmx := hTx.met
  have hcx := hTx.call
  have Tx := Lib.hid hTx
  have Jx := Lib.hid jx
  obtain ⟨py, bky, rfl, hpy⟩ := jy.ast.ptr jy.kind
  obtain ⟨Fy, hTy⟩ := turnsC hpy
  have hay := hTy.ahead
  have hmy := hTy.met
  have hcy := hTy.call
  have Ty := Lib.hid hTy
  have Jy := Lib.hid jy
  clear IH he hS low hk hl hn ht jx hpx hTx jy hpy hTy
  go_enter Tryz.func143, Tryz.ntmps143
  go_wp2_with fail
  refine (skipC HPK.out b f g pf pt ps w HE.out).mono ?_
  rintro e w1 ⟨rfl, hb1⟩
  have B1 := Lib.hid hb1
  clear hb1
  have e0 := cells_below B1.out _ _ _ d0
  have e1 := cells_below B1.out _ _ _ d1
  go_wp2_with fail
  refine (H.out w1 S x _ f g pf pt ps (Jx.out.below B1.out) (HE.out.below B1.out) px bkx Fx rfl Tx.out).mono ?_
  rintro e w2 ⟨hb2, hr2⟩
  have B2 := Lib.hid (B1.out.trans (hb2.mono B1.out.size))
  have G2 := Lib.hid hb2
  clear e0 e1
  clear hb2
  have e0 := cells_below B2.out _ _ _ d0
  have e1 := cells_below B2.out _ _ _ d1
  rcases hr2 with ⟨hnox, rfl⟩ | ⟨hyesx, Px, cx, rfl, Ax⟩
  · have NOx := Lib.hid hnox
    clear hnox
    go_wp2_with fail
    refine (H.out w2 S y _ f g pf pt ps (Jy.out.below B2.out) (HE.out.below B2.out) py bky Fy rfl Ty.out).mono ?_
    rintro e w3 ⟨hb3, hr3⟩
    have B3 := Lib.hid (B2.out.trans (hb3.mono B2.out.size))
    have G3 := Lib.hid hb3
    clear e0 e1
    clear hb3
    have e0 := cells_below B3.out _ _ _ d0
    have e1 := cells_below B3.out _ _ _ d1
    rcases hr3 with ⟨hnoy, rfl⟩ | ⟨hyesy, Py, cy, rfl, Ay⟩
    · have NOy := Lib.hid hnoy
      clear hnoy
      go_wp2_with fail
      refine (fnOther (k := kVectorType) hta b pf pt w3).mono ?_
      rintro e w4 ⟨rfl, hb4⟩
      have B4 := Lib.hid (B3.out.trans (hb4.mono B3.out.size))
      clear hb4 e0 e1
      go_wp2_with fail
      go_ret
      refine ⟨B4.out, .inl ⟨?_, rfl⟩⟩
      intro h
      rcases has_list (by rw [KE.out]; decide) LE.out h with h | h
      · exact NOx.out h
      · exact NOy.out h
    · have YESy := Lib.hid hyesy
      have AAy := Lib.hid Ay
      clear hyesy Ay
      go_wp2_with fail
      refine (fnOther (k := kVectorType) hta _ pf pt _).mono ?_
      rintro e w4 ⟨rfl, hb4⟩
      have NB := Lib.hid (alloc_here (w := w3) (o := (.cells #[(.iface px (.pointer (some ⟨bkx, 0, none⟩))), (.iface Py (.pointer (some ⟨cy, 0, none⟩)))] 106)) rfl)
      have BX := Lib.hid (B3.out.trans ((below1 w3 (.cells #[(.iface px (.pointer (some ⟨bkx, 0, none⟩))), (.iface Py (.pointer (some ⟨cy, 0, none⟩)))] 106)).mono B3.out.size))
      have BZ := Lib.hid (BX.out.trans (hb4.mono BX.out.size))
      have GZ := Lib.hid hb4
      have GX := Lib.hid (below1 w3 (.cells #[(.iface px (.pointer (some ⟨bkx, 0, none⟩))), (.iface Py (.pointer (some ⟨cy, 0, none⟩)))] 106))
      clear hb4 e0 e1
      go_wp2_with fail
      go_ret
      refine ⟨BZ.out, .inr ⟨has_kid (by rw [LE.out]; simp) YESy.out, _, _, rfl, ?_⟩⟩
      rw [ren_other (by rw [KE.out]; decide)]
      exact .inr ⟨_, _, _, rfl, .inr ⟨B3.out.size, Nat.lt_of_lt_of_le (by simp) GZ.out.size⟩, cells_of ((GZ.out.block _ (by simp)).trans NB.out), .inr (.inr (.inr (.inr (.inr (.inl ⟨_, _, _, _, _, by rw [KE.out]; exact .tail _ (.tail _ (.tail _ (.tail _ (.head _)))), TE.out, NE.out, by rw [LE.out]; rfl, (by rw [ren_kind]; exact Jx.out.kind), (by rw [ren_kind]; exact Jy.out.kind), (by rw [ren_none _ _ _ _ NOx.out]; exact Jx.out.ast.kept HL.out BZ.out), (AstAt.carry AAy.out (fun c hc => Nat.lt_of_lt_of_le (HL.out c hc) B2.out.size) B2.out.size G3.out.size ((GX.out).trans (GZ.out.mono GX.out.size))), rfl⟩)))))⟩
  · have YESx := Lib.hid hyesx
    have AAx := Lib.hid Ax
    clear hyesx Ax
    go_wp2_with fail
    refine (H.out w2 S y _ f g pf pt ps (Jy.out.below B2.out) (HE.out.below B2.out) py bky Fy rfl Ty.out).mono ?_
    rintro e w3 ⟨hb3, hr3⟩
    have B3 := Lib.hid (B2.out.trans (hb3.mono B2.out.size))
    have G3 := Lib.hid hb3
    clear e0 e1
    clear hb3
    have e0 := cells_below B3.out _ _ _ d0
    have e1 := cells_below B3.out _ _ _ d1
    rcases hr3 with ⟨hnoy, rfl⟩ | ⟨hyesy, Py, cy, rfl, Ay⟩
    · have NOy := Lib.hid hnoy
      clear hnoy
      go_wp2_with fail
      refine (fnOther (k := kVectorType) hta _ pf pt _).mono ?_
      rintro e w4 ⟨rfl, hb4⟩
      have NB := Lib.hid (alloc_here (w := w3) (o := (.cells #[(.iface Px (.pointer (some ⟨cx, 0, none⟩))), (.iface py (.pointer (some ⟨bky, 0, none⟩)))] 106)) rfl)
      have BX := Lib.hid (B3.out.trans ((below1 w3 (.cells #[(.iface Px (.pointer (some ⟨cx, 0, none⟩))), (.iface py (.pointer (some ⟨bky, 0, none⟩)))] 106)).mono B3.out.size))
      have BZ := Lib.hid (BX.out.trans (hb4.mono BX.out.size))
      have GZ := Lib.hid hb4
      have GX := Lib.hid (below1 w3 (.cells #[(.iface Px (.pointer (some ⟨cx, 0, none⟩))), (.iface py (.pointer (some ⟨bky, 0, none⟩)))] 106))
      clear hb4 e0 e1
      go_wp2_with fail
      go_ret
      refine ⟨BZ.out, .inr ⟨has_kid (by rw [LE.out]; simp) YESx.out, _, _, rfl, ?_⟩⟩
      rw [ren_other (by rw [KE.out]; decide)]
      exact .inr ⟨_, _, _, rfl, .inr ⟨B3.out.size, Nat.lt_of_lt_of_le (by simp) GZ.out.size⟩, cells_of ((GZ.out.block _ (by simp)).trans NB.out), .inr (.inr (.inr (.inr (.inr (.inl ⟨_, _, _, _, _, by rw [KE.out]; exact .tail _ (.tail _ (.tail _ (.tail _ (.head _)))), TE.out, NE.out, by rw [LE.out]; rfl, (by rw [ren_kind]; exact Jx.out.kind), (by rw [ren_kind]; exact Jy.out.kind), (AstAt.carry AAx.out (fun c hc => Nat.lt_of_lt_of_le (HL.out c hc) B1.out.size) B1.out.size G2.out.size (G3.out.trans (((GX.out).trans (GZ.out.mono GX.out.size)).mono G3.out.size))), (by rw [ren_none _ _ _ _ NOy.out]; exact Jy.out.ast.kept HL.out BZ.out), rfl⟩)))))⟩
    · have YESy := Lib.hid hyesy
      have AAy := Lib.hid Ay
      clear hyesy Ay
      go_wp2_with fail
      refine (fnOther (k := kVectorType) hta _ pf pt _).mono ?_
      rintro e w4 ⟨rfl, hb4⟩
      have NB := Lib.hid (alloc_here (w := w3) (o := (.cells #[(.iface Px (.pointer (some ⟨cx, 0, none⟩))), (.iface Py (.pointer (some ⟨cy, 0, none⟩)))] 106)) rfl)
      have BX := Lib.hid (B3.out.trans ((below1 w3 (.cells #[(.iface Px (.pointer (some ⟨cx, 0, none⟩))), (.iface Py (.pointer (some ⟨cy, 0, none⟩)))] 106)).mono B3.out.size))
      have BZ := Lib.hid (BX.out.trans (hb4.mono BX.out.size))
      have GZ := Lib.hid hb4
      have GX := Lib.hid (below1 w3 (.cells #[(.iface Px (.pointer (some ⟨cx, 0, none⟩))), (.iface Py (.pointer (some ⟨cy, 0, none⟩)))] 106))
      clear hb4 e0 e1
      go_wp2_with fail
      go_ret
      refine ⟨BZ.out, .inr ⟨has_kid (by rw [LE.out]; simp) YESx.out, _, _, rfl, ?_⟩⟩
      rw [ren_other (by rw [KE.out]; decide)]
      exact .inr ⟨_, _, _, rfl, .inr ⟨B3.out.size, Nat.lt_of_lt_of_le (by simp) GZ.out.size⟩, cells_of ((GZ.out.block _ (by simp)).trans NB.out), .inr (.inr (.inr (.inr (.inr (.inl ⟨_, _, _, _, _, by rw [KE.out]; exact .tail _ (.tail _ (.tail _ (.tail _ (.head _)))), TE.out, NE.out, by rw [LE.out]; rfl, (by rw [ren_kind]; exact Jx.out.kind), (by rw [ren_kind]; exact Jy.out.kind), (AstAt.carry AAx.out (fun c hc => Nat.lt_of_lt_of_le (HL.out c hc) B1.out.size) B1.out.size G2.out.size (G3.out.trans (((GX.out).trans (GZ.out.mono GX.out.size)).mono G3.out.size))), (AstAt.carry AAy.out (fun c hc => Nat.lt_of_lt_of_le (HL.out c hc) B2.out.size) B2.out.size G3.out.size ((GX.out).trans (GZ.out.mono GX.out.size))), rfl⟩)))))⟩

set_option maxRecDepth 100000 in
set_option maxHeartbeats 4000000 in
theorem copyPtrMem (f g : ByteArray) (pf pt ps : Nat) (d : Nat) (IH : CopyAll d) (w : World) (S : Nat → Prop) (t : Tree) (b : Nat) (x y : Tree) (u v : Value) (hk : t.kind = kPtrMem) (ht : t.text = ByteArray.empty) (hn : t.num = 0) (hl : t.kids = [x, y]) (jx : Job w S d x u) (jy : Job w S d y v) (hS : S b) (low : ∀ c, S c → c < w.heap.size) (he : Env w f g pf pt ps) (d0 : w.cell? ⟨b, 0, none⟩ = some (u)) (d1 : w.cell? ⟨b, 1, none⟩ = some (v)) :
    Calls Tryz.prog 146 #[.pointer (some ⟨b, 0, none⟩), fnV pf pt, skV ps] w (CopySaid S w (d + 1) t f g) := by
  have hta : ∀ (a : Option Addr) (w : World), (Instr.typeAssert (.iface 107 (.pointer a)) 33 36 true).run Tryz.prog w = .ok (.tuple #[.pointer none, .bool false]) w := fun a w => by kernel_rfl
  have HPK : Hid (PtrK kPtrMem 107) := by show PtrK _ _; unfold PtrK leafTab unaryTab binaryTab listTab; simp
  have HE := Lib.hid he
  have HS := Lib.hid hS
  have HL := Lib.hid low
  have H := Lib.hid IH
  unfold fnV skV
  have KE := Lib.hid hk
  have LE := Lib.hid hl
  have NE := Lib.hid hn
  have TE := Lib.hid ht
  obtain ⟨px, bkx, rfl, hpx⟩ := jx.ast.ptr jx.kind
  obtain ⟨Fx, hTx⟩ := turnsC hpx
  have hax := hTx.ahead
  have hmx := hTx.met
  have hcx := hTx.call
  have Tx := Lib.hid hTx
  have Jx := Lib.hid jx
  obtain ⟨py, bky, rfl, hpy⟩ := jy.ast.ptr jy.kind
  obtain ⟨Fy, hTy⟩ := turnsC hpy
  have hay := hTy.ahead
  have hmy := hTy.met
  have hcy := hTy.call
  have Ty := Lib.hid hTy
  have Jy := Lib.hid jy
  clear IH he hS low hk hl hn ht jx hpx hTx jy hpy hTy
  go_enter Tryz.func146, Tryz.ntmps146
  go_wp2_with fail
  refine (skipC HPK.out b f g pf pt ps w HE.out).mono ?_
  rintro e w1 ⟨rfl, hb1⟩
  have B1 := Lib.hid hb1
  clear hb1
  have e0 := cells_below B1.out _ _ _ d0
  have e1 := cells_below B1.out _ _ _ d1
  go_wp2_with fail
  refine (H.out w1 S x _ f g pf pt ps (Jx.out.below B1.out) (HE.out.below B1.out) px bkx Fx rfl Tx.out).mono ?_
  rintro e w2 ⟨hb2, hr2⟩
  have B2 := Lib.hid (B1.out.trans (hb2.mono B1.out.size))
  have G2 := Lib.hid hb2
  clear e0 e1
  clear hb2
  have e0 := cells_below B2.out _ _ _ d0
  have e1 := cells_below B2.out _ _ _ d1
  rcases hr2 with ⟨hnox, rfl⟩ | ⟨hyesx, Px, cx, rfl, Ax⟩
  · have NOx := Lib.hid hnox
    clear hnox
    go_wp2_with fail
    refine (H.out w2 S y _ f g pf pt ps (Jy.out.below B2.out) (HE.out.below B2.out) py bky Fy rfl Ty.out).mono ?_
    rintro e w3 ⟨hb3, hr3⟩
    have B3 := Lib.hid (B2.out.trans (hb3.mono B2.out.size))
    have G3 := Lib.hid hb3
    clear e0 e1
    clear hb3
    have e0 := cells_below B3.out _ _ _ d0
    have e1 := cells_below B3.out _ _ _ d1
    rcases hr3 with ⟨hnoy, rfl⟩ | ⟨hyesy, Py, cy, rfl, Ay⟩
    · have NOy := Lib.hid hnoy
      clear hnoy
      go_wp2_with fail
      refine (fnOther (k := kPtrMem) hta b pf pt w3).mono ?_
      rintro e w4 ⟨rfl, hb4⟩
      have B4 := Lib.hid (B3.out.trans (hb4.mono B3.out.size))
      clear hb4 e0 e1
      go_wp2_with fail
      go_ret
      refine ⟨B4.out, .inl ⟨?_, rfl⟩⟩
      intro h
      rcases has_list (by rw [KE.out]; decide) LE.out h with h | h
      · exact NOx.out h
      · exact NOy.out h
    · have YESy := Lib.hid hyesy
      have AAy := Lib.hid Ay
      clear hyesy Ay
      go_wp2_with fail
      refine (fnOther (k := kPtrMem) hta _ pf pt _).mono ?_
      rintro e w4 ⟨rfl, hb4⟩
      have NB := Lib.hid (alloc_here (w := w3) (o := (.cells #[(.iface px (.pointer (some ⟨bkx, 0, none⟩))), (.iface Py (.pointer (some ⟨cy, 0, none⟩)))] 109)) rfl)
      have BX := Lib.hid (B3.out.trans ((below1 w3 (.cells #[(.iface px (.pointer (some ⟨bkx, 0, none⟩))), (.iface Py (.pointer (some ⟨cy, 0, none⟩)))] 109)).mono B3.out.size))
      have BZ := Lib.hid (BX.out.trans (hb4.mono BX.out.size))
      have GZ := Lib.hid hb4
      have GX := Lib.hid (below1 w3 (.cells #[(.iface px (.pointer (some ⟨bkx, 0, none⟩))), (.iface Py (.pointer (some ⟨cy, 0, none⟩)))] 109))
      clear hb4 e0 e1
      go_wp2_with fail
      go_ret
      refine ⟨BZ.out, .inr ⟨has_kid (by rw [LE.out]; simp) YESy.out, _, _, rfl, ?_⟩⟩
      rw [ren_other (by rw [KE.out]; decide)]
      exact .inr ⟨_, _, _, rfl, .inr ⟨B3.out.size, Nat.lt_of_lt_of_le (by simp) GZ.out.size⟩, cells_of ((GZ.out.block _ (by simp)).trans NB.out), .inr (.inr (.inr (.inr (.inr (.inl ⟨_, _, _, _, _, by rw [KE.out]; exact .tail _ (.tail _ (.tail _ (.tail _ (.tail _ (.head _))))), TE.out, NE.out, by rw [LE.out]; rfl, (by rw [ren_kind]; exact Jx.out.kind), (by rw [ren_kind]; exact Jy.out.kind), (by rw [ren_none _ _ _ _ NOx.out]; exact Jx.out.ast.kept HL.out BZ.out), (AstAt.carry AAy.out (fun c hc => Nat.lt_of_lt_of_le (HL.out c hc) B2.out.size) B2.out.size G3.out.size ((GX.out).trans (GZ.out.mono GX.out.size))), rfl⟩)))))⟩
  · have YESx := Lib.hid hyesx
    have AAx := Lib.hid Ax
    clear hyesx Ax
    go_wp2_with fail
    refine (H.out w2 S y _ f g pf pt ps (Jy.out.below B2.out) (HE.out.below B2.out) py bky Fy rfl Ty.out).mono ?_
    rintro e w3 ⟨hb3, hr3⟩
    have B3 := Lib.hid (B2.out.trans (hb3.mono B2.out.size))
    have G3 := Lib.hid hb3
    clear e0 e1
    clear hb3
    have e0 := cells_below B3.out _ _ _ d0
    have e1 := cells_below B3.out _ _ _ d1
    rcases hr3 with ⟨hnoy, rfl⟩ | ⟨hyesy, Py, cy, rfl, Ay⟩
    · have NOy := Lib.hid hnoy
      clear hnoy
      go_wp2_with fail
      refine (fnOther (k := kPtrMem) hta _ pf pt _).mono ?_
      rintro e w4 ⟨rfl, hb4⟩
      have NB := Lib.hid (alloc_here (w := w3) (o := (.cells #[(.iface Px (.pointer (some ⟨cx, 0, none⟩))), (.iface py (.pointer (some ⟨bky, 0, none⟩)))] 109)) rfl)
      have BX := Lib.hid (B3.out.trans ((below1 w3 (.cells #[(.iface Px (.pointer (some ⟨cx, 0, none⟩))), (.iface py (.pointer (some ⟨bky, 0, none⟩)))] 109)).mono B3.out.size))
      have BZ := Lib.hid (BX.out.trans (hb4.mono BX.out.size))
      have GZ := Lib.hid hb4
      have GX := Lib.hid (below1 w3 (.cells #[(.iface Px (.pointer (some ⟨cx, 0, none⟩))), (.iface py (.pointer (some ⟨bky, 0, none⟩)))] 109))
      clear hb4 e0 e1
      go_wp2_with fail
      go_ret
      refine ⟨BZ.out, .inr ⟨has_kid (by rw [LE.out]; simp) YESx.out, _, _, rfl, ?_⟩⟩
      rw [ren_other (by rw [KE.out]; decide)]
      exact .inr ⟨_, _, _, rfl, .inr ⟨B3.out.size, Nat.lt_of_lt_of_le (by simp) GZ.out.size⟩, cells_of ((GZ.out.block _ (by simp)).trans NB.out), .inr (.inr (.inr (.inr (.inr (.inl ⟨_, _, _, _, _, by rw [KE.out]; exact .tail _ (.tail _ (.tail _ (.tail _ (.tail _ (.head _))))), TE.out, NE.out, by rw [LE.out]; rfl, (by rw [ren_kind]; exact Jx.out.kind), (by rw [ren_kind]; exact Jy.out.kind), (AstAt.carry AAx.out (fun c hc => Nat.lt_of_lt_of_le (HL.out c hc) B1.out.size) B1.out.size G2.out.size (G3.out.trans (((GX.out).trans (GZ.out.mono GX.out.size)).mono G3.out.size))), (by rw [ren_none _ _ _ _ NOy.out]; exact Jy.out.ast.kept HL.out BZ.out), rfl⟩)))))⟩
    · have YESy := Lib.hid hyesy
      have AAy := Lib.hid Ay
      clear hyesy Ay
      go_wp2_with fail
      refine (fnOther (k := kPtrMem) hta _ pf pt _).mono ?_
      rintro e w4 ⟨rfl, hb4⟩
      have NB := Lib.hid (alloc_here (w := w3) (o := (.cells #[(.iface Px (.pointer (some ⟨cx, 0, none⟩))), (.iface Py (.pointer (some ⟨cy, 0, none⟩)))] 109)) rfl)
      have BX := Lib.hid (B3.out.trans ((below1 w3 (.cells #[(.iface Px (.pointer (some ⟨cx, 0, none⟩))), (.iface Py (.pointer (some ⟨cy, 0, none⟩)))] 109)).mono B3.out.size))
      have BZ := Lib.hid (BX.out.trans (hb4.mono BX.out.size))
      have GZ := Lib.hid hb4
      have GX := Lib.hid (below1 w3 (.cells #[(.iface Px (.pointer (some ⟨cx, 0, none⟩))), (.iface Py (.pointer (some ⟨cy, 0, none⟩)))] 109))
      clear hb4 e0 e1
      go_wp2_with fail
      go_ret
      refine ⟨BZ.out, .inr ⟨has_kid (by rw [LE.out]; simp) YESx.out, _, _, rfl, ?_⟩⟩
      rw [ren_other (by rw [KE.out]; decide)]
      exact .inr ⟨_, _, _, rfl, .inr ⟨B3.out.size, Nat.lt_of_lt_of_le (by simp) GZ.out.size⟩, cells_of ((GZ.out.block _ (by simp)).trans NB.out), .inr (.inr (.inr (.inr (.inr (.inl ⟨_, _, _, _, _, by rw [KE.out]; exact .tail _ (.tail _ (.tail _ (.tail _ (.tail _ (.head _))))), TE.out, NE.out, by rw [LE.out]; rfl, (by rw [ren_kind]; exact Jx.out.kind), (by rw [ren_kind]; exact Jy.out.kind), (AstAt.carry AAx.out (fun c hc => Nat.lt_of_lt_of_le (HL.out c hc) B1.out.size) B1.out.size G2.out.size (G3.out.trans (((GX.out).trans (GZ.out.mono GX.out.size)).mono G3.out.size))), (AstAt.carry AAy.out (fun c hc => Nat.lt_of_lt_of_le (HL.out c hc) B2.out.size) B2.out.size G3.out.size ((GX.out).trans (GZ.out.mono GX.out.size))), rfl⟩)))))⟩

set_option maxRecDepth 100000 in
set_option maxHeartbeats 4000000 in
theorem copyTaggedName (f g : ByteArray) (pf pt ps : Nat) (d : Nat) (IH : CopyAll d) (w : World) (S : Nat → Prop) (t : Tree) (b : Nat) (x y : Tree) (u v : Value) (hk : t.kind = kTaggedName) (ht : t.text = ByteArray.empty) (hn : t.num = 0) (hl : t.kids = [x, y]) (jx : Job w S d x u) (jy : Job w S d y v) (hS : S b) (low : ∀ c, S c → c < w.heap.size) (he : Env w f g pf pt ps) (d0 : w.cell? ⟨b, 0, none⟩ = some (u)) (d1 : w.cell? ⟨b, 1, none⟩ = some (v)) :
    Calls Tryz.prog 173 #[.pointer (some ⟨b, 0, none⟩), fnV pf pt, skV ps] w (CopySaid S w (d + 1) t f g) := by
  have hta : ∀ (a : Option Addr) (w : World), (Instr.typeAssert (.iface 135 (.pointer a)) 33 36 true).run Tryz.prog w = .ok (.tuple #[.pointer none, .bool false]) w := fun a w => by kernel_rfl
  have HPK : Hid (PtrK kTaggedName 135) := by show PtrK _ _; unfold PtrK leafTab unaryTab binaryTab listTab; simp
  have HE := Lib.hid he
  have HS := Lib.hid hS
  have HL := Lib.hid low
  have H := Lib.hid IH
  unfold fnV skV
  have KE := Lib.hid hk
  have LE := Lib.hid hl
  have NE := Lib.hid hn
  have TE := Lib.hid ht
  obtain ⟨px, bkx, rfl, hpx⟩ := jx.ast.ptr jx.kind
  obtain ⟨Fx, hTx⟩ := turnsC hpx
  have hax := hTx.ahead
  have hmx := hTx.met
  have hcx := hTx.call
  have Tx := Lib.hid hTx
  have Jx := Lib.hid jx
  obtain ⟨py, bky, rfl, hpy⟩ := jy.ast.ptr jy.kind
  obtain ⟨Fy, hTy⟩ := turnsC hpy
  have hay := hTy.ahead
  have hmy := hTy.met
  have hcy := hTy.call
  have Ty := Lib.hid hTy
  have Jy := Lib.hid jy
  clear IH he hS low hk hl hn ht jx hpx hTx jy hpy hTy
  go_enter Tryz.func173, Tryz.ntmps173
  go_wp2_with fail
  refine (skipC HPK.out b f g pf pt ps w HE.out).mono ?_
  rintro e w1 ⟨rfl, hb1⟩
  have B1 := Lib.hid hb1
  clear hb1
  have e0 := cells_below B1.out _ _ _ d0
  have e1 := cells_below B1.out _ _ _ d1
  go_wp2_with fail
  refine (H.out w1 S x _ f g pf pt ps (Jx.out.below B1.out) (HE.out.below B1.out) px bkx Fx rfl Tx.out).mono ?_
  rintro e w2 ⟨hb2, hr2⟩
  have B2 := Lib.hid (B1.out.trans (hb2.mono B1.out.size))
  have G2 := Lib.hid hb2
  clear e0 e1
  clear hb2
  have e0 := cells_below B2.out _ _ _ d0
  have e1 := cells_below B2.out _ _ _ d1
  rcases hr2 with ⟨hnox, rfl⟩ | ⟨hyesx, Px, cx, rfl, Ax⟩
  · have NOx := Lib.hid hnox
    clear hnox
    go_wp2_with fail
    refine (H.out w2 S y _ f g pf pt ps (Jy.out.below B2.out) (HE.out.below B2.out) py bky Fy rfl Ty.out).mono ?_
    rintro e w3 ⟨hb3, hr3⟩
    have B3 := Lib.hid (B2.out.trans (hb3.mono B2.out.size))
    have G3 := Lib.hid hb3
    clear e0 e1
    clear hb3
    have e0 := cells_below B3.out _ _ _ d0
    have e1 := cells_below B3.out _ _ _ d1
    rcases hr3 with ⟨hnoy, rfl⟩ | ⟨hyesy, Py, cy, rfl, Ay⟩
    · have NOy := Lib.hid hnoy
      clear hnoy
      go_wp2_with fail
      refine (fnOther (k := kTaggedName) hta b pf pt w3).mono ?_
      rintro e w4 ⟨rfl, hb4⟩
      have B4 := Lib.hid (B3.out.trans (hb4.mono B3.out.size))
      clear hb4 e0 e1
      go_wp2_with fail
      go_ret
      refine ⟨B4.out, .inl ⟨?_, rfl⟩⟩
      intro h
      rcases has_list (by rw [KE.out]; decide) LE.out h with h | h
      · exact NOx.out h
      · exact NOy.out h
    · have YESy := Lib.hid hyesy
      have AAy := Lib.hid Ay
      clear hyesy Ay
      go_wp2_with fail
      refine (fnOther (k := kTaggedName) hta _ pf pt _).mono ?_
      rintro e w4 ⟨rfl, hb4⟩
      have NB := Lib.hid (alloc_here (w := w3) (o := (.cells #[(.iface px (.pointer (some ⟨bkx, 0, none⟩))), (.iface Py (.pointer (some ⟨cy, 0, none⟩)))] 137)) rfl)
      have BX := Lib.hid (B3.out.trans ((below1 w3 (.cells #[(.iface px (.pointer (some ⟨bkx, 0, none⟩))), (.iface Py (.pointer (some ⟨cy, 0, none⟩)))] 137)).mono B3.out.size))
      have BZ := Lib.hid (BX.out.trans (hb4.mono BX.out.size))
      have GZ := Lib.hid hb4
      have GX := Lib.hid (below1 w3 (.cells #[(.iface px (.pointer (some ⟨bkx, 0, none⟩))), (.iface Py (.pointer (some ⟨cy, 0, none⟩)))] 137))
      clear hb4 e0 e1
      go_wp2_with fail
      go_ret
      refine ⟨BZ.out, .inr ⟨has_kid (by rw [LE.out]; simp) YESy.out, _, _, rfl, ?_⟩⟩
      rw [ren_other (by rw [KE.out]; decide)]
      exact .inr ⟨_, _, _, rfl, .inr ⟨B3.out.size, Nat.lt_of_lt_of_le (by simp) GZ.out.size⟩, cells_of ((GZ.out.block _ (by simp)).trans NB.out), .inr (.inr (.inr (.inr (.inr (.inl ⟨_, _, _, _, _, by rw [KE.out]; exact .tail _ (.tail _ (.tail _ (.tail _ (.tail _ (.tail _ (.tail _ (.head _))))))), TE.out, NE.out, by rw [LE.out]; rfl, (by rw [ren_kind]; exact Jx.out.kind), (by rw [ren_kind]; exact Jy.out.kind), (by rw [ren_none _ _ _ _ NOx.out]; exact Jx.out.ast.kept HL.out BZ.out), (AstAt.carry AAy.out (fun c hc => Nat.lt_of_lt_of_le (HL.out c hc) B2.out.size) B2.out.size G3.out.size ((GX.out).trans (GZ.out.mono GX.out.size))), rfl⟩)))))⟩
  · have YESx := Lib.hid hyesx
    have AAx := Lib.hid Ax
    clear hyesx Ax
    go_wp2_with fail
    refine (H.out w2 S y _ f g pf pt ps (Jy.out.below B2.out) (HE.out.below B2.out) py bky Fy rfl Ty.out).mono ?_
    rintro e w3 ⟨hb3, hr3⟩
    have B3 := Lib.hid (B2.out.trans (hb3.mono B2.out.size))
    have G3 := Lib.hid hb3
    clear e0 e1
    clear hb3
    have e0 := cells_below B3.out _ _ _ d0
    have e1 := cells_below B3.out _ _ _ d1
    rcases hr3 with ⟨hnoy, rfl⟩ | ⟨hyesy, Py, cy, rfl, Ay⟩
    · have NOy := Lib.hid hnoy
      clear hnoy
      go_wp2_with fail
      refine (fnOther (k := kTaggedName) hta _ pf pt _).mono ?_
      rintro e w4 ⟨rfl, hb4⟩
      have NB := Lib.hid (alloc_here (w := w3) (o := (.cells #[(.iface Px (.pointer (some ⟨cx, 0, none⟩))), (.iface py (.pointer (some ⟨bky, 0, none⟩)))] 137)) rfl)
      have BX := Lib.hid (B3.out.trans ((below1 w3 (.cells #[(.iface Px (.pointer (some ⟨cx, 0, none⟩))), (.iface py (.pointer (some ⟨bky, 0, none⟩)))] 137)).mono B3.out.size))
      have BZ := Lib.hid (BX.out.trans (hb4.mono BX.out.size))
      have GZ := Lib.hid hb4
      have GX := Lib.hid (below1 w3 (.cells #[(.iface Px (.pointer (some ⟨cx, 0, none⟩))), (.iface py (.pointer (some ⟨bky, 0, none⟩)))] 137))
      clear hb4 e0 e1
      go_wp2_with fail
      go_ret
      refine ⟨BZ.out, .inr ⟨has_kid (by rw [LE.out]; simp) YESx.out, _, _, rfl, ?_⟩⟩
      rw [ren_other (by rw [KE.out]; decide)]
      exact .inr ⟨_, _, _, rfl, .inr ⟨B3.out.size, Nat.lt_of_lt_of_le (by simp) GZ.out.size⟩, cells_of ((GZ.out.block _ (by simp)).trans NB.out), .inr (.inr (.inr (.inr (.inr (.inl ⟨_, _, _, _, _, by rw [KE.out]; exact .tail _ (.tail _ (.tail _ (.tail _ (.tail _ (.tail _ (.tail _ (.head _))))))), TE.out, NE.out, by rw [LE.out]; rfl, (by rw [ren_kind]; exact Jx.out.kind), (by rw [ren_kind]; exact Jy.out.kind), (AstAt.carry AAx.out (fun c hc => Nat.lt_of_lt_of_le (HL.out c hc) B1.out.size) B1.out.size G2.out.size (G3.out.trans (((GX.out).trans (GZ.out.mono GX.out.size)).mono G3.out.size))), (by rw [ren_none _ _ _ _ NOy.out]; exact Jy.out.ast.kept HL.out BZ.out), rfl⟩)))))⟩
    · have YESy := Lib.hid hyesy
      have AAy := Lib.hid Ay
      clear hyesy Ay
      go_wp2_with fail
      refine (fnOther (k := kTaggedName) hta _ pf pt _).mono ?_
      rintro e w4 ⟨rfl, hb4⟩
      have NB := Lib.hid (alloc_here (w := w3) (o := (.cells #[(.iface Px (.pointer (some ⟨cx, 0, none⟩))), (.iface Py (.pointer (some ⟨cy, 0, none⟩)))] 137)) rfl)
      have BX := Lib.hid (B3.out.trans ((below1 w3 (.cells #[(.iface Px (.pointer (some ⟨cx, 0, none⟩))), (.iface Py (.pointer (some ⟨cy, 0, none⟩)))] 137)).mono B3.out.size))
      have BZ := Lib.hid (BX.out.trans (hb4.mono BX.out.size))
      have GZ := Lib.hid hb4
      have GX := Lib.hid (below1 w3 (.cells #[(.iface Px (.pointer (some ⟨cx, 0, none⟩))), (.iface Py (.pointer (some ⟨cy, 0, none⟩)))] 137))
      clear hb4 e0 e1
      go_wp2_with fail
      go_ret
      refine ⟨BZ.out, .inr ⟨has_kid (by rw [LE.out]; simp) YESx.out, _, _, rfl, ?_⟩⟩
      rw [ren_other (by rw [KE.out]; decide)]
      exact .inr ⟨_, _, _, rfl, .inr ⟨B3.out.size, Nat.lt_of_lt_of_le (by simp) GZ.out.size⟩, cells_of ((GZ.out.block _ (by simp)).trans NB.out), .inr (.inr (.inr (.inr (.inr (.inl ⟨_, _, _, _, _, by rw [KE.out]; exact .tail _ (.tail _ (.tail _ (.tail _ (.tail _ (.tail _ (.tail _ (.head _))))))), TE.out, NE.out, by rw [LE.out]; rfl, (by rw [ren_kind]; exact Jx.out.kind), (by rw [ren_kind]; exact Jy.out.kind), (AstAt.carry AAx.out (fun c hc => Nat.lt_of_lt_of_le (HL.out c hc) B1.out.size) B1.out.size G2.out.size (G3.out.trans (((GX.out).trans (GZ.out.mono GX.out.size)).mono G3.out.size))), (AstAt.carry AAy.out (fun c hc => Nat.lt_of_lt_of_le (HL.out c hc) B2.out.size) B2.out.size G3.out.size ((GX.out).trans (GZ.out.mono GX.out.size))), rfl⟩)))))⟩

set_option maxRecDepth 100000 in
set_option maxHeartbeats 4000000 in
theorem copyMethodWithQualifiers (f g : ByteArray) (pf pt ps : Nat) (d : Nat) (IH : CopyAll d) (w : World) (S : Nat → Prop) (t : Tree) (b : Nat) (x y : Tree) (u v : Value) (hk : t.kind = kMethodWithQualifiers) (hn : t.num = 0) (hl : t.kids = [x, y]) (jx : Job w S d x u) (jy : Job w S d y v ∨ y = Tree.nil ∧ v = .nilIface ∧ 0 < d) (hS : S b) (low : ∀ c, S c → c < w.heap.size) (he : Env w f g pf pt ps) (d0 : w.cell? ⟨b, 0, none⟩ = some (u)) (d1 : w.cell? ⟨b, 1, none⟩ = some (v)) (d2 : w.cell? ⟨b, 2, none⟩ = some (.string t.text)) :
    Calls Tryz.prog 137 #[.pointer (some ⟨b, 0, none⟩), fnV pf pt, skV ps] w (CopySaid S w (d + 1) t f g) := by
  have hta : ∀ (a : Option Addr) (w : World), (Instr.typeAssert (.iface 93 (.pointer a)) 33 36 true).run Tryz.prog w = .ok (.tuple #[.pointer none, .bool false]) w := fun a w => by kernel_rfl
  have HPK : Hid (PtrK kMethodWithQualifiers 93) := by show PtrK _ _; unfold PtrK leafTab unaryTab binaryTab listTab; simp
  have HE := Lib.hid he
  have HS := Lib.hid hS
  have HL := Lib.hid low
  have H := Lib.hid IH
  unfold fnV skV
  have KE := Lib.hid hk
  have LE := Lib.hid hl
  have NE := Lib.hid hn
  rcases jy with jy | ⟨hy0, rfl, hd0⟩
  · skip
    obtain ⟨px, bkx, rfl, hpx⟩ := jx.ast.ptr jx.kind
    obtain ⟨Fx, hTx⟩ := turnsC hpx
    have hax := hTx.ahead
    have hmx := hTx.met
    have hcx := hTx.call
    have Tx := Lib.hid hTx
    have Jx := Lib.hid jx
    obtain ⟨py, bky, rfl, hpy⟩ := jy.ast.ptr jy.kind
    obtain ⟨Fy, hTy⟩ := turnsC hpy
    have hay := hTy.ahead
    have hmy := hTy.met
    have hcy := hTy.call
    have Ty := Lib.hid hTy
    have Jy := Lib.hid jy
    clear IH he hS low hk hl hn jx hpx hTx jy hpy hTy
    go_enter Tryz.func137, Tryz.ntmps137
    go_wp2_with fail
    refine (skipC HPK.out b f g pf pt ps w HE.out).mono ?_
    rintro e w1 ⟨rfl, hb1⟩
    have B1 := Lib.hid hb1
    clear hb1
    have e0 := cells_below B1.out _ _ _ d0
    have e1 := cells_below B1.out _ _ _ d1
    have e2 := cells_below B1.out _ _ _ d2
    go_wp2_with fail
    refine (H.out w1 S x _ f g pf pt ps (Jx.out.below B1.out) (HE.out.below B1.out) px bkx Fx rfl Tx.out).mono ?_
    rintro e w2 ⟨hb2, hr2⟩
    have B2 := Lib.hid (B1.out.trans (hb2.mono B1.out.size))
    have G2 := Lib.hid hb2
    clear e0 e1 e2
    clear hb2
    have e0 := cells_below B2.out _ _ _ d0
    have e1 := cells_below B2.out _ _ _ d1
    have e2 := cells_below B2.out _ _ _ d2
    rcases hr2 with ⟨hnox, rfl⟩ | ⟨hyesx, Px, cx, rfl, Ax⟩
    · have NOx := Lib.hid hnox
      clear hnox
      go_wp2_with fail
      refine (H.out w2 S y _ f g pf pt ps (Jy.out.below B2.out) (HE.out.below B2.out) py bky Fy rfl Ty.out).mono ?_
      rintro e w3 ⟨hb3, hr3⟩
      have B3 := Lib.hid (B2.out.trans (hb3.mono B2.out.size))
      have G3 := Lib.hid hb3
      clear e0 e1 e2
      clear hb3
      have e0 := cells_below B3.out _ _ _ d0
      have e1 := cells_below B3.out _ _ _ d1
      have e2 := cells_below B3.out _ _ _ d2
      rcases hr3 with ⟨hnoy, rfl⟩ | ⟨hyesy, Py, cy, rfl, Ay⟩
      · have NOy := Lib.hid hnoy
        clear hnoy
        go_wp2_with fail
        refine (fnOther (k := kMethodWithQualifiers) hta b pf pt w3).mono ?_
        rintro e w4 ⟨rfl, hb4⟩
        have B4 := Lib.hid (B3.out.trans (hb4.mono B3.out.size))
        clear hb4 e0 e1 e2
        go_wp2_with fail
        go_ret
        refine ⟨B4.out, .inl ⟨?_, rfl⟩⟩
        intro h
        rcases has_list (by rw [KE.out]; decide) LE.out h with h | h
        · exact NOx.out h
        · exact NOy.out h
      · have YESy := Lib.hid hyesy
        have AAy := Lib.hid Ay
        clear hyesy Ay
        go_wp2_with fail
        refine (fnOther (k := kMethodWithQualifiers) hta _ pf pt _).mono ?_
        rintro e w4 ⟨rfl, hb4⟩
        have NB := Lib.hid (alloc_here (w := w3) (o := (.cells #[(.iface px (.pointer (some ⟨bkx, 0, none⟩))), (.iface Py (.pointer (some ⟨cy, 0, none⟩))), .string t.text] 95)) rfl)
        have BX := Lib.hid (B3.out.trans ((below1 w3 (.cells #[(.iface px (.pointer (some ⟨bkx, 0, none⟩))), (.iface Py (.pointer (some ⟨cy, 0, none⟩))), .string t.text] 95)).mono B3.out.size))
        have BZ := Lib.hid (BX.out.trans (hb4.mono BX.out.size))
        have GZ := Lib.hid hb4
        have GX := Lib.hid (below1 w3 (.cells #[(.iface px (.pointer (some ⟨bkx, 0, none⟩))), (.iface Py (.pointer (some ⟨cy, 0, none⟩))), .string t.text] 95))
        clear hb4 e0 e1 e2
        go_wp2_with fail
        go_ret
        refine ⟨BZ.out, .inr ⟨has_kid (by rw [LE.out]; simp) YESy.out, _, _, rfl, ?_⟩⟩
        rw [ren_other (by rw [KE.out]; decide)]
        exact .inr ⟨_, _, _, rfl, .inr ⟨B3.out.size, Nat.lt_of_lt_of_le (by simp) GZ.out.size⟩, cells_of ((GZ.out.block _ (by simp)).trans NB.out), .inr (.inr (.inr (.inr (.inr (.inr (.inl ⟨_, _, _, _, KE.out, rfl, NE.out, by rw [LE.out]; rfl, (by rw [ren_kind]; exact Jx.out.kind), (by rw [ren_none _ _ _ _ NOx.out]; exact Jx.out.ast.kept HL.out BZ.out), (AstAt.carry AAy.out (fun c hc => Nat.lt_of_lt_of_le (HL.out c hc) B2.out.size) B2.out.size G3.out.size ((GX.out).trans (GZ.out.mono GX.out.size))), rfl⟩))))))⟩
    · have YESx := Lib.hid hyesx
      have AAx := Lib.hid Ax
      clear hyesx Ax
      go_wp2_with fail
      refine (H.out w2 S y _ f g pf pt ps (Jy.out.below B2.out) (HE.out.below B2.out) py bky Fy rfl Ty.out).mono ?_
      rintro e w3 ⟨hb3, hr3⟩
      have B3 := Lib.hid (B2.out.trans (hb3.mono B2.out.size))
      have G3 := Lib.hid hb3
      clear e0 e1 e2
      clear hb3
      have e0 := cells_below B3.out _ _ _ d0
      have e1 := cells_below B3.out _ _ _ d1
      have e2 := cells_below B3.out _ _ _ d2
      rcases hr3 with ⟨hnoy, rfl⟩ | ⟨hyesy, Py, cy, rfl, Ay⟩
      · have NOy := Lib.hid hnoy
        clear hnoy
        go_wp2_with fail
        refine (fnOther (k := kMethodWithQualifiers) hta _ pf pt _).mono ?_
        rintro e w4 ⟨rfl, hb4⟩
        have NB := Lib.hid (alloc_here (w := w3) (o := (.cells #[(.iface Px (.pointer (some ⟨cx, 0, none⟩))), (.iface py (.pointer (some ⟨bky, 0, none⟩))), .string t.text] 95)) rfl)
        have BX := Lib.hid (B3.out.trans ((below1 w3 (.cells #[(.iface Px (.pointer (some ⟨cx, 0, none⟩))), (.iface py (.pointer (some ⟨bky, 0, none⟩))), .string t.text] 95)).mono B3.out.size))
        have BZ := Lib.hid (BX.out.trans (hb4.mono BX.out.size))
        have GZ := Lib.hid hb4
        have GX := Lib.hid (below1 w3 (.cells #[(.iface Px (.pointer (some ⟨cx, 0, none⟩))), (.iface py (.pointer (some ⟨bky, 0, none⟩))), .string t.text] 95))
        clear hb4 e0 e1 e2
        go_wp2_with fail
        go_ret
        refine ⟨BZ.out, .inr ⟨has_kid (by rw [LE.out]; simp) YESx.out, _, _, rfl, ?_⟩⟩
        rw [ren_other (by rw [KE.out]; decide)]
        exact .inr ⟨_, _, _, rfl, .inr ⟨B3.out.size, Nat.lt_of_lt_of_le (by simp) GZ.out.size⟩, cells_of ((GZ.out.block _ (by simp)).trans NB.out), .inr (.inr (.inr (.inr (.inr (.inr (.inl ⟨_, _, _, _, KE.out, rfl, NE.out, by rw [LE.out]; rfl, (by rw [ren_kind]; exact Jx.out.kind), (AstAt.carry AAx.out (fun c hc => Nat.lt_of_lt_of_le (HL.out c hc) B1.out.size) B1.out.size G2.out.size (G3.out.trans (((GX.out).trans (GZ.out.mono GX.out.size)).mono G3.out.size))), (by rw [ren_none _ _ _ _ NOy.out]; exact Jy.out.ast.kept HL.out BZ.out), rfl⟩))))))⟩
      · have YESy := Lib.hid hyesy
        have AAy := Lib.hid Ay
        clear hyesy Ay
        go_wp2_with fail
        refine (fnOther (k := kMethodWithQualifiers) hta _ pf pt _).mono ?_
        rintro e w4 ⟨rfl, hb4⟩
        have NB := Lib.hid (alloc_here (w := w3) (o := (.cells #[(.iface Px (.pointer (some ⟨cx, 0, none⟩))), (.iface Py (.pointer (some ⟨cy, 0, none⟩))), .string t.text] 95)) rfl)
        have BX := Lib.hid (B3.out.trans ((below1 w3 (.cells #[(.iface Px (.pointer (some ⟨cx, 0, none⟩))), (.iface Py (.pointer (some ⟨cy, 0, none⟩))), .string t.text] 95)).mono B3.out.size))
        have BZ := Lib.hid (BX.out.trans (hb4.mono BX.out.size))
        have GZ := Lib.hid hb4
        have GX := Lib.hid (below1 w3 (.cells #[(.iface Px (.pointer (some ⟨cx, 0, none⟩))), (.iface Py (.pointer (some ⟨cy, 0, none⟩))), .string t.text] 95))
        clear hb4 e0 e1 e2
        go_wp2_with fail
        go_ret
        refine ⟨BZ.out, .inr ⟨has_kid (by rw [LE.out]; simp) YESx.out, _, _, rfl, ?_⟩⟩
        rw [ren_other (by rw [KE.out]; decide)]
        exact .inr ⟨_, _, _, rfl, .inr ⟨B3.out.size, Nat.lt_of_lt_of_le (by simp) GZ.out.size⟩, cells_of ((GZ.out.block _ (by simp)).trans NB.out), .inr (.inr (.inr (.inr (.inr (.inr (.inl ⟨_, _, _, _, KE.out, rfl, NE.out, by rw [LE.out]; rfl, (by rw [ren_kind]; exact Jx.out.kind), (AstAt.carry AAx.out (fun c hc => Nat.lt_of_lt_of_le (HL.out c hc) B1.out.size) B1.out.size G2.out.size (G3.out.trans (((GX.out).trans (GZ.out.mono GX.out.size)).mono G3.out.size))), (AstAt.carry AAy.out (fun c hc => Nat.lt_of_lt_of_le (HL.out c hc) B2.out.size) B2.out.size G3.out.size ((GX.out).trans (GZ.out.mono GX.out.size))), rfl⟩))))))⟩
  · have NIL : Hid (¬ has f d y) := by show ¬ _; rw [hy0]; exact has_nil f d
    have NILA : Hid (∀ w' S', AstAt w' S' d y .nilIface) := fun w' S' => by cases d with | zero => omega | succ d => exact .inl ⟨hy0, rfl⟩
    clear hy0
    obtain ⟨px, bkx, rfl, hpx⟩ := jx.ast.ptr jx.kind
    obtain ⟨Fx, hTx⟩ := turnsC hpx
    have hax := hTx.ahead
    have hmx := hTx.met
    have hcx := hTx.call
    have Tx := Lib.hid hTx
    have Jx := Lib.hid jx
    clear IH he hS low hk hl hn jx hpx hTx
    go_enter Tryz.func137, Tryz.ntmps137
    go_wp2_with fail
    refine (skipC HPK.out b f g pf pt ps w HE.out).mono ?_
    rintro e w1 ⟨rfl, hb1⟩
    have B1 := Lib.hid hb1
    clear hb1
    have e0 := cells_below B1.out _ _ _ d0
    have e1 := cells_below B1.out _ _ _ d1
    have e2 := cells_below B1.out _ _ _ d2
    go_wp2_with fail
    refine (H.out w1 S x _ f g pf pt ps (Jx.out.below B1.out) (HE.out.below B1.out) px bkx Fx rfl Tx.out).mono ?_
    rintro e w2 ⟨hb2, hr2⟩
    have B2 := Lib.hid (B1.out.trans (hb2.mono B1.out.size))
    have G2 := Lib.hid hb2
    clear e0 e1 e2
    clear hb2
    have e0 := cells_below B2.out _ _ _ d0
    have e1 := cells_below B2.out _ _ _ d1
    have e2 := cells_below B2.out _ _ _ d2
    rcases hr2 with ⟨hnox, rfl⟩ | ⟨hyesx, Px, cx, rfl, Ax⟩
    · have NOx := Lib.hid hnox
      clear hnox
      go_wp2_with fail
      refine (fnOther (k := kMethodWithQualifiers) hta b pf pt w2).mono ?_
      rintro e w3 ⟨rfl, hb3⟩
      have B3 := Lib.hid (B2.out.trans (hb3.mono B2.out.size))
      clear hb3 e0 e1 e2
      go_wp2_with fail
      go_ret
      refine ⟨B3.out, .inl ⟨?_, rfl⟩⟩
      intro h
      rcases has_list (by rw [KE.out]; decide) LE.out h with h | h
      · exact NOx.out h
      · exact NIL.out h
    · have YESx := Lib.hid hyesx
      have AAx := Lib.hid Ax
      clear hyesx Ax
      go_wp2_with fail
      refine (fnOther (k := kMethodWithQualifiers) hta _ pf pt _).mono ?_
      rintro e w3 ⟨rfl, hb3⟩
      have NB := Lib.hid (alloc_here (w := w2) (o := (.cells #[(.iface Px (.pointer (some ⟨cx, 0, none⟩))), .nilIface, .string t.text] 95)) rfl)
      have BX := Lib.hid (B2.out.trans ((below1 w2 (.cells #[(.iface Px (.pointer (some ⟨cx, 0, none⟩))), .nilIface, .string t.text] 95)).mono B2.out.size))
      have BZ := Lib.hid (BX.out.trans (hb3.mono BX.out.size))
      have GZ := Lib.hid hb3
      have GX := Lib.hid (below1 w2 (.cells #[(.iface Px (.pointer (some ⟨cx, 0, none⟩))), .nilIface, .string t.text] 95))
      clear hb3 e0 e1 e2
      go_wp2_with fail
      go_ret
      refine ⟨BZ.out, .inr ⟨has_kid (by rw [LE.out]; simp) YESx.out, _, _, rfl, ?_⟩⟩
      rw [ren_other (by rw [KE.out]; decide)]
      exact .inr ⟨_, _, _, rfl, .inr ⟨B2.out.size, Nat.lt_of_lt_of_le (by simp) GZ.out.size⟩, cells_of ((GZ.out.block _ (by simp)).trans NB.out), .inr (.inr (.inr (.inr (.inr (.inr (.inl ⟨_, _, _, _, KE.out, rfl, NE.out, by rw [LE.out]; rfl, (by rw [ren_kind]; exact Jx.out.kind), (AstAt.carry AAx.out (fun c hc => Nat.lt_of_lt_of_le (HL.out c hc) B1.out.size) B1.out.size G2.out.size ((GX.out).trans (GZ.out.mono GX.out.size))), (by rw [ren_none _ _ _ _ NIL.out]; exact NILA.out _ _), rfl⟩))))))⟩

end Go.Proofs.YtlfbmpenekiigaaGreatDoor
