/- Copy of some elements with two kids, with the closures of Rename; conditions: the element lies in memory, it is known what Copy makes of smaller ones. -/
import Derived.Test.YtlfbmpenekiigaaGreatDoorCopyA
import Derived.Test.YtlfbmpenekiigaaGreatDoorTab
namespace Go.Proofs.YtlfbmpenekiigaaGreatDoor
open Go.ChangeShapes Go.WideShapes Go.ChangeAt Go.RowKit
set_option linter.unusedVariables false

set_option maxRecDepth 100000 in
set_option maxHeartbeats 4000000 in
theorem copyQualified (f g : ByteArray) (pf pt ps : Nat) (d : Nat) (IH : CopyAll d) (w : World) (S : Nat → Prop) (t : Tree) (b : Nat) (x y : Tree) (u v : Value) (hk : t.kind = kQualified) (ht : t.text = ByteArray.empty) (hn : t.num = 0) (hl : t.kids = [x, y]) (jx : Job w S d x u) (jy : Job w S d y v) (hS : S b) (low : ∀ c, S c → c < w.heap.size) (he : Env w f g pf pt ps) (d0 : w.cell? ⟨b, 0, none⟩ = some (u)) (d1 : w.cell? ⟨b, 1, none⟩ = some (v)) (d2 : w.cell? ⟨b, 2, none⟩ = some (.bool false)) :
    Calls Tryz.prog 101 #[.pointer (some ⟨b, 0, none⟩), fnV pf pt, skV ps] w (CopySaid S w (d + 1) t f g) := by
  have hta : ∀ (a : Option Addr) (w : World), (Instr.typeAssert (.iface 59 (.pointer a)) 33 36 true).run Tryz.prog w = .ok (.tuple #[.pointer none, .bool false]) w := fun a w => by kernel_rfl
  have HPK : Hid (PtrK kQualified 59) := by show PtrK _ _; unfold PtrK leafTab unaryTab binaryTab listTab; simp
  have HE := Lib.hid he
  have HS := Lib.hid hS
  have HL := Lib.hid low
  have H := Lib.hid IH
  unfold fnV skV
  have KE := Lib.hid hk
  have LE := Lib.hid hl
  have NE := Lib.hid hn
  have TE := Lib.hid ht
  obtain ⟨px, bkx, rfl, hpx⟩ := jx.ast.ptr jx.kind
  obtain ⟨Fx, hTx⟩ := turnsC hpx
  have hax := hTx.ahead
  have hmx := hTx.met
  have hcx := hTx.call
  have Tx := Lib.hid hTx
  have Jx := Lib.hid jx
  obtain ⟨py, bky, rfl, hpy⟩ := jy.ast.ptr jy.kind
  obtain ⟨Fy, hTy⟩ := turnsC hpy
  have hay := hTy.ahead
  have hmy := hTy.met
  have hcy := hTy.call
  have Ty := Lib.hid hTy
  have Jy := Lib.hid jy
  clear IH he hS low hk hl hn ht jx hpx hTx jy hpy hTy
  go_enter Tryz.func101, Tryz.ntmps101
  go_wp2_with fail
  refine (skipC HPK.out b f g pf pt ps w HE.out).mono ?_
  rintro e w1 ⟨rfl, hb1⟩
  have B1 := Lib.hid hb1
  clear hb1
  have e0 := cells_below B1.out _ _ _ d0
  have e1 := cells_below B1.out _ _ _ d1
  have e2 := cells_below B1.out _ _ _ d2
  go_wp2_with fail
  refine (H.out w1 S x _ f g pf pt ps (Jx.out.below B1.out) (HE.out.below B1.out) px bkx Fx rfl Tx.out).mono ?_
  rintro e w2 ⟨hb2, hr2⟩
  have B2 := Lib.hid (B1.out.trans (hb2.mono B1.out.size))
  have G2 := Lib.hid hb2
  clear e0 e1 e2
  clear hb2
  have e0 := cells_below B2.out _ _ _ d0
  have e1 := cells_below B2.out _ _ _ d1
  have e2 := cells_below B2.out _ _ _ d2
  rcases hr2 with ⟨hnox, rfl⟩ | ⟨hyesx, Px, cx, rfl, Ax⟩
  · have NOx := Lib.hid hnox
    clear hnox
    go_wp2_with fail
    refine (H.out w2 S y _ f g pf pt ps (Jy.out.below B2.out) (HE.out.below B2.out) py bky Fy rfl Ty.out).mono ?_
    rintro e w3 ⟨hb3, hr3⟩
    have B3 := Lib.hid (B2.out.trans (hb3.mono B2.out.size))
    have G3 := Lib.hid hb3
    clear e0 e1 e2
    clear hb3
    have e0 := cells_below B3.out _ _ _ d0
    have e1 := cells_below B3.out _ _ _ d1
    have e2 := cells_below B3.out _ _ _ d2
    rcases hr3 with ⟨hnoy, rfl⟩ | ⟨hyesy, Py, cy, rfl, Ay⟩
    · have NOy := Lib.hid hnoy
      clear hnoy
      go_wp2_with fail
      refine (fnOther (k := kQualified) hta b pf pt w3).mono ?_
      rintro e w4 ⟨rfl, hb4⟩
      have B4 := Lib.hid (B3.out.trans (hb4.mono B3.out.size))
      clear hb4 e0 e1 e2
      go_wp2_with fail
      go_ret
      refine ⟨B4.out, .inl ⟨?_, rfl⟩⟩
      intro h
      rcases has_list (by rw [KE.out]; decide) LE.out h with h | h
      · exact NOx.out h
      · exact NOy.out h
    · have YESy := Lib.hid hyesy
      have AAy := Lib.hid Ay
      clear hyesy Ay
      go_wp2_with fail
      refine (fnOther (k := kQualified) hta _ pf pt _).mono ?_
      rintro e w4 ⟨rfl, hb4⟩
      have NB := Lib.hid (alloc_here (w := w3) (o := (.cells #[(.iface px (.pointer (some ⟨bkx, 0, none⟩))), (.iface Py (.pointer (some ⟨cy, 0, none⟩))), .bool false] 61)) rfl)
      have BX := Lib.hid (B3.out.trans ((below1 w3 (.cells #[(.iface px (.pointer (some ⟨bkx, 0, none⟩))), (.iface Py (.pointer (some ⟨cy, 0, none⟩))), .bool false] 61)).mono B3.out.size))
      have BZ := Lib.hid (BX.out.trans (hb4.mono BX.out.size))
      have GZ := Lib.hid hb4
      have GX := Lib.hid (below1 w3 (.cells #[(.iface px (.pointer (some ⟨bkx, 0, none⟩))), (.iface Py (.pointer (some ⟨cy, 0, none⟩))), .bool false] 61))
      clear hb4 e0 e1 e2
      go_wp2_with fail
      go_ret
      refine ⟨BZ.out, .inr ⟨has_kid (by rw [LE.out]; simp) YESy.out, _, _, rfl, ?_⟩⟩
      rw [ren_other (by rw [KE.out]; decide)]
      exact .inr ⟨_, _, _, rfl, .inr ⟨B3.out.size, Nat.lt_of_lt_of_le (by simp) GZ.out.size⟩, cells_of ((GZ.out.block _ (by simp)).trans NB.out), .inr (.inr (.inr (.inr (.inr (.inl ⟨_, _, _, _, _, by rw [KE.out]; exact .head _, TE.out, NE.out, by rw [LE.out]; rfl, (by rw [ren_kind]; exact Jx.out.kind), (by rw [ren_kind]; exact Jy.out.kind), (by rw [ren_none _ _ _ _ NOx.out]; exact Jx.out.ast.kept HL.out BZ.out), (AstAt.carry AAy.out (fun c hc => Nat.lt_of_lt_of_le (HL.out c hc) B2.out.size) B2.out.size G3.out.size ((GX.out).trans (GZ.out.mono GX.out.size))), rfl⟩)))))⟩
  · have YESx := Lib.hid hyesx
    have AAx := Lib.hid Ax
    clear hyesx Ax
    go_wp2_with fail
    refine (H.out w2 S y _ f g pf pt ps (Jy.out.below B2.out) (HE.out.below B2.out) py bky Fy rfl Ty.out).mono ?_
    rintro e w3 ⟨hb3, hr3⟩
    have B3 := Lib.hid (B2.out.trans (hb3.mono B2.out.size))
    have G3 := Lib.hid hb3
    clear e0 e1 e2
    clear hb3
    have e0 := cells_below B3.out _ _ _ d0
    have e1 := cells_below B3.out _ _ _ d1
    have e2 := cells_below B3.out _ _ _ d2
    rcases hr3 with ⟨hnoy, rfl⟩ | ⟨hyesy, Py, cy, rfl, Ay⟩
    · have NOy := Lib.hid hnoy
      clear hnoy
      go_wp2_with fail
      refine (fnOther (k := kQualified) hta _ pf pt _).mono ?_
      rintro e w4 ⟨rfl, hb4⟩
      have NB := Lib.hid (alloc_here (w := w3) (o := (.cells #[(.iface Px (.pointer (some ⟨cx, 0, none⟩))), (.iface py (.pointer (some ⟨bky, 0, none⟩))), .bool false] 61)) rfl)
      have BX := Lib.hid (B3.out.trans ((below1 w3 (.cells #[(.iface Px (.pointer (some ⟨cx, 0, none⟩))), (.iface py (.pointer (some ⟨bky, 0, none⟩))), .bool false] 61)).mono B3.out.size))
      have BZ := Lib.hid (BX.out.trans (hb4.mono BX.out.size))
      have GZ := Lib.hid hb4
      have GX := Lib.hid (below1 w3 (.cells #[(.iface Px (.pointer (some ⟨cx, 0, none⟩))), (.iface py (.pointer (some ⟨bky, 0, none⟩))), .bool false] 61))
      clear hb4 e0 e1 e2
      go_wp2_with fail
      go_ret
      refine ⟨BZ.out, .inr ⟨has_kid (by rw [LE.out]; simp) YESx.out, _, _, rfl, ?_⟩⟩
      rw [ren_other (by rw [KE.out]; decide)]
      exact .inr ⟨_, _, _, rfl, .inr ⟨B3.out.size, Nat.lt_of_lt_of_le (by simp) GZ.out.size⟩, cells_of ((GZ.out.block _ (by simp)).trans NB.out), .inr (.inr (.inr (.inr (.inr (.inl ⟨_, _, _, _, _, by rw [KE.out]; exact .head _, TE.out, NE.out, by rw [LE.out]; rfl, (by rw [ren_kind]; exact Jx.out.kind), (by rw [ren_kind]; exact Jy.out.kind), (AstAt.carry AAx.out (fun c hc => Nat.lt_of_lt_of_le (HL.out c hc) B1.out.size) B1.out.size G2.out.size (G3.out.trans (((GX.out).trans (GZ.out.mono GX.out.size)).mono G3.out.size))), (by rw [ren_none _ _ _ _ NOy.out]; exact Jy.out.ast.kept HL.out BZ.out), rfl⟩)))))⟩
    · have YESy := Lib.hid hyesy
      have AAy := Lib.hid Ay
      clear hyesy Ay
      go_wp2_with fail
      refine (fnOther (k := kQualified) hta _ pf pt _).mono ?_
      rintro e w4 ⟨rfl, hb4⟩
      have NB := Lib.hid (alloc_here (w := w3) (o := (.cells #[(.iface Px (.pointer (some ⟨cx, 0, none⟩))), (.iface Py (.pointer (some ⟨cy, 0, none⟩))), .bool false] 61)) rfl)
      have BX := Lib.hid (B3.out.trans ((below1 w3 (.cells #[(.iface Px (.pointer (some ⟨cx, 0, none⟩))), (.iface Py (.pointer (some ⟨cy, 0, none⟩))), .bool false] 61)).mono B3.out.size))
      have BZ := Lib.hid (BX.out.trans (hb4.mono BX.out.size))
      have GZ := Lib.hid hb4
      have GX := Lib.hid (below1 w3 (.cells #[(.iface Px (.pointer (some ⟨cx, 0, none⟩))), (.iface Py (.pointer (some ⟨cy, 0, none⟩))), .bool false] 61))
      clear hb4 e0 e1 e2
      go_wp2_with fail
      go_ret
      refine ⟨BZ.out, .inr ⟨has_kid (by rw [LE.out]; simp) YESx.out, _, _, rfl, ?_⟩⟩
      rw [ren_other (by rw [KE.out]; decide)]
      exact .inr ⟨_, _, _, rfl, .inr ⟨B3.out.size, Nat.lt_of_lt_of_le (by simp) GZ.out.size⟩, cells_of ((GZ.out.block _ (by simp)).trans NB.out), .inr (.inr (.inr (.inr (.inr (.inl ⟨_, _, _, _, _, by rw [KE.out]; exact .head _, TE.out, NE.out, by rw [LE.out]; rfl, (by rw [ren_kind]; exact Jx.out.kind), (by rw [ren_kind]; exact Jy.out.kind), (AstAt.carry AAx.out (fun c hc => Nat.lt_of_lt_of_le (HL.out c hc) B1.out.size) B1.out.size G2.out.size (G3.out.trans (((GX.out).trans (GZ.out.mono GX.out.size)).mono G3.out.size))), (AstAt.carry AAy.out (fun c hc => Nat.lt_of_lt_of_le (HL.out c hc) B2.out.size) B2.out.size G3.out.size ((GX.out).trans (GZ.out.mono GX.out.size))), rfl⟩)))))⟩

set_option maxRecDepth 100000 in
set_option maxHeartbeats 4000000 in
theorem copyTyped (f g : ByteArray) (pf pt ps : Nat) (d : Nat) (IH : CopyAll d) (w : World) (S : Nat → Prop) (t : Tree) (b : Nat) (x y : Tree) (u v : Value) (hk : t.kind = kTyped) (ht : t.text = ByteArray.empty) (hn : t.num = 0) (hl : t.kids = [x, y]) (jx : Job w S d x u) (jy : Job w S d y v) (hS : S b) (low : ∀ c, S c → c < w.heap.size) (he : Env w f g pf pt ps) (d0 : w.cell? ⟨b, 0, none⟩ = some (u)) (d1 : w.cell? ⟨b, 1, none⟩ = some (v)) :
    Calls Tryz.prog 107 #[.pointer (some ⟨b, 0, none⟩), fnV pf pt, skV ps] w (CopySaid S w (d + 1) t f g) := by
  have hta : ∀ (a : Option Addr) (w : World), (Instr.typeAssert (.iface 67 (.pointer a)) 33 36 true).run Tryz.prog w = .ok (.tuple #[.pointer none, .bool false]) w := fun a w => by kernel_rfl
  have HPK : Hid (PtrK kTyped 67) := by show PtrK _ _; unfold PtrK leafTab unaryTab binaryTab listTab; simp
  have HE := Lib.hid he
  have HS := Lib.hid hS
  have HL := Lib.hid low
  have H := Lib.hid IH
  unfold fnV skV
  have KE := Lib.hid hk
  have LE := Lib.hid hl
  have NE := Lib.hid hn
  have TE := Lib.hid ht
  obtain ⟨px, bkx, rfl, hpx⟩ := jx.ast.ptr jx.kind
  obtain ⟨Fx, hTx⟩ := turnsC hpx
  have hax := hTx.ahead
  have hmx := hTx.met
  have hcx := hTx.call
  have Tx := Lib.hid hTx
  have Jx := Lib.hid jx
  obtain ⟨py, bky, rfl, hpy⟩ := jy.ast.ptr jy.kind
  obtain ⟨Fy, hTy⟩ := turnsC hpy
  have hay := hTy.ahead
  have hmy := hTy.met
  have hcy := hTy.call
  have Ty := Lib.hid hTy
  have Jy := Lib.hid jy
  clear IH he hS low hk hl hn ht jx hpx hTx jy hpy hTy
  go_enter Tryz.func107, Tryz.ntmps107
  go_wp2_with fail
  refine (skipC HPK.out b f g pf pt ps w HE.out).mono ?_
  rintro e w1 ⟨rfl, hb1⟩
  have B1 := Lib.hid hb1
  clear hb1
  have e0 := cells_below B1.out _ _ _ d0
  have e1 := cells_below B1.out _ _ _ d1
  go_wp2_with fail
  refine (H.out w1 S x _ f g pf pt ps (Jx.out.below B1.out) (HE.out.below B1.out) px bkx Fx rfl Tx.out).mono ?_
  rintro e w2 ⟨hb2, hr2⟩
  have B2 := Lib.hid (B1.out.trans (hb2.mono B1.out.size))
  have G2 := Lib.hid hb2
  clear e0 e1
  clear hb2
  have e0 := cells_below B2.out _ _ _ d0
  have e1 := cells_below B2.out _ _ _ d1
  rcases hr2 with ⟨hnox, rfl⟩ | ⟨hyesx, Px, cx, rfl, Ax⟩
  · have NOx := Lib.hid hnox
    clear hnox
    go_wp2_with fail
    refine (H.out w2 S y _ f g pf pt ps (Jy.out.below B2.out) (HE.out.below B2.out) py bky Fy rfl Ty.out).mono ?_
    rintro e w3 ⟨hb3, hr3⟩
    have B3 := Lib.hid (B2.out.trans (hb3.mono B2.out.size))
    have G3 := Lib.hid hb3
    clear e0 e1
    clear hb3
    have e0 := cells_below B3.out _ _ _ d0
    have e1 := cells_below B3.out _ _ _ d1
    rcases hr3 with ⟨hnoy, rfl⟩ | ⟨hyesy, Py, cy, rfl, Ay⟩
    · have NOy := Lib.hid hnoy
      clear hnoy
      go_wp2_with fail
      refine (fnOther (k := kTyped) hta b pf pt w3).mono ?_
      rintro e w4 ⟨rfl, hb4⟩
      have B4 := Lib.hid (B3.out.trans (hb4.mono B3.out.size))
      clear hb4 e0 e1
      go_wp2_with fail
      go_ret
      refine ⟨B4.out, .inl ⟨?_, rfl⟩⟩
      intro h
      rcases has_list (by rw [KE.out]; decide) LE.out h with h | h
      · exact NOx.out h
      · exact NOy.out h
    · have YESy := Lib.hid hyesy
      have AAy := Lib.hid Ay
      clear hyesy Ay
      go_wp2_with fail
      refine (fnOther (k := kTyped) hta _ pf pt _).mono ?_
      rintro e w4 ⟨rfl, hb4⟩
      have NB := Lib.hid (alloc_here (w := w3) (o := (.cells #[(.iface px (.pointer (some ⟨bkx, 0, none⟩))), (.iface Py (.pointer (some ⟨cy, 0, none⟩)))] 69)) rfl)
      have BX := Lib.hid (B3.out.trans ((below1 w3 (.cells #[(.iface px (.pointer (some ⟨bkx, 0, none⟩))), (.iface Py (.pointer (some ⟨cy, 0, none⟩)))] 69)).mono B3.out.size))
      have BZ := Lib.hid (BX.out.trans (hb4.mono BX.out.size))
      have GZ := Lib.hid hb4
      have GX := Lib.hid (below1 w3 (.cells #[(.iface px (.pointer (some ⟨bkx, 0, none⟩))), (.iface Py (.pointer (some ⟨cy, 0, none⟩)))] 69))
      clear hb4 e0 e1
      go_wp2_with fail
      go_ret
      refine ⟨BZ.out, .inr ⟨has_kid (by rw [LE.out]; simp) YESy.out, _, _, rfl, ?_⟩⟩
      rw [ren_other (by rw [KE.out]; decide)]
      exact .inr ⟨_, _, _, rfl, .inr ⟨B3.out.size, Nat.lt_of_lt_of_le (by simp) GZ.out.size⟩, cells_of ((GZ.out.block _ (by simp)).trans NB.out), .inr (.inr (.inr (.inr (.inr (.inl ⟨_, _, _, _, _, by rw [KE.out]; exact .tail _ (.head _), TE.out, NE.out, by rw [LE.out]; rfl, (by rw [ren_kind]; exact Jx.out.kind), (by rw [ren_kind]; exact Jy.out.kind), (by rw [ren_none _ _ _ _ NOx.out]; exact Jx.out.ast.kept HL.out BZ.out), (AstAt.carry AAy.out (fun c hc => Nat.lt_of_lt_of_le (HL.out c hc) B2.out.size) B2.out.size G3.out.size ((GX.out).trans (GZ.out.mono GX.out.size))), rfl⟩)))))⟩
  · have YESx := Lib.hid hyesx
    have AAx := Lib.hid Ax
    clear hyesx Ax
    go_wp2_with fail
    refine (H.out w2 S y _ f g pf pt ps (Jy.out.below B2.out) (HE.out.below B2.out) py bky Fy rfl Ty.out).mono ?_
    rintro e w3 ⟨hb3, hr3⟩
    have B3 := Lib.hid (B2.out.trans (hb3.mono B2.out.size))
    have G3 := Lib.hid hb3
    clear e0 e1
    clear hb3
    have e0 := cells_below B3.out _ _ _ d0
    have e1 := cells_below B3.out _ _ _ d1
    rcases hr3 with ⟨hnoy, rfl⟩ | ⟨hyesy, Py, cy, rfl, Ay⟩
    · have NOy := Lib.hid hnoy
      clear hnoy
      go_wp2_with fail
      refine (fnOther (k := kTyped) hta _ pf pt _).mono ?_
      rintro e w4 ⟨rfl, hb4⟩
      have NB := Lib.hid (alloc_here (w := w3) (o := (.cells #[(.iface Px (.pointer (some ⟨cx, 0, none⟩))), (.iface py (.pointer (some ⟨bky, 0, none⟩)))] 69)) rfl)
      have BX := Lib.hid (B3.out.trans ((below1 w3 (.cells #[(.iface Px (.pointer (some ⟨cx, 0, none⟩))), (.iface py (.pointer (some ⟨bky, 0, none⟩)))] 69)).mono B3.out.size))
      have BZ := Lib.hid (BX.out.trans (hb4.mono BX.out.size))
      have GZ := Lib.hid hb4
      have GX := Lib.hid (below1 w3 (.cells #[(.iface Px (.pointer (some ⟨cx, 0, none⟩))), (.iface py (.pointer (some ⟨bky, 0, none⟩)))] 69))
      clear hb4 e0 e1
      go_wp2_with fail
      go_ret
      refine ⟨BZ.out, .inr ⟨has_kid (by rw [LE.out]; simp) YESx.out, _, _, rfl, ?_⟩⟩
      rw [ren_other (by rw [KE.out]; decide)]
      exact .inr ⟨_, _, _, rfl, .inr ⟨B3.out.size, Nat.lt_of_lt_of_le (by simp) GZ.out.size⟩, cells_of ((GZ.out.block _ (by simp)).trans NB.out), .inr (.inr (.inr (.inr (.inr (.inl ⟨_, _, _, _, _, by rw [KE.out]; exact .tail _ (.head _), TE.out, NE.out, by rw [LE.out]; rfl, (by rw [ren_kind]; exact Jx.out.kind), (by rw [ren_kind]; exact Jy.out.kind), (AstAt.carry AAx.out (fun c hc => Nat.lt_of_lt_of_le (HL.out c hc) B1.out.size) B1.out.size G2.out.size (G3.out.trans (((GX.out).trans (GZ.out.mono GX.out.size)).mono G3.out.size))), (by rw [ren_none _ _ _ _ NOy.out]; exact Jy.out.ast.kept HL.out BZ.out), rfl⟩)))))⟩
    · have YESy := Lib.hid hyesy
      have AAy := Lib.hid Ay
      clear hyesy Ay
      go_wp2_with fail
      refine (fnOther (k := kTyped) hta _ pf pt _).mono ?_
      rintro e w4 ⟨rfl, hb4⟩
      have NB := Lib.hid (alloc_here (w := w3) (o := (.cells #[(.iface Px (.pointer (some ⟨cx, 0, none⟩))), (.iface Py (.pointer (some ⟨cy, 0, none⟩)))] 69)) rfl)
      have BX := Lib.hid (B3.out.trans ((below1 w3 (.cells #[(.iface Px (.pointer (some ⟨cx, 0, none⟩))), (.iface Py (.pointer (some ⟨cy, 0, none⟩)))] 69)).mono B3.out.size))
      have BZ := Lib.hid (BX.out.trans (hb4.mono BX.out.size))
      have GZ := Lib.hid hb4
      have GX := Lib.hid (below1 w3 (.cells #[(.iface Px (.pointer (some ⟨cx, 0, none⟩))), (.iface Py (.pointer (some ⟨cy, 0, none⟩)))] 69))
      clear hb4 e0 e1
      go_wp2_with fail
      go_ret
      refine ⟨BZ.out, .inr ⟨has_kid (by rw [LE.out]; simp) YESx.out, _, _, rfl, ?_⟩⟩
      rw [ren_other (by rw [KE.out]; decide)]
      exact .inr ⟨_, _, _, rfl, .inr ⟨B3.out.size, Nat.lt_of_lt_of_le (by simp) GZ.out.size⟩, cells_of ((GZ.out.block _ (by simp)).trans NB.out), .inr (.inr (.inr (.inr (.inr (.inl ⟨_, _, _, _, _, by rw [KE.out]; exact .tail _ (.head _), TE.out, NE.out, by rw [LE.out]; rfl, (by rw [ren_kind]; exact Jx.out.kind), (by rw [ren_kind]; exact Jy.out.kind), (AstAt.carry AAx.out (fun c hc => Nat.lt_of_lt_of_le (HL.out c hc) B1.out.size) B1.out.size G2.out.size (G3.out.trans (((GX.out).trans (GZ.out.mono GX.out.size)).mono G3.out.size))), (AstAt.carry AAy.out (fun c hc => Nat.lt_of_lt_of_le (HL.out c hc) B2.out.size) B2.out.size G3.out.size ((GX.out).trans (GZ.out.mono GX.out.size))), rfl⟩)))))⟩

set_option maxRecDepth 100000 in
set_option maxHeartbeats 4000000 in
theorem copyTypeWithQualifiers (f g : ByteArray) (pf pt ps : Nat) (d : Nat) (IH : CopyAll d) (w : World) (S : Nat → Prop) (t : Tree) (b : Nat) (x y : Tree) (u v : Value) (hk : t.kind = kTypeWithQualifiers) (ht : t.text = ByteArray.empty) (hn : t.num = 0) (hl : t.kids = [x, y]) (jx : Job w S d x u) (jy : Job w S d y v) (hS : S b) (low : ∀ c, S c → c < w.heap.size) (he : Env w f g pf pt ps) (d0 : w.cell? ⟨b, 0, none⟩ = some (u)) (d1 : w.cell? ⟨b, 1, none⟩ = some (v)) :
    Calls Tryz.prog 128 #[.pointer (some ⟨b, 0, none⟩), fnV pf pt, skV ps] w (CopySaid S w (d + 1) t f g) := by
  have hta : ∀ (a : Option Addr) (w : World), (Instr.typeAssert (.iface 84 (.pointer a)) 33 36 true).run Tryz.prog w = .ok (.tuple #[.pointer none, .bool false]) w := fun a w => by kernel_rfl
  have HPK : Hid (PtrK kTypeWithQualifiers 84) := by show PtrK _ _; unfold PtrK leafTab unaryTab binaryTab listTab; simp
  have HE := Lib.hid he
  have HS := Lib.hid hS
  have HL := Lib.hid low
  have H := Lib.hid IH
  unfold fnV skV
  have KE := Lib.hid hk
  have LE := Lib.hid hl
  have NE := Lib.hid hn
  have TE := Lib.hid ht
  obtain ⟨px, bkx, rfl, hpx⟩ := jx.ast.ptr jx.kind
  obtain ⟨Fx, hTx⟩ := turnsC hpx
  have hax := hTx.ahead
  have hmx := hTx.met
  have hcx := hTx.call
  have Tx := Lib.hid hTx
  have Jx := Lib.hid jx
  obtain ⟨py, bky, rfl, hpy⟩ := jy.ast.ptr jy.kind
  obtain ⟨Fy, hTy⟩ := turnsC hpy
  have hay := hTy.ahead
  have hmy := hTy.met
  have hcy := hTy.call
  have Ty := Lib.hid hTy
  have Jy := Lib.hid jy
  clear IH he hS low hk hl hn ht jx hpx hTx jy hpy hTy
  go_enter Tryz.func128, Tryz.ntmps128
  go_wp2_with fail
  refine (skipC HPK.out b f g pf pt ps w HE.out).mono ?_
  rintro e w1 ⟨rfl, hb1⟩
  have B1 := Lib.hid hb1
  clear hb1
  have e0 := cells_below B1.out _ _ _ d0
  have e1 := cells_below B1.out _ _ _ d1
  go_wp2_with fail
  refine (H.out w1 S x _ f g pf pt ps (Jx.out.below B1.out) (HE.out.below B1.out) px bkx Fx rfl Tx.out).mono ?_
  rintro e w2 ⟨hb2, hr2⟩
  have B2 := Lib.hid (B1.out.trans (hb2.mono B1.out.size))
  have G2 := Lib.hid hb2
  clear e0 e1
  clear hb2
  have e0 := cells_below B2.out _ _ _ d0
  have e1 := cells_below B2.out _ _ _ d1
  rcases hr2 with ⟨hnox, rfl⟩ | ⟨hyesx, Px, cx, rfl, Ax⟩
  · have NOx := Lib.hid hnox
    clear hnox
    go_wp2_with fail
    refine (H.out w2 S y _ f g pf pt ps (Jy.out.below B2.out) (HE.out.below B2.out) py bky Fy rfl Ty.out).mono ?_
    rintro e w3 ⟨hb3, hr3⟩
    have B3 := Lib.hid (B2.out.trans (hb3.mono B2.out.size))
    have G3 := Lib.hid hb3
    clear e0 e1
    clear hb3
    have e0 := cells_below B3.out _ _ _ d0
    have e1 := cells_below B3.out _ _ _ d1
    rcases hr3 with ⟨hnoy, rfl⟩ | ⟨hyesy, Py, cy, rfl, Ay⟩
    · have NOy := Lib.hid hnoy
      clear hnoy
      go_wp2_with fail
      refine (fnOther (k := kTypeWithQualifiers) hta b pf pt w3).mono ?_
      rintro e w4 ⟨rfl, hb4⟩
      have B4 := Lib.hid (B3.out.trans (hb4.mono B3.out.size))
      clear hb4 e0 e1
      go_wp2_with fail
      go_ret
      refine ⟨B4.out, .inl ⟨?_, rfl⟩⟩
      intro h
      rcases has_list (by rw [KE.out]; decide) LE.out h with h | h
      · exact NOx.out h
      · exact NOy.out h
    · have YESy := Lib.hid hyesy
      have AAy := Lib.hid Ay
      clear hyesy Ay
      go_wp2_with fail
      refine (fnOther (k := kTypeWithQualifiers) hta _ pf pt _).mono ?_
      rintro e w4 ⟨rfl, hb4⟩
      have NB := Lib.hid (alloc_here (w := w3) (o := (.cells #[(.iface px (.pointer (some ⟨bkx, 0, none⟩))), (.iface Py (.pointer (some ⟨cy, 0, none⟩)))] 86)) rfl)
      have BX := Lib.hid (B3.out.trans ((below1 w3 (.cells #[(.iface px (.pointer (some ⟨bkx, 0, none⟩))), (.iface Py (.pointer (some ⟨cy, 0, none⟩)))] 86)).mono B3.out.size))
      have BZ := Lib.hid (BX.out.trans (hb4.mono BX.out.size))
      have GZ := Lib.hid hb4
      have GX := Lib.hid (below1 w3 (.cells #[(.iface px (.pointer (some ⟨bkx, 0, none⟩))), (.iface Py (.pointer (some ⟨cy, 0, none⟩)))] 86))
      clear hb4 e0 e1
      go_wp2_with fail
      go_ret
      refine ⟨BZ.out, .inr ⟨has_kid (by rw [LE.out]; simp) YESy.out, _, _, rfl, ?_⟩⟩
      rw [ren_other (by rw [KE.out]; decide)]
      exact .inr ⟨_, _, _, rfl, .inr ⟨B3.out.size, Nat.lt_of_lt_of_le (by simp) GZ.out.size⟩, cells_of ((GZ.out.block _ (by simp)).trans NB.out), .inr (.inr (.inr (.inr (.inr (.inl ⟨_, _, _, _, _, by rw [KE.out]; exact .tail _ (.tail _ (.head _)), TE.out, NE.out, by rw [LE.out]; rfl, (by rw [ren_kind]; exact Jx.out.kind), (by rw [ren_kind]; exact Jy.out.kind), (by rw [ren_none _ _ _ _ NOx.out]; exact Jx.out.ast.kept HL.out BZ.out), (AstAt.carry AAy.out (fun c hc => Nat.lt_of_lt_of_le (HL.out c hc) B2.out.size) B2.out.size G3.out.size ((GX.out).trans (GZ.out.mono GX.out.size))), rfl⟩)))))⟩
  · have YESx := Lib.hid hyesx
    have AAx := Lib.hid Ax
    clear hyesx Ax
    go_wp2_with fail
    refine (H.out w2 S y _ f g pf pt ps (Jy.out.below B2.out) (HE.out.below B2.out) py bky Fy rfl Ty.out).mono ?_
    rintro e w3 ⟨hb3, hr3⟩
    have B3 := Lib.hid (B2.out.trans (hb3.mono B2.out.size))
    have G3 := Lib.hid hb3
    clear e0 e1
    clear hb3
    have e0 := cells_below B3.out _ _ _ d0
    have e1 := cells_below B3.out _ _ _ d1
    rcases hr3 with ⟨hnoy, rfl⟩ | ⟨hyesy, Py, cy, rfl, Ay⟩
    · have NOy := Lib.hid hnoy
      clear hnoy
      go_wp2_with fail
      refine (fnOther (k := kTypeWithQualifiers) hta _ pf pt _).mono ?_
      rintro e w4 ⟨rfl, hb4⟩
      have NB := Lib.hid (alloc_here (w := w3) (o := (.cells #[(.iface Px (.pointer (some ⟨cx, 0, none⟩))), (.iface py (.pointer (some ⟨bky, 0, none⟩)))] 86)) rfl)
      have BX := Lib.hid (B3.out.trans ((below1 w3 (.cells #[(.iface Px (.pointer (some ⟨cx, 0, none⟩))), (.iface py (.pointer (some ⟨bky, 0, none⟩)))] 86)).mono B3.out.size))
      have BZ := Lib.hid (BX.out.trans (hb4.mono BX.out.size))
      have GZ := Lib.hid hb4
      have GX := Lib.hid (below1 w3 (.cells #[(.iface Px (.pointer (some ⟨cx, 0, none⟩))), (.iface py (.pointer (some ⟨bky, 0, none⟩)))] 86))
      clear hb4 e0 e1
      go_wp2_with fail
      go_ret
      refine ⟨BZ.out, .inr ⟨has_kid (by rw [LE.out]; simp) YESx.out, _, _, rfl, ?_⟩⟩
      rw [ren_other (by rw [KE.out]; decide)]
      exact .inr ⟨_, _, _, rfl, .inr ⟨B3.out.size, Nat.lt_of_lt_of_le (by simp) GZ.out.size⟩, cells_of ((GZ.out.block _ (by simp)).trans NB.out), .inr (.inr (.inr (.inr (.inr (.inl ⟨_, _, _, _, _, by rw [KE.out]; exact .tail _ (.tail _ (.head _)), TE.out, NE.out, by rw [LE.out]; rfl, (by rw [ren_kind]; exact Jx.out.kind), (by rw [ren_kind]; exact Jy.out.kind), (AstAt.carry AAx.out (fun c hc => Nat.lt_of_lt_of_le (HL.out c hc) B1.out.size) B1.out.size G2.out.size (G3.out.trans (((GX.out).trans (GZ.out.mono GX.out.size)).mono G3.out.size))), (by rw [ren_none _ _ _ _ NOy.out]; exact Jy.out.ast.kept HL.out BZ.out), rfl⟩)))))⟩
    · have YESy := Lib.hid hyesy
      have AAy := Lib.hid Ay
      clear hyesy Ay
      go_wp2_with fail
      refine (fnOther (k := kTypeWithQualifiers) hta _ pf pt _).mono ?_
      rintro e w4 ⟨rfl, hb4⟩
      have NB := Lib.hid (alloc_here (w := w3) (o := (.cells #[(.iface Px (.pointer (some ⟨cx, 0, none⟩))), (.iface Py (.pointer (some ⟨cy, 0, none⟩)))] 86)) rfl)
      have BX := Lib.hid (B3.out.trans ((below1 w3 (.cells #[(.iface Px (.pointer (some ⟨cx, 0, none⟩))), (.iface Py (.pointer (some ⟨cy, 0, none⟩)))] 86)).mono B3.out.size))
      have BZ := Lib.hid (BX.out.trans (hb4.mono BX.out.size))
      have GZ := Lib.hid hb4
      have GX := Lib.hid (below1 w3 (.cells #[(.iface Px (.pointer (some ⟨cx, 0, none⟩))), (.iface Py (.pointer (some ⟨cy, 0, none⟩)))] 86))
      clear hb4 e0 e1
      go_wp2_with fail
      go_ret
      refine ⟨BZ.out, .inr ⟨has_kid (by rw [LE.out]; simp) YESx.out, _, _, rfl, ?_⟩⟩
      rw [ren_other (by rw [KE.out]; decide)]
      exact .inr ⟨_, _, _, rfl, .inr ⟨B3.out.size, Nat.lt_of_lt_of_le (by simp) GZ.out.size⟩, cells_of ((GZ.out.block _ (by simp)).trans NB.out), .inr (.inr (.inr (.inr (.inr (.inl ⟨_, _, _, _, _, by rw [KE.out]; exact .tail _ (.tail _ (.head _)), TE.out, NE.out, by rw [LE.out]; rfl, (by rw [ren_kind]; exact Jx.out.kind), (by rw [ren_kind]; exact Jy.out.kind), (AstAt.carry AAx.out (fun c hc => Nat.lt_of_lt_of_le (HL.out c hc) B1.out.size) B1.out.size G2.out.size (G3.out.trans (((GX.out).trans (GZ.out.mono GX.out.size)).mono G3.out.size))), (AstAt.carry AAy.out (fun c hc => Nat.lt_of_lt_of_le (HL.out c hc) B2.out.size) B2.out.size G3.out.size ((GX.out).trans (GZ.out.mono GX.out.size))), rfl⟩)))))⟩

set_option maxRecDepth 100000 in
set_option maxHeartbeats 4000000 in
theorem copyArrayType (f g : ByteArray) (pf pt ps : Nat) (d : Nat) (IH : CopyAll d) (w : World) (S : Nat → Prop) (t : Tree) (b : Nat) (x y : Tree) (u v : Value) (hk : t.kind = kArrayType) (ht : t.text = ByteArray.empty) (hn : t.num = 0) (hl : t.kids = [x, y]) (jx : Job w S d x u) (jy : Job w S d y v) (hS : S b) (low : ∀ c, S c → c < w.heap.size) (he : Env w f g pf pt ps) (d0 : w.cell? ⟨b, 0, none⟩ = some (u)) (d1 : w.cell? ⟨b, 1, none⟩ = some (v)) :
    Calls Tryz.prog 140 #[.pointer (some ⟨b, 0, none⟩), fnV pf pt, skV ps] w (CopySaid S w (d + 1) t f g) := by
  have hta : ∀ (a : Option Addr) (w : World), (Instr.typeAssert (.iface 101 (.pointer a)) 33 36 true).run Tryz.prog w = .ok (.tuple #[.pointer none, .bool false]) w := fun a w => by kernel_rfl
  have HPK : Hid (PtrK kArrayType 101) := by show PtrK _ _; unfold PtrK leafTab unaryTab binaryTab listTab; simp
  have HE := Lib.hid he
  have HS := Lib.hid hS
  have HL := Lib.hid low
  have H := Lib.hid IH
  unfold fnV skV
  have KE := Lib.hid hk
  have LE := Lib.hid hl
  have NE := Lib.hid hn
  have TE := Lib.hid ht
  obtain ⟨px, bkx, rfl, hpx⟩ := jx.ast.ptr jx.kind
  obtain ⟨Fx, hTx⟩ := turnsC hpx
  have hax := hTx.ahead
  have hmx := hTx.met
  have hcx := hTx.call
  have Tx := Lib.hid hTx
  have Jx := Lib.hid jx
  obtain ⟨py, bky, rfl, hpy⟩ := jy.ast.ptr jy.kind
  obtain ⟨Fy, hTy⟩ := turnsC hpy
  have hay := hTy.ahead
  have hmy := hTy.met
  have hcy := hTy.call
  have Ty := Lib.hid hTy
  have Jy := Lib.hid jy
  clear IH he hS low hk hl hn ht jx hpx hTx jy hpy hTy
  go_enter Tryz.func140, Tryz.ntmps140
  go_wp2_with fail
  refine (skipC HPK.out b f g pf pt ps w HE.out).mono ?_
  rintro e w1 ⟨rfl, hb1⟩
  have B1 := Lib.hid hb1
  clear hb1
  have e0 := cells_below B1.out _ _ _ d0
  have e1 := cells_below B1.out _ _ _ d1
  go_wp2_with fail
  refine (H.out w1 S x _ f g pf pt ps (Jx.out.below B1.out) (HE.out.below B1.out) px bkx Fx rfl Tx.out).mono ?_
  rintro e w2 ⟨hb2, hr2⟩
  have B2 := Lib.hid (B1.out.trans (hb2.mono B1.out.size))
  have G2 := Lib.hid hb2
  clear e0 e1
  clear hb2
  have e0 := cells_below B2.out _ _ _ d0
  have e1 := cells_below B2.out _ _ _ d1
  rcases hr2 with ⟨hnox, rfl⟩ | ⟨hyesx, Px, cx, rfl, Ax⟩
  · have NOx := Lib.hid hnox
    clear hnox
    go_wp2_with fail
    refine (H.out w2 S y _ f g pf pt ps (Jy.out.below B2.out) (HE.out.below B2.out) py bky Fy rfl Ty.out).mono ?_
    rintro e w3 ⟨hb3, hr3⟩
    have B3 := Lib.hid (B2.out.trans (hb3.mono B2.out.size))
    have G3 := Lib.hid hb3
    clear e0 e1
    clear hb3
    have e0 := cells_below B3.out _ _ _ d0
    have e1 := cells_below B3.out _ _ _ d1
    rcases hr3 with ⟨hnoy, rfl⟩ | ⟨hyesy, Py, cy, rfl, Ay⟩
    · have NOy := Lib.hid hnoy
      clear hnoy
      go_wp2_with fail
      refine (fnOther (k := kArrayType) hta b pf pt w3).mono ?_
      rintro e w4 ⟨rfl, hb4⟩
      have B4 := Lib.hid (B3.out.trans (hb4.mono B3.out.size))
      clear hb4 e0 e1
      go_wp2_with fail
      go_ret
      refine ⟨B4.out, .inl ⟨?_, rfl⟩⟩
      intro h
      rcases has_list (by rw [KE.out]; decide) LE.out h with h | h
      · exact NOx.out h
      · exact NOy.out h
    · have YESy := Lib.hid hyesy
      have AAy := Lib.hid Ay
      clear hyesy Ay
      go_wp2_with fail
      refine (fnOther (k := kArrayType) hta _ pf pt _).mono ?_
      rintro e w4 ⟨rfl, hb4⟩
      have NB := Lib.hid (alloc_here (w := w3) (o := (.cells #[(.iface px (.pointer (some ⟨bkx, 0, none⟩))), (.iface Py (.pointer (some ⟨cy, 0, none⟩)))] 103)) rfl)
      have BX := Lib.hid (B3.out.trans ((below1 w3 (.cells #[(.iface px (.pointer (some ⟨bkx, 0, none⟩))), (.iface Py (.pointer (some ⟨cy, 0, none⟩)))] 103)).mono B3.out.size))
      have BZ := Lib.hid (BX.out.trans (hb4.mono BX.out.size))
      have GZ := Lib.hid hb4
      have GX := Lib.hid (below1 w3 (.cells #[(.iface px (.pointer (some ⟨bkx, 0, none⟩))), (.iface Py (.pointer (some ⟨cy, 0, none⟩)))] 103))
      clear hb4 e0 e1
      go_wp2_with fail
      go_ret
      refine ⟨BZ.out, .inr ⟨has_kid (by rw [LE.out]; simp) YESy.out, _, _, rfl, ?_⟩⟩
      rw [ren_other (by rw [KE.out]; decide)]
      exact .inr ⟨_, _, _, rfl, .inr ⟨B3.out.size, Nat.lt_of_lt_of_le (by simp) GZ.out.size⟩, cells_of ((GZ.out.block _ (by simp)).trans NB.out), .inr (.inr (.inr (.inr (.inr (.inl ⟨_, _, _, _, _, by rw [KE.out]; exact .tail _ (.tail _ (.tail _ (.head _))), TE.out, NE.out, by rw [LE.out]; rfl, (by rw [ren_kind]; exact Jx.out.kind), (by rw [ren_kind]; exact Jy.out.kind), (by rw [ren_none _ _ _ _ NOx.out]; exact Jx.out.ast.kept HL.out BZ.out), (AstAt.carry AAy.out (fun c hc => Nat.lt_of_lt_of_le (HL.out c hc) B2.out.size) B2.out.size G3.out.size ((GX.out).trans (GZ.out.mono GX.out.size))), rfl⟩)))))⟩
  · have YESx := Lib.hid hyesx
    have AAx := Lib.hid Ax
    clear hyesx Ax
    go_wp2_with fail
    refine (H.out w2 S y _ f g pf pt ps (Jy.out.below B2.out) (HE.out.below B2.out) py bky Fy rfl Ty.out).mono ?_
    rintro e w3 ⟨hb3, hr3⟩
    have B3 := Lib.hid (B2.out.trans (hb3.mono B2.out.size))
    have G3 := Lib.hid hb3
    clear e0 e1
    clear hb3
    have e0 := cells_below B3.out _ _ _ d0
    have e1 := cells_below B3.out _ _ _ d1
    rcases hr3 with ⟨hnoy, rfl⟩ | ⟨hyesy, Py, cy, rfl, Ay⟩
    · have NOy := Lib.hid hnoy
      clear hnoy
      go_wp2_with fail
      refine (fnOther (k := kArrayType) hta _ pf pt _).mono ?_
      rintro e w4 ⟨rfl, hb4⟩
      have NB := Lib.hid (alloc_here (w := w3) (o := (.cells #[(.iface Px (.pointer (some ⟨cx, 0, none⟩))), (.iface py (.pointer (some ⟨bky, 0, none⟩)))] 103)) rfl)
      have BX := Lib.hid (B3.out.trans ((below1 w3 (.cells #[(.iface Px (.pointer (some ⟨cx, 0, none⟩))), (.iface py (.pointer (some ⟨bky, 0, none⟩)))] 103)).mono B3.out.size))
      have BZ := Lib.hid (BX.out.trans (hb4.mono BX.out.size))
      have GZ := Lib.hid hb4
      have GX := Lib.hid (below1 w3 (.cells #[(.iface Px (.pointer (some ⟨cx, 0, none⟩))), (.iface py (.pointer (some ⟨bky, 0, none⟩)))] 103))
      clear hb4 e0 e1
      go_wp2_with fail
      go_ret
      refine ⟨BZ.out, .inr ⟨has_kid (by rw [LE.out]; simp) YESx.out, _, _, rfl, ?_⟩⟩
      rw [ren_other (by rw [KE.out]; decide)]
      exact .inr ⟨_, _, _, rfl, .inr ⟨B3.out.size, Nat.lt_of_lt_of_le (by simp) GZ.out.size⟩, cells_of ((GZ.out.block _ (by simp)).trans NB.out), .inr (.inr (.inr (.inr (.inr (.inl ⟨_, _, _, _, _, by rw [KE.out]; exact .tail _ (.tail _ (.tail _ (.head _))), TE.out, NE.out, by rw [LE.out]; rfl, (by rw [ren_kind]; exact Jx.out.kind), (by rw [ren_kind]; exact Jy.out.kind), (AstAt.carry AAx.out (fun c hc => Nat.lt_of_lt_of_le (HL.out c hc) B1.out.size) B1.out.size G2.out.size (G3.out.trans (((GX.out).trans (GZ.out.mono GX.out.size)).mono G3.out.size))), (by rw [ren_none _ _ _ _ NOy.out]; exact Jy.out.ast.kept HL.out BZ.out), rfl⟩)))))⟩
    · have YESy := Lib.hid hyesy
      have AAy := Lib.hid Ay
      clear hyesy Ay
      go_wp2_with fail
      refine (fnOther (k := kArrayType) hta _ pf pt _).mono ?_
      rintro e w4 ⟨rfl, hb4⟩
      have NB := Lib.hid (alloc_here (w := w3) (o := (.cells #[(.iface Px (.pointer (some ⟨cx, 0, none⟩))), (.iface Py (.pointer (some ⟨cy, 0, none⟩)))] 103)) rfl)
      have BX := Lib.hid (B3.out.trans ((below1 w3 (.cells #[(.iface Px (.pointer (some ⟨cx, 0, none⟩))), (.iface Py (.pointer (some ⟨cy, 0, none⟩)))] 103)).mono B3.out.size))
      have BZ := Lib.hid (BX.out.trans (hb4.mono BX.out.size))
      have GZ := Lib.hid hb4
      have GX := Lib.hid (below1 w3 (.cells #[(.iface Px (.pointer (some ⟨cx, 0, none⟩))), (.iface Py (.pointer (some ⟨cy, 0, none⟩)))] 103))
      clear hb4 e0 e1
      go_wp2_with fail
      go_ret
      refine ⟨BZ.out, .inr ⟨has_kid (by rw [LE.out]; simp) YESx.out, _, _, rfl, ?_⟩⟩
      rw [ren_other (by rw [KE.out]; decide)]
      exact .inr ⟨_, _, _, rfl, .inr ⟨B3.out.size, Nat.lt_of_lt_of_le (by simp) GZ.out.size⟩, cells_of ((GZ.out.block _ (by simp)).trans NB.out), .inr (.inr (.inr (.inr (.inr (.inl ⟨_, _, _, _, _, by rw [KE.out]; exact .tail _ (.tail _ (.tail _ (.head _))), TE.out, NE.out, by rw [LE.out]; rfl, (by rw [ren_kind]; exact Jx.out.kind), (by rw [ren_kind]; exact Jy.out.kind), (AstAt.carry AAx.out (fun c hc => Nat.lt_of_lt_of_le (HL.out c hc) B1.out.size) B1.out.size G2.out.size (G3.out.trans (((GX.out).trans (GZ.out.mono GX.out.size)).mono G3.out.size))), (AstAt.carry AAy.out (fun c hc => Nat.lt_of_lt_of_le (HL.out c hc) B2.out.size) B2.out.size G3.out.size ((GX.out).trans (GZ.out.mono GX.out.size))), rfl⟩)))))⟩

end Go.Proofs.YtlfbmpenekiigaaGreatDoor
