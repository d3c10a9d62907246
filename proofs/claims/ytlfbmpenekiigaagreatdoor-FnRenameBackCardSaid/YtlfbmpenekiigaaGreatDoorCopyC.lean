/- Copy of elements with lists, with the closures of Rename; conditions: the element lies in memory, it is known what Copy makes of smaller ones. -/
import Derived.Test.YtlfbmpenekiigaaGreatDoorFill
import Derived.Test.YtlfbmpenekiigaaGreatDoorTab
namespace Go.Proofs.YtlfbmpenekiigaaGreatDoor
open Go.ChangeShapes Go.WideShapes Go.ChangeAt Go.RowKit
set_option linter.unusedVariables false

theorem below_of_grown {w w' : World} (h : w.grownBy w' none) : Below w.heap.size w w' := ⟨h.os, h.tape, h.output, h.size, fun k hk => h.block k hk (by simp)⟩

set_option maxRecDepth 100000 in
set_option maxHeartbeats 4000000 in
theorem copyQualifiers (f g : ByteArray) (pf pt ps : Nat) (d : Nat) (IH : CopyAll d) (w : World) (S : Nat → Prop) (t : Tree) (b : Nat) (la : Option Addr) (lc : Nat) (hk : t.kind = kQualifiers) (ht : t.text = ByteArray.empty) (hn : t.num = 0) (hne : ∀ x ∈ t.kids, x.kind ≠ ByteArray.empty) (hnov : ∀ x ∈ t.kids, All Okay d x) (hrow : RowAt w S (AstAt w S d) t.kids (.slice la t.kids.length lc)) (hfew : t.kids.length ≤ 200) (hS : S b) (low : ∀ c, S c → c < w.heap.size) (he : Env w f g pf pt ps) (d0 : w.cell? ⟨b, 0, none⟩ = some (.slice la t.kids.length lc)) :
    Calls Tryz.prog 131 #[.pointer (some ⟨b, 0, none⟩), fnV pf pt, skV ps] w (CopySaid S w (d + 1) t f g) := by
  have hta : ∀ (a : Option Addr) (w : World), (Instr.typeAssert (.iface 87 (.pointer a)) 33 36 true).run Tryz.prog w = .ok (.tuple #[.pointer none, .bool false]) w := fun a w => by kernel_rfl
  have HPK : Hid (PtrK kQualifiers 87) := by show PtrK _ _; unfold PtrK leafTab unaryTab binaryTab listTab; simp
  have HE := Lib.hid he
  have HS := Lib.hid hS
  have HL := Lib.hid low
  have H := Lib.hid IH
  unfold fnV skV
  have KE := Lib.hid hk
  have NE := Lib.hid hn
  have TE := Lib.hid ht
  have NEL := Lib.hid hne
  have NOV := Lib.hid hnov
  obtain ⟨i0, hi0, hz0, hz1, hz2⟩ := info_parts Tryz.infoAst2
  have ROW : Hid (∀ (i : Nat) (x : Tree), t.kids[i]? = some x → ∃ g u, la = some ⟨g, 0, none⟩ ∧ S g ∧ w.cell? ⟨g, i, none⟩ = some u ∧ AstAt w S d x u) := by
    obtain ⟨a', c', e', h1, h2, h3⟩ := hrow
    obtain ⟨rfl, rfl⟩ : la = a' ∧ lc = c' := by simpa using e'
    exact h3
  have hlc : t.kids.length ≤ lc := by obtain ⟨a', c', e', h1, _⟩ := hrow; simp at e'; omega
  clear IH he hS low hk hn ht hne hnov hrow
  go_enter Tryz.func131, Tryz.ntmps131
  go_wp2_with fail
  refine (skipC HPK.out b f g pf pt ps w HE.out).mono ?_
  rintro e w1 ⟨rfl, hb1⟩
  have B1 := Lib.hid hb1
  clear hb1
  have e0 := cells_below B1.out _ _ _ d0
  go_wp2_with (at_make; refine wpList_make_full _ rfl (.tmp 21) (.tmp 21) 63 rfl w1.heap.size 33 i0 .nilIface 1 Tryz.underlying63 hi0 hz0 hz1 .i64 .i64 _ _ t.kids.length rfl rfl rfl rfl (by rw [hz2]; omega) (by unfold maxLen; omega) (Nat.le_refl _) ?_; intro wm hom hgm; have OM := Lib.hid hom; have GM := Lib.hid (below_of_grown hgm); clear hom hgm; have BM := Lib.hid (B1.out.trans (GM.out.mono B1.out.size)); clear e0; have e0 := cells_below BM.out _ _ _ d0)
  go_loopw [7, 28] (fun c i wr => ∃ (j : Nat) (xs : List Value) (cb : Bool), j ≤ t.kids.length ∧ i = .int .i64 j ∧ c = .bool cb ∧ Hid (Fill w1 wr S w1.heap.size xs d f g t.kids j) ∧ Hid (Flag (False) f d t.kids j cb)) (fun _ i _ => t.kids.length - (intOf i).toNat)
  case atStart => exact ⟨0, _, false, Nat.zero_le _, rfl, rfl, Fill.start OM.out GM.out, Flag.start (by simp)⟩
  case round =>
    obtain ⟨j, xs, cb, hj, rfl, rfl, FL, FG⟩ := hrel
    have BR := Lib.hid (B1.out.trans (FL.out.2.1.mono B1.out.size))
    clear e0
    have e0 := cells_below BR.out _ _ _ d0
    by_cases hlt : j < t.kids.length
    · skip
      obtain ⟨x, hx⟩ : ∃ x, t.kids[j]? = some x := ⟨_, List.getElem?_eq_getElem hlt⟩
      obtain ⟨ga, u, rfl, hSg, hcell, hast⟩ := ROW.out j x hx
      have hm := List.mem_of_getElem? hx
      obtain ⟨px, bkx, rfl, hpx⟩ := hast.ptr (NEL.out x hm)
      obtain ⟨Fx, hTx⟩ := turnsC hpx
      have hax := hTx.ahead
      have hmx := hTx.met
      have hcx := hTx.call
      have Tx := Lib.hid hTx
      have Jx := Lib.hid (show Job w S d x _ from ⟨hast, NEL.out x hm, NOV.out x hm, HL.out⟩)
      have HX := Lib.hid hx
      have cw := cells_below BR.out _ _ _ hcell
      clear hTx hpx hast hm hx hSg hcell
      go_wp2_with fail
      refine (H.out wr S x _ f g pf pt ps (Jx.out.below BR.out) (HE.out.below BR.out) px bkx Fx rfl Tx.out).mono ?_
      rintro e wq ⟨hbq, hrq⟩
      have GQ := Lib.hid hbq
      have OW := Lib.hid (FL.out.1.kept (grown_of_below hbq) (.inr (by simp [Value.ownBlock])))
      obtain ⟨uo, huo⟩ : ∃ uo, xs[j]? = some uo := ⟨_, List.getElem?_eq_getElem (by have := FL.out.1.1; omega)⟩
      have hco : wq.cell? ⟨w1.heap.size, j, none⟩ = some uo := (OW.out.cellAt j (by omega)).trans huo
      have hfo : wq.frozen? ⟨w1.heap.size, j, none⟩ = false := OW.out.frozenAt j
      clear e0 hbq cw huo
      rcases hrq with ⟨hno, rfl⟩ | ⟨hyes, P, c, rfl, A⟩
      · have NO := Lib.hid hno
        clear hno
        go_wp2_with fail
        go_roundw
        case rel => exact ⟨j + 1, _, cb, by omega, by go_num, rfl, FL.out.step (fun c hc => Nat.lt_of_lt_of_le (HL.out c hc) B1.out.size) GQ.out HX.out (by rw [ren_none _ _ _ _ NO.out]; exact (Jx.out.below BR.out).ast.kept (Jx.out.below BR.out).low GQ.out), FG.out.no HX.out NO.out⟩
        case measure => simp [intOf]; omega
      · have YES := Lib.hid hyes
        have AA := Lib.hid A
        clear hyes A
        go_wp2_with fail
        go_roundw
        case rel => exact ⟨j + 1, _, true, by omega, by go_num, rfl, FL.out.step (fun c hc => Nat.lt_of_lt_of_le (HL.out c hc) B1.out.size) GQ.out HX.out AA.out, Flag.yes HX.out YES.out⟩
        case measure => simp [intOf]; omega
    · skip
      obtain rfl : j = t.kids.length := by omega
      clear hlt hj
      cases cb with
      | false =>
        have NONE := Lib.hid FG.out.none
        go_wp2_with fail
        refine (fnOther (k := kQualifiers) hta b pf pt wr).mono ?_
        rintro e wz ⟨rfl, hbz⟩
        have BZ := Lib.hid (BR.out.trans (hbz.mono BR.out.size))
        clear hbz
        go_wp2_with fail
        go_ret
        refine ⟨BZ.out, .inl ⟨?_, rfl⟩⟩
        intro h
        obtain ⟨x, hx, hh⟩ := has_of_kids (by rw [KE.out]; decide) h
        exact NONE.out.2 x hx hh
      | true =>
        have SOME := Lib.hid FG.out.some
        go_wp2_with fail
        refine (fnOther (k := kQualifiers) hta _ pf pt _).mono ?_
        rintro e wz ⟨rfl, hbz⟩
        have NB := Lib.hid (alloc_here (w := wr) (o := (.cells #[.slice (some ⟨w1.heap.size, 0, none⟩) t.kids.length t.kids.length] 89)) rfl)
        have GX := Lib.hid (below1 wr (.cells #[.slice (some ⟨w1.heap.size, 0, none⟩) t.kids.length t.kids.length] 89))
        have BX := Lib.hid (BR.out.trans (GX.out.mono BR.out.size))
        have BZ := Lib.hid (BX.out.trans (hbz.mono BX.out.size))
        have GZ := Lib.hid hbz
        clear hbz
        go_wp2_with fail
        go_ret
        obtain ⟨x, hx, hh⟩ : ∃ x ∈ t.kids, has f d x := SOME.out.resolve_left (fun h => h)
        refine ⟨BZ.out, .inr ⟨has_kid hx hh, _, _, rfl, ?_⟩⟩
        rw [ren_other (by rw [KE.out]; decide)]
        exact .inr ⟨_, _, _, rfl, .inr ⟨BR.out.size, Nat.lt_of_lt_of_le (by simp) GZ.out.size⟩, cells_of ((GZ.out.block _ (by simp)).trans NB.out), .inr (.inr (.inr (.inr (.inr (.inr (.inr (.inl ⟨_, by rw [KE.out]; exact .head _, TE.out, NE.out, (by intro x hx; obtain ⟨y, hy, rfl⟩ := List.mem_map.1 hx; rw [ren_kind]; exact NEL.out y hy), FL.out.done (fun c hc => Nat.lt_of_lt_of_le (HL.out c hc) B1.out.size) B1.out.size (GX.out.trans (GZ.out.mono GX.out.size)) (by omega), by simp⟩)))))))⟩

set_option maxRecDepth 100000 in
set_option maxHeartbeats 4000000 in
theorem copyArgumentPack (f g : ByteArray) (pf pt ps : Nat) (d : Nat) (IH : CopyAll d) (w : World) (S : Nat → Prop) (t : Tree) (b : Nat) (la : Option Addr) (lc : Nat) (hk : t.kind = kArgumentPack) (ht : t.text = ByteArray.empty) (hn : t.num = 0) (hne : ∀ x ∈ t.kids, x.kind ≠ ByteArray.empty) (hnov : ∀ x ∈ t.kids, All Okay d x) (hrow : RowAt w S (AstAt w S d) t.kids (.slice la t.kids.length lc)) (hfew : t.kids.length ≤ 200) (hS : S b) (low : ∀ c, S c → c < w.heap.size) (he : Env w f g pf pt ps) (d0 : w.cell? ⟨b, 0, none⟩ = some (.slice la t.kids.length lc)) :
    Calls Tryz.prog 161 #[.pointer (some ⟨b, 0, none⟩), fnV pf pt, skV ps] w (CopySaid S w (d + 1) t f g) := by
  have hta : ∀ (a : Option Addr) (w : World), (Instr.typeAssert (.iface 122 (.pointer a)) 33 36 true).run Tryz.prog w = .ok (.tuple #[.pointer none, .bool false]) w := fun a w => by kernel_rfl
  have HPK : Hid (PtrK kArgumentPack 122) := by show PtrK _ _; unfold PtrK leafTab unaryTab binaryTab listTab; simp
  have HE := Lib.hid he
  have HS := Lib.hid hS
  have HL := Lib.hid low
  have H := Lib.hid IH
  unfold fnV skV
  have KE := Lib.hid hk
  have NE := Lib.hid hn
  have TE := Lib.hid ht
  have NEL := Lib.hid hne
  have NOV := Lib.hid hnov
  obtain ⟨i0, hi0, hz0, hz1, hz2⟩ := info_parts Tryz.infoAst2
  have ROW : Hid (∀ (i : Nat) (x : Tree), t.kids[i]? = some x → ∃ g u, la = some ⟨g, 0, none⟩ ∧ S g ∧ w.cell? ⟨g, i, none⟩ = some u ∧ AstAt w S d x u) := by
    obtain ⟨a', c', e', h1, h2, h3⟩ := hrow
    obtain ⟨rfl, rfl⟩ : la = a' ∧ lc = c' := by simpa using e'
    exact h3
  have hlc : t.kids.length ≤ lc := by obtain ⟨a', c', e', h1, _⟩ := hrow; simp at e'; omega
  clear IH he hS low hk hn ht hne hnov hrow
  go_enter Tryz.func161, Tryz.ntmps161
  go_wp2_with fail
  refine (skipC HPK.out b f g pf pt ps w HE.out).mono ?_
  rintro e w1 ⟨rfl, hb1⟩
  have B1 := Lib.hid hb1
  clear hb1
  have e0 := cells_below B1.out _ _ _ d0
  go_wp2_with (at_make; refine wpList_make_full _ rfl (.tmp 21) (.tmp 21) 63 rfl w1.heap.size 33 i0 .nilIface 1 Tryz.underlying63 hi0 hz0 hz1 .i64 .i64 _ _ t.kids.length rfl rfl rfl rfl (by rw [hz2]; omega) (by unfold maxLen; omega) (Nat.le_refl _) ?_; intro wm hom hgm; have OM := Lib.hid hom; have GM := Lib.hid (below_of_grown hgm); clear hom hgm; have BM := Lib.hid (B1.out.trans (GM.out.mono B1.out.size)); clear e0; have e0 := cells_below BM.out _ _ _ d0)
  go_loopw [8, 28] (fun c i wr => ∃ (j : Nat) (xs : List Value) (cb : Bool), j ≤ t.kids.length ∧ i = .int .i64 j ∧ c = .bool cb ∧ Hid (Fill w1 wr S w1.heap.size xs d f g t.kids j) ∧ Hid (Flag (False) f d t.kids j cb)) (fun _ i _ => t.kids.length - (intOf i).toNat)
  case atStart => exact ⟨0, _, false, Nat.zero_le _, rfl, rfl, Fill.start OM.out GM.out, Flag.start (by simp)⟩
  case round =>
    obtain ⟨j, xs, cb, hj, rfl, rfl, FL, FG⟩ := hrel
    have BR := Lib.hid (B1.out.trans (FL.out.2.1.mono B1.out.size))
    clear e0
    have e0 := cells_below BR.out _ _ _ d0
    by_cases hlt : j < t.kids.length
    · skip
      obtain ⟨x, hx⟩ : ∃ x, t.kids[j]? = some x := ⟨_, List.getElem?_eq_getElem hlt⟩
      obtain ⟨ga, u, rfl, hSg, hcell, hast⟩ := ROW.out j x hx
      have hm := List.mem_of_getElem? hx
      obtain ⟨px, bkx, rfl, hpx⟩ := hast.ptr (NEL.out x hm)
      obtain ⟨Fx, hTx⟩ := turnsC hpx
      have hax := hTx.ahead
      have hmx := hTx.met
      have hcx := hTx.call
      have Tx := Lib.hid hTx
      have Jx := Lib.hid (show Job w S d x _ from ⟨hast, NEL.out x hm, NOV.out x hm, HL.out⟩)
      have HX := Lib.hid hx
      have cw := cells_below BR.out _ _ _ hcell
      clear hTx hpx hast hm hx hSg hcell
      go_wp2_with fail
      refine (H.out wr S x _ f g pf pt ps (Jx.out.below BR.out) (HE.out.below BR.out) px bkx Fx rfl Tx.out).mono ?_
      rintro e wq ⟨hbq, hrq⟩
      have GQ := Lib.hid hbq
      have OW := Lib.hid (FL.out.1.kept (grown_of_below hbq) (.inr (by simp [Value.ownBlock])))
      obtain ⟨uo, huo⟩ : ∃ uo, xs[j]? = some uo := ⟨_, List.getElem?_eq_getElem (by have := FL.out.1.1; omega)⟩
      have hco : wq.cell? ⟨w1.heap.size, j, none⟩ = some uo := (OW.out.cellAt j (by omega)).trans huo
      have hfo : wq.frozen? ⟨w1.heap.size, j, none⟩ = false := OW.out.frozenAt j
      clear e0 hbq cw huo
      rcases hrq with ⟨hno, rfl⟩ | ⟨hyes, P, c, rfl, A⟩
      · have NO := Lib.hid hno
        clear hno
        go_wp2_with fail
        go_roundw
        case rel => exact ⟨j + 1, _, cb, by omega, by go_num, rfl, FL.out.step (fun c hc => Nat.lt_of_lt_of_le (HL.out c hc) B1.out.size) GQ.out HX.out (by rw [ren_none _ _ _ _ NO.out]; exact (Jx.out.below BR.out).ast.kept (Jx.out.below BR.out).low GQ.out), FG.out.no HX.out NO.out⟩
        case measure => simp [intOf]; omega
      · have YES := Lib.hid hyes
        have AA := Lib.hid A
        clear hyes A
        go_wp2_with fail
        go_roundw
        case rel => exact ⟨j + 1, _, true, by omega, by go_num, rfl, FL.out.step (fun c hc => Nat.lt_of_lt_of_le (HL.out c hc) B1.out.size) GQ.out HX.out AA.out, Flag.yes HX.out YES.out⟩
        case measure => simp [intOf]; omega
    · skip
      obtain rfl : j = t.kids.length := by omega
      clear hlt hj
      cases cb with
      | false =>
        have NONE := Lib.hid FG.out.none
        go_wp2_with fail
        refine (fnOther (k := kArgumentPack) hta b pf pt wr).mono ?_
        rintro e wz ⟨rfl, hbz⟩
        have BZ := Lib.hid (BR.out.trans (hbz.mono BR.out.size))
        clear hbz
        go_wp2_with fail
        go_ret
        refine ⟨BZ.out, .inl ⟨?_, rfl⟩⟩
        intro h
        obtain ⟨x, hx, hh⟩ := has_of_kids (by rw [KE.out]; decide) h
        exact NONE.out.2 x hx hh
      | true =>
        have SOME := Lib.hid FG.out.some
        go_wp2_with fail
        refine (fnOther (k := kArgumentPack) hta _ pf pt _).mono ?_
        rintro e wz ⟨rfl, hbz⟩
        have NB := Lib.hid (alloc_here (w := wr) (o := (.cells #[.slice (some ⟨w1.heap.size, 0, none⟩) t.kids.length t.kids.length] 124)) rfl)
        have GX := Lib.hid (below1 wr (.cells #[.slice (some ⟨w1.heap.size, 0, none⟩) t.kids.length t.kids.length] 124))
        have BX := Lib.hid (BR.out.trans (GX.out.mono BR.out.size))
        have BZ := Lib.hid (BX.out.trans (hbz.mono BX.out.size))
        have GZ := Lib.hid hbz
        clear hbz
        go_wp2_with fail
        go_ret
        obtain ⟨x, hx, hh⟩ : ∃ x ∈ t.kids, has f d x := SOME.out.resolve_left (fun h => h)
        refine ⟨BZ.out, .inr ⟨has_kid hx hh, _, _, rfl, ?_⟩⟩
        rw [ren_other (by rw [KE.out]; decide)]
        exact .inr ⟨_, _, _, rfl, .inr ⟨BR.out.size, Nat.lt_of_lt_of_le (by simp) GZ.out.size⟩, cells_of ((GZ.out.block _ (by simp)).trans NB.out), .inr (.inr (.inr (.inr (.inr (.inr (.inr (.inl ⟨_, by rw [KE.out]; exact .tail _ (.head _), TE.out, NE.out, (by intro x hx; obtain ⟨y, hy, rfl⟩ := List.mem_map.1 hx; rw [ren_kind]; exact NEL.out y hy), FL.out.done (fun c hc => Nat.lt_of_lt_of_le (HL.out c hc) B1.out.size) B1.out.size (GX.out.trans (GZ.out.mono GX.out.size)) (by omega), by simp⟩)))))))⟩

theorem RowAt.some0 (w : World) (S : Nat → Prop) (N : Tree → Value → Prop) (a : Option Addr) : RowAt w S N [] (.slice a 0 0) := ⟨_, 0, rfl, Nat.le_refl _, by omega, fun i x h => by simp at h⟩

set_option maxRecDepth 100000 in
set_option maxHeartbeats 4000000 in
theorem copyQualifier (f g : ByteArray) (pf pt ps : Nat) (d : Nat) (IH : CopyAll d) (w : World) (S : Nat → Prop) (t : Tree) (b : Nat) (la : Option Addr) (lc : Nat) (hk : t.kind = kQualifier) (hl : t.kids = []) (hS : S b) (low : ∀ c, S c → c < w.heap.size) (he : Env w f g pf pt ps) (d0 : w.cell? ⟨b, 0, none⟩ = some (.string t.text)) (d1 : w.cell? ⟨b, 1, none⟩ = some (.slice la 0 lc)) :
    Calls Tryz.prog 134 #[.pointer (some ⟨b, 0, none⟩), fnV pf pt, skV ps] w (CopySaid S w (d + 1) t f g) := by
  have hta : ∀ (a : Option Addr) (w : World), (Instr.typeAssert (.iface 90 (.pointer a)) 33 36 true).run Tryz.prog w = .ok (.tuple #[.pointer none, .bool false]) w := fun a w => by kernel_rfl
  have HPK : Hid (PtrK kQualifier 90) := by show PtrK _ _; unfold PtrK leafTab unaryTab binaryTab listTab; simp
  have HE := Lib.hid he
  have HS := Lib.hid hS
  have HL := Lib.hid low
  have H := Lib.hid IH
  unfold fnV skV
  have KE := Lib.hid hk
  have LE := Lib.hid hl
  obtain ⟨i0, hi0, hz0, hz1, hz2⟩ := info_parts Tryz.infoAst2
  clear IH he hS low hk hl
  go_enter Tryz.func134, Tryz.ntmps134
  go_wp2_with fail
  refine (skipC HPK.out b f g pf pt ps w HE.out).mono ?_
  rintro e w1 ⟨rfl, hb1⟩
  have B1 := Lib.hid hb1
  clear hb1
  have e0 := cells_below B1.out _ _ _ d0
  have e1 := cells_below B1.out _ _ _ d1
  go_wp2_with (at_make; refine wpList_make_full _ rfl (.tmp 21) (.tmp 21) 63 rfl w1.heap.size 33 i0 .nilIface 1 Tryz.underlying63 hi0 hz0 hz1 .i64 .i64 _ _ 0 rfl rfl rfl rfl (by rw [hz2]; omega) (by unfold maxLen; omega) (Nat.le_refl _) ?_; intro wm hom hgm; have OM := Lib.hid hom; have GM := Lib.hid (below_of_grown hgm); clear hom hgm; have BM := Lib.hid (B1.out.trans (GM.out.mono B1.out.size)); clear e0 e1; have e0 := cells_below BM.out _ _ _ d0; have e1 := cells_below BM.out _ _ _ d1)
  go_loopw [8, 28] (fun c i wr => i = .int .i64 0 ∧ c = .bool false ∧ wm = wr) (fun _ _ _ => 0)
  case atStart => exact ⟨rfl, rfl, rfl⟩
  case round =>
    obtain ⟨rfl, rfl, rfl⟩ := hrel
    go_wp2_with fail
    refine (fnOther (k := kQualifier) hta b pf pt _).mono ?_
    rintro e wz ⟨rfl, hbz⟩
    have BZ := Lib.hid (BM.out.trans (hbz.mono BM.out.size))
    clear hbz
    go_wp2_with fail
    go_ret
    refine ⟨BZ.out, .inl ⟨?_, rfl⟩⟩
    intro h
    obtain ⟨x, hx, hh⟩ := has_of_kids (by rw [KE.out]; decide) h
    rw [LE.out] at hx
    cases hx

set_option maxRecDepth 100000 in
set_option maxHeartbeats 4000000 in
theorem copyClosure (f g : ByteArray) (pf pt ps : Nat) (d : Nat) (IH : CopyAll d) (w : World) (S : Nat → Prop) (t : Tree) (b : Nat) (la0 la : Option Addr) (lc0 lc : Nat) (hk : t.kind = kClosure) (ht : t.text = ByteArray.empty) (hne : ∀ x ∈ t.kids, x.kind ≠ ByteArray.empty) (hnov : ∀ x ∈ t.kids, All Okay d x) (hrow : RowAt w S (AstAt w S d) t.kids (.slice la t.kids.length lc)) (hfew : t.kids.length ≤ 200) (hS : S b) (low : ∀ c, S c → c < w.heap.size) (he : Env w f g pf pt ps) (d0 : w.cell? ⟨b, 0, none⟩ = some (.slice la0 0 lc0)) (d1 : w.cell? ⟨b, 1, none⟩ = some (.nilIface)) (d2 : w.cell? ⟨b, 2, none⟩ = some (.slice la t.kids.length lc)) (d3 : w.cell? ⟨b, 3, none⟩ = some (.int .i64 t.num)) (d4 : w.cell? ⟨b, 4, none⟩ = some (.nilIface)) :
    Calls Tryz.prog 167 #[.pointer (some ⟨b, 0, none⟩), fnV pf pt, skV ps] w (CopySaid S w (d + 1) t f g) := by
  have hta : ∀ (a : Option Addr) (w : World), (Instr.typeAssert (.iface 129 (.pointer a)) 33 36 true).run Tryz.prog w = .ok (.tuple #[.pointer none, .bool false]) w := fun a w => by kernel_rfl
  have HPK : Hid (PtrK kClosure 129) := by show PtrK _ _; unfold PtrK leafTab unaryTab binaryTab listTab; simp
  have HE := Lib.hid he
  have HS := Lib.hid hS
  have HL := Lib.hid low
  have H := Lib.hid IH
  unfold fnV skV
  have KE := Lib.hid hk
  have TE := Lib.hid ht
  have NEL := Lib.hid hne
  have NOV := Lib.hid hnov
  obtain ⟨i0, hi0, hz0, hz1, hz2⟩ := info_parts Tryz.infoAst2
  have ROW : Hid (∀ (i : Nat) (x : Tree), t.kids[i]? = some x → ∃ g u, la = some ⟨g, 0, none⟩ ∧ S g ∧ w.cell? ⟨g, i, none⟩ = some u ∧ AstAt w S d x u) := by
    obtain ⟨a', c', e', h1, h2, h3⟩ := hrow
    obtain ⟨rfl, rfl⟩ : la = a' ∧ lc = c' := by simpa using e'
    exact h3
  have hlc : t.kids.length ≤ lc := by obtain ⟨a', c', e', h1, _⟩ := hrow; simp at e'; omega
  clear IH he hS low hk ht hne hnov hrow
  go_enter Tryz.func167, Tryz.ntmps167
  go_wp2_with fail
  refine (skipC HPK.out b f g pf pt ps w HE.out).mono ?_
  rintro e w1 ⟨rfl, hb1⟩
  have B1 := Lib.hid hb1
  clear hb1
  have e0 := cells_below B1.out _ _ _ d0
  have e1 := cells_below B1.out _ _ _ d1
  have e2 := cells_below B1.out _ _ _ d2
  have e3 := cells_below B1.out _ _ _ d3
  have e4 := cells_below B1.out _ _ _ d4
  go_wp2_with (at_make; refine wpList_make_full _ rfl (.tmp 27) (.tmp 27) 63 rfl w1.heap.size 33 i0 .nilIface 1 Tryz.underlying63 hi0 hz0 hz1 .i64 .i64 _ _ 0 rfl rfl rfl rfl (by rw [hz2]; omega) (by unfold maxLen; omega) (Nat.le_refl _) ?_; intro wm0 hom hgm; have OM := Lib.hid hom; have GM := Lib.hid (below_of_grown hgm); clear hom hgm; have BM := Lib.hid (B1.out.trans (GM.out.mono B1.out.size)); clear e0 e1 e2 e3 e4; have e0 := cells_below BM.out _ _ _ d0; have e1 := cells_below BM.out _ _ _ d1; have e2 := cells_below BM.out _ _ _ d2; have e3 := cells_below BM.out _ _ _ d3; have e4 := cells_below BM.out _ _ _ d4)
  go_loopw [7, 34] (fun c i wr => i = .int .i64 0 ∧ c = .bool false ∧ wm0 = wr) (fun _ _ _ => 0)
  case atStart => exact ⟨rfl, rfl, rfl⟩
  case round =>
    obtain ⟨rfl, rfl, rfl⟩ := hrel
    have B2 := Lib.hid BM.out
    have GM0 := Lib.hid GM.out
    clear OM GM BM
    go_wp2_with (at_make; refine wpList_make_full _ rfl (.tmp 76) (.tmp 76) 63 rfl wm0.heap.size 33 i0 .nilIface 1 Tryz.underlying63 hi0 hz0 hz1 .i64 .i64 _ _ t.kids.length rfl rfl rfl rfl (by rw [hz2]; omega) (by unfold maxLen; omega) (Nat.le_refl _) ?_; intro wm hom hgm; have OM := Lib.hid hom; have GM := Lib.hid (below_of_grown hgm); clear hom hgm; have BM := Lib.hid (B2.out.trans (GM.out.mono B2.out.size)); clear e0 e1 e2 e3 e4; have e0 := cells_below BM.out _ _ _ d0; have e1 := cells_below BM.out _ _ _ d1; have e2 := cells_below BM.out _ _ _ d2; have e3 := cells_below BM.out _ _ _ d3; have e4 := cells_below BM.out _ _ _ d4)
    go_loopw [7, 83] (fun c i wr => ∃ (j : Nat) (xs : List Value) (cb : Bool), j ≤ t.kids.length ∧ i = .int .i64 j ∧ c = .bool cb ∧ Hid (Fill wm0 wr S wm0.heap.size xs d f g t.kids j) ∧ Hid (Flag (False) f d t.kids j cb)) (fun _ i _ => t.kids.length - (intOf i).toNat)
    case atStart => exact ⟨0, _, false, Nat.zero_le _, rfl, rfl, Fill.start OM.out GM.out, Flag.start (by simp)⟩
    case round =>
      obtain ⟨j, xs, cb, hj, rfl, rfl, FL, FG⟩ := hrel
      have BR := Lib.hid (B2.out.trans (FL.out.2.1.mono B2.out.size))
      clear e0 e1 e2 e3 e4
      have e0 := cells_below BR.out _ _ _ d0
      have e1 := cells_below BR.out _ _ _ d1
      have e2 := cells_below BR.out _ _ _ d2
      have e3 := cells_below BR.out _ _ _ d3
      have e4 := cells_below BR.out _ _ _ d4
      by_cases hlt : j < t.kids.length
      · skip
        obtain ⟨x, hx⟩ : ∃ x, t.kids[j]? = some x := ⟨_, List.getElem?_eq_getElem hlt⟩
        obtain ⟨ga, u, rfl, hSg, hcell, hast⟩ := ROW.out j x hx
        have hm := List.mem_of_getElem? hx
        obtain ⟨px, bkx, rfl, hpx⟩ := hast.ptr (NEL.out x hm)
        obtain ⟨Fx, hTx⟩ := turnsC hpx
        have hax := hTx.ahead
        have hmx := hTx.met
        have hcx := hTx.call
        have Tx := Lib.hid hTx
        have Jx := Lib.hid (show Job w S d x _ from ⟨hast, NEL.out x hm, NOV.out x hm, HL.out⟩)
        have HX := Lib.hid hx
        have cw := cells_below BR.out _ _ _ hcell
        clear hTx hpx hast hm hx hSg hcell
        go_wp2_with fail
        refine (H.out wr S x _ f g pf pt ps (Jx.out.below BR.out) (HE.out.below BR.out) px bkx Fx rfl Tx.out).mono ?_
        rintro e wq ⟨hbq, hrq⟩
        have GQ := Lib.hid hbq
        have OW := Lib.hid (FL.out.1.kept (grown_of_below hbq) (.inr (by simp [Value.ownBlock])))
        obtain ⟨uo, huo⟩ : ∃ uo, xs[j]? = some uo := ⟨_, List.getElem?_eq_getElem (by have := FL.out.1.1; omega)⟩
        have hco : wq.cell? ⟨wm0.heap.size, j, none⟩ = some uo := (OW.out.cellAt j (by omega)).trans huo
        have hfo : wq.frozen? ⟨wm0.heap.size, j, none⟩ = false := OW.out.frozenAt j
        clear e0 e1 e2 e3 e4 hbq cw huo
        rcases hrq with ⟨hno, rfl⟩ | ⟨hyes, P, c, rfl, A⟩
        · have NO := Lib.hid hno
          clear hno
          go_wp2_with fail
          go_roundw
          case rel => exact ⟨j + 1, _, cb, by omega, by go_num, rfl, FL.out.step (fun c hc => Nat.lt_of_lt_of_le (HL.out c hc) B2.out.size) GQ.out HX.out (by rw [ren_none _ _ _ _ NO.out]; exact (Jx.out.below BR.out).ast.kept (Jx.out.below BR.out).low GQ.out), FG.out.no HX.out NO.out⟩
          case measure => simp [intOf]; omega
        · have YES := Lib.hid hyes
          have AA := Lib.hid A
          clear hyes A
          go_wp2_with fail
          go_roundw
          case rel => exact ⟨j + 1, _, true, by omega, by go_num, rfl, FL.out.step (fun c hc => Nat.lt_of_lt_of_le (HL.out c hc) B2.out.size) GQ.out HX.out AA.out, Flag.yes HX.out YES.out⟩
          case measure => simp [intOf]; omega
      · skip
        obtain rfl : j = t.kids.length := by omega
        clear hlt hj
        cases cb with
        | false =>
          have NONE := Lib.hid FG.out.none
          go_wp2_with fail
          refine (fnOther (k := kClosure) hta b pf pt wr).mono ?_
          rintro e wz ⟨rfl, hbz⟩
          have BZ := Lib.hid (BR.out.trans (hbz.mono BR.out.size))
          clear hbz
          go_wp2_with fail
          go_ret
          refine ⟨BZ.out, .inl ⟨?_, rfl⟩⟩
          intro h
          obtain ⟨x, hx, hh⟩ := has_of_kids (by rw [KE.out]; decide) h
          exact NONE.out.2 x hx hh
        | true =>
          have SOME := Lib.hid FG.out.some
          go_wp2_with fail
          refine (fnOther (k := kClosure) hta _ pf pt _).mono ?_
          rintro e wz ⟨rfl, hbz⟩
          have NB := Lib.hid (alloc_here (w := wr) (o := (.cells #[.slice (some ⟨w1.heap.size, 0, none⟩) 0 0, .nilIface, .slice (some ⟨wm0.heap.size, 0, none⟩) t.kids.length t.kids.length, .int .i64 t.num, .nilIface] 131)) rfl)
          have GX := Lib.hid (below1 wr (.cells #[.slice (some ⟨w1.heap.size, 0, none⟩) 0 0, .nilIface, .slice (some ⟨wm0.heap.size, 0, none⟩) t.kids.length t.kids.length, .int .i64 t.num, .nilIface] 131))
          have BX := Lib.hid (BR.out.trans (GX.out.mono BR.out.size))
          have BZ := Lib.hid (BX.out.trans (hbz.mono BX.out.size))
          have GZ := Lib.hid hbz
          clear hbz
          go_wp2_with fail
          go_ret
          obtain ⟨x, hx, hh⟩ : ∃ x ∈ t.kids, has f d x := SOME.out.resolve_left (fun h => h)
          refine ⟨BZ.out, .inr ⟨has_kid hx hh, _, _, rfl, ?_⟩⟩
          rw [ren_other (by rw [KE.out]; decide)]
          exact .inr ⟨_, _, _, rfl, .inr ⟨BR.out.size, Nat.lt_of_lt_of_le (by simp) GZ.out.size⟩, cells_of ((GZ.out.block _ (by simp)).trans NB.out), .inr (.inr (.inr (.inr (.inr (.inr (.inr (.inr (.inl ⟨_, _, KE.out, rfl, TE.out, (by intro x hx; obtain ⟨y, hy, rfl⟩ := List.mem_map.1 hx; rw [ren_kind]; exact NEL.out y hy), RowAt.some0 _ _ _ (some ⟨w1.heap.size, 0, none⟩), FL.out.done (fun c hc => Nat.lt_of_lt_of_le (HL.out c hc) B2.out.size) B2.out.size (GX.out.trans (GZ.out.mono GX.out.size)) (by omega), by simp⟩))))))))⟩

set_option maxRecDepth 100000 in
set_option maxHeartbeats 4000000 in
theorem copyTemplate (f g : ByteArray) (pf pt ps : Nat) (d : Nat) (IH : CopyAll d) (w : World) (S : Nat → Prop) (t : Tree) (b : Nat) (x : Tree) (l : List Tree) (u : Value) (la : Option Addr) (lc : Nat) (hk : t.kind = kTemplate) (ht : t.text = ByteArray.empty) (hn : t.num = 0) (hl : t.kids = x :: l) (hne : ∀ x ∈ l, x.kind ≠ ByteArray.empty) (hnov : ∀ x ∈ l, All Okay d x) (hrow : RowAt w S (AstAt w S d) l (.slice la l.length lc)) (hfew : l.length ≤ 200) (jx : Job w S d x u) (hS : S b) (low : ∀ c, S c → c < w.heap.size) (he : Env w f g pf pt ps) (d0 : w.cell? ⟨b, 0, none⟩ = some (u)) (d1 : w.cell? ⟨b, 1, none⟩ = some (.slice la l.length lc)) :
    Calls Tryz.prog 104 #[.pointer (some ⟨b, 0, none⟩), fnV pf pt, skV ps] w (CopySaid S w (d + 1) t f g) := by
  have hta : ∀ (a : Option Addr) (w : World), (Instr.typeAssert (.iface 62 (.pointer a)) 33 36 true).run Tryz.prog w = .ok (.tuple #[.pointer none, .bool false]) w := fun a w => by kernel_rfl
  have HPK : Hid (PtrK kTemplate 62) := by show PtrK _ _; unfold PtrK leafTab unaryTab binaryTab listTab; simp
  have HE := Lib.hid he
  have HS := Lib.hid hS
  have HL := Lib.hid low
  have H := Lib.hid IH
  unfold fnV skV
  have KE := Lib.hid hk
  have TE := Lib.hid ht
  have NE := Lib.hid hn
  have LE := Lib.hid hl
  have NEL := Lib.hid hne
  have NOV := Lib.hid hnov
  obtain ⟨i0, hi0, hz0, hz1, hz2⟩ := info_parts Tryz.infoAst2
  have ROW : Hid (∀ (i : Nat) (x : Tree), l[i]? = some x → ∃ g u, la = some ⟨g, 0, none⟩ ∧ S g ∧ w.cell? ⟨g, i, none⟩ = some u ∧ AstAt w S d x u) := by
    obtain ⟨a', c', e', h1, h2, h3⟩ := hrow
    obtain ⟨rfl, rfl⟩ : la = a' ∧ lc = c' := by simpa using e'
    exact h3
  have hlc : l.length ≤ lc := by obtain ⟨a', c', e', h1, _⟩ := hrow; simp at e'; omega
  clear IH he hS low hk ht hn hl hne hnov hrow
  obtain ⟨px, bkx, rfl, hpx⟩ := jx.ast.ptr jx.kind
  obtain ⟨Fx, hTx⟩ := turnsC hpx
  have hax := hTx.ahead
  have hmx := hTx.met
  have hcx := hTx.call
  have Tx := Lib.hid hTx
  have Jx := Lib.hid jx
  clear jx hpx hTx
  go_enter Tryz.func104, Tryz.ntmps104
  go_wp2_with fail
  refine (skipC HPK.out b f g pf pt ps w HE.out).mono ?_
  rintro e w1 ⟨rfl, hb1⟩
  have B1 := Lib.hid hb1
  clear hb1
  have e0 := cells_below B1.out _ _ _ d0
  have e1 := cells_below B1.out _ _ _ d1
  go_wp2_with fail
  refine (H.out w1 S x _ f g pf pt ps (Jx.out.below B1.out) (HE.out.below B1.out) px bkx Fx rfl Tx.out).mono ?_
  rintro e w2 ⟨hb2, hr2⟩
  have B2 := Lib.hid (B1.out.trans (hb2.mono B1.out.size))
  have G2 := Lib.hid hb2
  clear e0 e1 hb2
  have e0 := cells_below B2.out _ _ _ d0
  have e1 := cells_below B2.out _ _ _ d1
  rcases hr2 with ⟨hnox, rfl⟩ | ⟨hyesx, Px, cx, rfl, Ax⟩
  · have NOx := Lib.hid hnox
    clear hnox hax hmx hcx
    go_wp2_with (at_make; refine wpList_make_full _ rfl (.tmp 31) (.tmp 31) 63 rfl w2.heap.size 33 i0 .nilIface 1 Tryz.underlying63 hi0 hz0 hz1 .i64 .i64 _ _ l.length rfl rfl rfl rfl (by rw [hz2]; omega) (by unfold maxLen; omega) (Nat.le_refl _) ?_; intro wm hom hgm; have OM := Lib.hid hom; have GM := Lib.hid (below_of_grown hgm); clear hom hgm; have BM := Lib.hid (B2.out.trans (GM.out.mono B2.out.size)); clear e0 e1; have e0 := cells_below BM.out _ _ _ d0; have e1 := cells_below BM.out _ _ _ d1)
    go_loopw [8, 38] (fun c i wr => ∃ (j : Nat) (xs : List Value) (cb : Bool), j ≤ l.length ∧ i = .int .i64 j ∧ c = .bool cb ∧ Hid (Fill w2 wr S w2.heap.size xs d f g l j) ∧ Hid (Flag (has f d x) f d l j cb)) (fun _ i _ => l.length - (intOf i).toNat)
    case atStart => exact ⟨0, _, false, Nat.zero_le _, rfl, rfl, Fill.start OM.out GM.out, Flag.start ⟨fun e => (by cases e), fun h => (NOx.out h).elim⟩⟩
    case round =>
      obtain ⟨j, xs, cb, hj, rfl, rfl, FL, FG⟩ := hrel
      have BR := Lib.hid (B2.out.trans (FL.out.2.1.mono B2.out.size))
      clear e0 e1
      have e0 := cells_below BR.out _ _ _ d0
      have e1 := cells_below BR.out _ _ _ d1
      by_cases hlt : j < l.length
      · skip
        obtain ⟨z, hz⟩ : ∃ z, l[j]? = some z := ⟨_, List.getElem?_eq_getElem hlt⟩
        obtain ⟨ga, u, rfl, hSg, hcell, hast⟩ := ROW.out j z hz
        have hm := List.mem_of_getElem? hz
        obtain ⟨pz, bkz, rfl, hpz⟩ := hast.ptr (NEL.out z hm)
        obtain ⟨Fz, hTz⟩ := turnsC hpz
        have haz := hTz.ahead
        have hmz := hTz.met
        have hcz := hTz.call
        have Tz := Lib.hid hTz
        have Jz := Lib.hid (show Job w S d z _ from ⟨hast, NEL.out z hm, NOV.out z hm, HL.out⟩)
        have HZ := Lib.hid hz
        have cw := cells_below BR.out _ _ _ hcell
        clear hTz hpz hast hm hz hSg hcell
        go_wp2_with fail
        refine (H.out wr S z _ f g pf pt ps (Jz.out.below BR.out) (HE.out.below BR.out) pz bkz Fz rfl Tz.out).mono ?_
        rintro e wq ⟨hbq, hrq⟩
        have GQ := Lib.hid hbq
        have OW := Lib.hid (FL.out.1.kept (grown_of_below hbq) (.inr (by simp [Value.ownBlock])))
        obtain ⟨uo, huo⟩ : ∃ uo, xs[j]? = some uo := ⟨_, List.getElem?_eq_getElem (by have := FL.out.1.1; omega)⟩
        have hco : wq.cell? ⟨w2.heap.size, j, none⟩ = some uo := (OW.out.cellAt j (by omega)).trans huo
        have hfo : wq.frozen? ⟨w2.heap.size, j, none⟩ = false := OW.out.frozenAt j
        clear e0 e1 hbq cw huo
        rcases hrq with ⟨hno, rfl⟩ | ⟨hyes, P, c, rfl, A⟩
        · have NO := Lib.hid hno
          clear hno
          go_wp2_with fail
          go_roundw
          case rel => exact ⟨j + 1, _, cb, by omega, by go_num, rfl, FL.out.step (fun c hc => Nat.lt_of_lt_of_le (HL.out c hc) B2.out.size) GQ.out HZ.out (by rw [ren_none _ _ _ _ NO.out]; exact (Jz.out.below BR.out).ast.kept (Jz.out.below BR.out).low GQ.out), FG.out.no HZ.out NO.out⟩
          case measure => simp [intOf]; omega
        · have YES := Lib.hid hyes
          have AA := Lib.hid A
          clear hyes A
          go_wp2_with fail
          go_roundw
          case rel => exact ⟨j + 1, _, true, by omega, by go_num, rfl, FL.out.step (fun c hc => Nat.lt_of_lt_of_le (HL.out c hc) B2.out.size) GQ.out HZ.out AA.out, Flag.yes HZ.out YES.out⟩
          case measure => simp [intOf]; omega
      · skip
        obtain rfl : j = l.length := by omega
        clear hlt hj
        cases cb with
        | false =>
          have NONE := Lib.hid FG.out.none
          go_wp2_with fail
          refine (fnOther (k := kTemplate) hta b pf pt wr).mono ?_
          rintro e wz ⟨rfl, hbz⟩
          have BZ := Lib.hid (BR.out.trans (hbz.mono BR.out.size))
          clear hbz
          go_wp2_with fail
          go_ret
          refine ⟨BZ.out, .inl ⟨?_, rfl⟩⟩
          intro h
          obtain ⟨y, hy, hh⟩ := has_of_kids (by rw [KE.out]; decide) h
          rw [LE.out] at hy
          rcases List.mem_cons.1 hy with rfl | hy
          · exact NONE.out.1 hh
          · exact NONE.out.2 y hy hh
        | true =>
          have SOME := Lib.hid FG.out.some
          go_wp2_with fail
          refine (fnOther (k := kTemplate) hta _ pf pt _).mono ?_
          rintro e wz ⟨rfl, hbz⟩
          have NB := Lib.hid (alloc_here (w := wr) (o := (.cells #[(.iface px (.pointer (some ⟨bkx, 0, none⟩))), .slice (some ⟨w2.heap.size, 0, none⟩) l.length l.length] 66)) rfl)
          have GX := Lib.hid (below1 wr (.cells #[(.iface px (.pointer (some ⟨bkx, 0, none⟩))), .slice (some ⟨w2.heap.size, 0, none⟩) l.length l.length] 66))
          have BX := Lib.hid (BR.out.trans (GX.out.mono BR.out.size))
          have BZ := Lib.hid (BX.out.trans (hbz.mono BX.out.size))
          have GZ := Lib.hid hbz
          clear hbz
          go_wp2_with fail
          go_ret
          have hth : has f (d + 1) t := by
            rcases SOME.out with h | ⟨y, hy, hh⟩
            · exact has_kid (by rw [LE.out]; simp) h
            · exact has_kid (by rw [LE.out]; simp [hy]) hh
          refine ⟨BZ.out, .inr ⟨hth, _, _, rfl, ?_⟩⟩
          rw [ren_other (by rw [KE.out]; decide)]
          exact .inr ⟨_, _, _, rfl, .inr ⟨BR.out.size, Nat.lt_of_lt_of_le (by simp) GZ.out.size⟩, cells_of ((GZ.out.block _ (by simp)).trans NB.out), .inr (.inr (.inr (.inr (.inr (.inr (.inr (.inr (.inr (.inl ⟨_, _, _, _, KE.out, rfl, TE.out, NE.out, by rw [LE.out]; rfl, (by rw [ren_kind]; exact Jx.out.kind), (by intro y hy; obtain ⟨z, hz, rfl⟩ := List.mem_map.1 hy; rw [ren_kind]; exact NEL.out z hz), (by rw [ren_none _ _ _ _ NOx.out]; exact Jx.out.ast.kept HL.out BZ.out), (FL.out.done (fun c hc => Nat.lt_of_lt_of_le (HL.out c hc) B2.out.size) B2.out.size (GX.out.trans (GZ.out.mono GX.out.size)) (by omega)), by simp⟩)))))))))⟩
  · have YESx := Lib.hid hyesx
    have AAx := Lib.hid Ax
    clear hyesx Ax hax hmx hcx
    go_wp2_with (at_make; refine wpList_make_full _ rfl (.tmp 31) (.tmp 31) 63 rfl w2.heap.size 33 i0 .nilIface 1 Tryz.underlying63 hi0 hz0 hz1 .i64 .i64 _ _ l.length rfl rfl rfl rfl (by rw [hz2]; omega) (by unfold maxLen; omega) (Nat.le_refl _) ?_; intro wm hom hgm; have OM := Lib.hid hom; have GM := Lib.hid (below_of_grown hgm); clear hom hgm; have BM := Lib.hid (B2.out.trans (GM.out.mono B2.out.size)); clear e0 e1; have e0 := cells_below BM.out _ _ _ d0; have e1 := cells_below BM.out _ _ _ d1)
    go_loopw [8, 38] (fun c i wr => ∃ (j : Nat) (xs : List Value) (cb : Bool), j ≤ l.length ∧ i = .int .i64 j ∧ c = .bool cb ∧ Hid (Fill w2 wr S w2.heap.size xs d f g l j) ∧ Hid (Flag (has f d x) f d l j cb)) (fun _ i _ => l.length - (intOf i).toNat)
    case atStart => exact ⟨0, _, true, Nat.zero_le _, rfl, rfl, Fill.start OM.out GM.out, Flag.start ⟨fun _ => YESx.out, fun _ => rfl⟩⟩
    case round =>
      obtain ⟨j, xs, cb, hj, rfl, rfl, FL, FG⟩ := hrel
      have BR := Lib.hid (B2.out.trans (FL.out.2.1.mono B2.out.size))
      clear e0 e1
      have e0 := cells_below BR.out _ _ _ d0
      have e1 := cells_below BR.out _ _ _ d1
      by_cases hlt : j < l.length
      · skip
        obtain ⟨z, hz⟩ : ∃ z, l[j]? = some z := ⟨_, List.getElem?_eq_getElem hlt⟩
        obtain ⟨ga, u, rfl, hSg, hcell, hast⟩ := ROW.out j z hz
        have hm := List.mem_of_getElem? hz
        obtain ⟨pz, bkz, rfl, hpz⟩ := hast.ptr (NEL.out z hm)
        obtain ⟨Fz, hTz⟩ := turnsC hpz
        have haz := hTz.ahead
        have hmz := hTz.met
        have hcz := hTz.call
        have Tz := Lib.hid hTz
        have Jz := Lib.hid (show Job w S d z _ from ⟨hast, NEL.out z hm, NOV.out z hm, HL.out⟩)
        have HZ := Lib.hid hz
        have cw := cells_below BR.out _ _ _ hcell
        clear hTz hpz hast hm hz hSg hcell
        go_wp2_with fail
        refine (H.out wr S z _ f g pf pt ps (Jz.out.below BR.out) (HE.out.below BR.out) pz bkz Fz rfl Tz.out).mono ?_
        rintro e wq ⟨hbq, hrq⟩
        have GQ := Lib.hid hbq
        have OW := Lib.hid (FL.out.1.kept (grown_of_below hbq) (.inr (by simp [Value.ownBlock])))
        obtain ⟨uo, huo⟩ : ∃ uo, xs[j]? = some uo := ⟨_, List.getElem?_eq_getElem (by have := FL.out.1.1; omega)⟩
        have hco : wq.cell? ⟨w2.heap.size, j, none⟩ = some uo := (OW.out.cellAt j (by omega)).trans huo
        have hfo : wq.frozen? ⟨w2.heap.size, j, none⟩ = false := OW.out.frozenAt j
        clear e0 e1 hbq cw huo
        rcases hrq with ⟨hno, rfl⟩ | ⟨hyes, P, c, rfl, A⟩
        · have NO := Lib.hid hno
          clear hno
          go_wp2_with fail
          go_roundw
          case rel => exact ⟨j + 1, _, cb, by omega, by go_num, rfl, FL.out.step (fun c hc => Nat.lt_of_lt_of_le (HL.out c hc) B2.out.size) GQ.out HZ.out (by rw [ren_none _ _ _ _ NO.out]; exact (Jz.out.below BR.out).ast.kept (Jz.out.below BR.out).low GQ.out), FG.out.no HZ.out NO.out⟩
          case measure => simp [intOf]; omega
        · have YES := Lib.hid hyes
          have AA := Lib.hid A
          clear hyes A
          go_wp2_with fail
          go_roundw
          case rel => exact ⟨j + 1, _, true, by omega, by go_num, rfl, FL.out.step (fun c hc => Nat.lt_of_lt_of_le (HL.out c hc) B2.out.size) GQ.out HZ.out AA.out, Flag.yes HZ.out YES.out⟩
          case measure => simp [intOf]; omega
      · skip
        obtain rfl : j = l.length := by omega
        clear hlt hj
        cases cb with
        | false =>
          exact (FG.out.none.1 YESx.out).elim
        | true =>
          have SOME := Lib.hid FG.out.some
          go_wp2_with fail
          refine (fnOther (k := kTemplate) hta _ pf pt _).mono ?_
          rintro e wz ⟨rfl, hbz⟩
          have NB := Lib.hid (alloc_here (w := wr) (o := (.cells #[(.iface Px (.pointer (some ⟨cx, 0, none⟩))), .slice (some ⟨w2.heap.size, 0, none⟩) l.length l.length] 66)) rfl)
          have GX := Lib.hid (below1 wr (.cells #[(.iface Px (.pointer (some ⟨cx, 0, none⟩))), .slice (some ⟨w2.heap.size, 0, none⟩) l.length l.length] 66))
          have BX := Lib.hid (BR.out.trans (GX.out.mono BR.out.size))
          have BZ := Lib.hid (BX.out.trans (hbz.mono BX.out.size))
          have GZ := Lib.hid hbz
          clear hbz
          go_wp2_with fail
          go_ret
          have hth : has f (d + 1) t := by
            rcases SOME.out with h | ⟨y, hy, hh⟩
            · exact has_kid (by rw [LE.out]; simp) h
            · exact has_kid (by rw [LE.out]; simp [hy]) hh
          refine ⟨BZ.out, .inr ⟨hth, _, _, rfl, ?_⟩⟩
          rw [ren_other (by rw [KE.out]; decide)]
          exact .inr ⟨_, _, _, rfl, .inr ⟨BR.out.size, Nat.lt_of_lt_of_le (by simp) GZ.out.size⟩, cells_of ((GZ.out.block _ (by simp)).trans NB.out), .inr (.inr (.inr (.inr (.inr (.inr (.inr (.inr (.inr (.inl ⟨_, _, _, _, KE.out, rfl, TE.out, NE.out, by rw [LE.out]; rfl, (by rw [ren_kind]; exact Jx.out.kind), (by intro y hy; obtain ⟨z, hz, rfl⟩ := List.mem_map.1 hy; rw [ren_kind]; exact NEL.out z hz), (AstAt.carry AAx.out (fun c hc => Nat.lt_of_lt_of_le (HL.out c hc) B1.out.size) B1.out.size G2.out.size (FL.out.2.1.trans ((GX.out.trans (GZ.out.mono GX.out.size)).mono FL.out.2.1.size))), (FL.out.done (fun c hc => Nat.lt_of_lt_of_le (HL.out c hc) B2.out.size) B2.out.size (GX.out.trans (GZ.out.mono GX.out.size)) (by omega)), by simp⟩)))))))))⟩

set_option maxRecDepth 100000 in
set_option maxHeartbeats 4000000 in
theorem copyFunctionType (f g : ByteArray) (pf pt ps : Nat) (d : Nat) (IH : CopyAll d) (w : World) (S : Nat → Prop) (t : Tree) (b : Nat) (x : Tree) (l : List Tree) (u : Value) (la : Option Addr) (lc : Nat) (hk : t.kind = kFunctionType) (ht : t.text = ByteArray.empty) (hn : t.num = 0) (hl : t.kids = x :: l) (hne : ∀ x ∈ l, x.kind ≠ ByteArray.empty) (hnov : ∀ x ∈ l, All Okay d x) (hrow : RowAt w S (AstAt w S d) l (.slice la l.length lc)) (hfew : l.length ≤ 200) (jx : Job w S d x u ∨ x = Tree.nil ∧ u = .nilIface ∧ 0 < d) (hS : S b) (low : ∀ c, S c → c < w.heap.size) (he : Env w f g pf pt ps) (d0 : w.cell? ⟨b, 0, none⟩ = some (u)) (d1 : w.cell? ⟨b, 1, none⟩ = some (.slice la l.length lc)) (d2 : w.cell? ⟨b, 2, none⟩ = some (.bool false)) :
    Calls Tryz.prog 110 #[.pointer (some ⟨b, 0, none⟩), fnV pf pt, skV ps] w (CopySaid S w (d + 1) t f g) := by
  have hta : ∀ (a : Option Addr) (w : World), (Instr.typeAssert (.iface 70 (.pointer a)) 33 36 true).run Tryz.prog w = .ok (.tuple #[.pointer none, .bool false]) w := fun a w => by kernel_rfl
  have HPK : Hid (PtrK kFunctionType 70) := by show PtrK _ _; unfold PtrK leafTab unaryTab binaryTab listTab; simp
  have HE := Lib.hid he
  have HS := Lib.hid hS
  have HL := Lib.hid low
  have H := Lib.hid IH
  unfold fnV skV
  have KE := Lib.hid hk
  have TE := Lib.hid ht
  have NE := Lib.hid hn
  have LE := Lib.hid hl
  have NEL := Lib.hid hne
  have NOV := Lib.hid hnov
  obtain ⟨i0, hi0, hz0, hz1, hz2⟩ := info_parts Tryz.infoAst2
  have ROW : Hid (∀ (i : Nat) (x : Tree), l[i]? = some x → ∃ g u, la = some ⟨g, 0, none⟩ ∧ S g ∧ w.cell? ⟨g, i, none⟩ = some u ∧ AstAt w S d x u) := by
    obtain ⟨a', c', e', h1, h2, h3⟩ := hrow
    obtain ⟨rfl, rfl⟩ : la = a' ∧ lc = c' := by simpa using e'
    exact h3
  have hlc : l.length ≤ lc := by obtain ⟨a', c', e', h1, _⟩ := hrow; simp at e'; omega
  clear IH he hS low hk ht hn hl hne hnov hrow
  rcases jx with jx | ⟨hx0, rfl, hd0⟩
  · skip
    obtain ⟨px, bkx, rfl, hpx⟩ := jx.ast.ptr jx.kind
    obtain ⟨Fx, hTx⟩ := turnsC hpx
    have hax := hTx.ahead
    have hmx := hTx.met
    have hcx := hTx.call
    have Tx := Lib.hid hTx
    have Jx := Lib.hid jx
    clear jx hpx hTx
    go_enter Tryz.func110, Tryz.ntmps110
    go_wp2_with fail
    refine (skipC HPK.out b f g pf pt ps w HE.out).mono ?_
    rintro e w1 ⟨rfl, hb1⟩
    have B1 := Lib.hid hb1
    clear hb1
    have e0 := cells_below B1.out _ _ _ d0
    have e1 := cells_below B1.out _ _ _ d1
    have e2 := cells_below B1.out _ _ _ d2
    go_wp2_with fail
    refine (H.out w1 S x _ f g pf pt ps (Jx.out.below B1.out) (HE.out.below B1.out) px bkx Fx rfl Tx.out).mono ?_
    rintro e w2 ⟨hb2, hr2⟩
    have B2 := Lib.hid (B1.out.trans (hb2.mono B1.out.size))
    have G2 := Lib.hid hb2
    clear e0 e1 e2 hb2
    have e0 := cells_below B2.out _ _ _ d0
    have e1 := cells_below B2.out _ _ _ d1
    have e2 := cells_below B2.out _ _ _ d2
    rcases hr2 with ⟨hnox, rfl⟩ | ⟨hyesx, Px, cx, rfl, Ax⟩
    · have NOx := Lib.hid hnox
      clear hnox hax hmx hcx
      go_wp2_with (at_make; refine wpList_make_full _ rfl (.tmp 40) (.tmp 40) 63 rfl w2.heap.size 33 i0 .nilIface 1 Tryz.underlying63 hi0 hz0 hz1 .i64 .i64 _ _ l.length rfl rfl rfl rfl (by rw [hz2]; omega) (by unfold maxLen; omega) (Nat.le_refl _) ?_; intro wm hom hgm; have OM := Lib.hid hom; have GM := Lib.hid (below_of_grown hgm); clear hom hgm; have BM := Lib.hid (B2.out.trans (GM.out.mono B2.out.size)); clear e0 e1 e2; have e0 := cells_below BM.out _ _ _ d0; have e1 := cells_below BM.out _ _ _ d1; have e2 := cells_below BM.out _ _ _ d2)
      go_loopw [7, 47] (fun c i wr => ∃ (j : Nat) (xs : List Value) (cb : Bool), j ≤ l.length ∧ i = .int .i64 j ∧ c = .bool cb ∧ Hid (Fill w2 wr S w2.heap.size xs d f g l j) ∧ Hid (Flag (has f d x) f d l j cb)) (fun _ i _ => l.length - (intOf i).toNat)
      case atStart => exact ⟨0, _, false, Nat.zero_le _, rfl, rfl, Fill.start OM.out GM.out, Flag.start ⟨fun e => (by cases e), fun h => (NOx.out h).elim⟩⟩
      case round =>
        obtain ⟨j, xs, cb, hj, rfl, rfl, FL, FG⟩ := hrel
        have BR := Lib.hid (B2.out.trans (FL.out.2.1.mono B2.out.size))
        clear e0 e1 e2
        have e0 := cells_below BR.out _ _ _ d0
        have e1 := cells_below BR.out _ _ _ d1
        have e2 := cells_below BR.out _ _ _ d2
        by_cases hlt : j < l.length
        · skip
          obtain ⟨z, hz⟩ : ∃ z, l[j]? = some z := ⟨_, List.getElem?_eq_getElem hlt⟩
          obtain ⟨ga, u, rfl, hSg, hcell, hast⟩ := ROW.out j z hz
          have hm := List.mem_of_getElem? hz
          obtain ⟨pz, bkz, rfl, hpz⟩ := hast.ptr (NEL.out z hm)
          obtain ⟨Fz, hTz⟩ := turnsC hpz
          have haz := hTz.ahead
          have hmz := hTz.met
          have hcz := hTz.call
          have Tz := Lib.hid hTz
          have Jz := Lib.hid (show Job w S d z _ from ⟨hast, NEL.out z hm, NOV.out z hm, HL.out⟩)
          have HZ := Lib.hid hz
          have cw := cells_below BR.out _ _ _ hcell
          clear hTz hpz hast hm hz hSg hcell
          go_wp2_with fail
          refine (H.out wr S z _ f g pf pt ps (Jz.out.below BR.out) (HE.out.below BR.out) pz bkz Fz rfl Tz.out).mono ?_
          rintro e wq ⟨hbq, hrq⟩
          have GQ := Lib.hid hbq
          have OW := Lib.hid (FL.out.1.kept (grown_of_below hbq) (.inr (by simp [Value.ownBlock])))
          obtain ⟨uo, huo⟩ : ∃ uo, xs[j]? = some uo := ⟨_, List.getElem?_eq_getElem (by have := FL.out.1.1; omega)⟩
          have hco : wq.cell? ⟨w2.heap.size, j, none⟩ = some uo := (OW.out.cellAt j (by omega)).trans huo
          have hfo : wq.frozen? ⟨w2.heap.size, j, none⟩ = false := OW.out.frozenAt j
          clear e0 e1 e2 hbq cw huo
          rcases hrq with ⟨hno, rfl⟩ | ⟨hyes, P, c, rfl, A⟩
          · have NO := Lib.hid hno
            clear hno
            go_wp2_with fail
            go_roundw
            case rel => exact ⟨j + 1, _, cb, by omega, by go_num, rfl, FL.out.step (fun c hc => Nat.lt_of_lt_of_le (HL.out c hc) B2.out.size) GQ.out HZ.out (by rw [ren_none _ _ _ _ NO.out]; exact (Jz.out.below BR.out).ast.kept (Jz.out.below BR.out).low GQ.out), FG.out.no HZ.out NO.out⟩
            case measure => simp [intOf]; omega
          · have YES := Lib.hid hyes
            have AA := Lib.hid A
            clear hyes A
            go_wp2_with fail
            go_roundw
            case rel => exact ⟨j + 1, _, true, by omega, by go_num, rfl, FL.out.step (fun c hc => Nat.lt_of_lt_of_le (HL.out c hc) B2.out.size) GQ.out HZ.out AA.out, Flag.yes HZ.out YES.out⟩
            case measure => simp [intOf]; omega
        · skip
          obtain rfl : j = l.length := by omega
          clear hlt hj
          cases cb with
          | false =>
            have NONE := Lib.hid FG.out.none
            go_wp2_with fail
            refine (fnOther (k := kFunctionType) hta b pf pt wr).mono ?_
            rintro e wz ⟨rfl, hbz⟩
            have BZ := Lib.hid (BR.out.trans (hbz.mono BR.out.size))
            clear hbz
            go_wp2_with fail
            go_ret
            refine ⟨BZ.out, .inl ⟨?_, rfl⟩⟩
            intro h
            obtain ⟨y, hy, hh⟩ := has_of_kids (by rw [KE.out]; decide) h
            rw [LE.out] at hy
            rcases List.mem_cons.1 hy with rfl | hy
            · exact NONE.out.1 hh
            · exact NONE.out.2 y hy hh
          | true =>
            have SOME := Lib.hid FG.out.some
            go_wp2_with fail
            refine (fnOther (k := kFunctionType) hta _ pf pt _).mono ?_
            rintro e wz ⟨rfl, hbz⟩
            have NB := Lib.hid (alloc_here (w := wr) (o := (.cells #[(.iface px (.pointer (some ⟨bkx, 0, none⟩))), .slice (some ⟨w2.heap.size, 0, none⟩) l.length l.length, .bool false] 72)) rfl)
            have GX := Lib.hid (below1 wr (.cells #[(.iface px (.pointer (some ⟨bkx, 0, none⟩))), .slice (some ⟨w2.heap.size, 0, none⟩) l.length l.length, .bool false] 72))
            have BX := Lib.hid (BR.out.trans (GX.out.mono BR.out.size))
            have BZ := Lib.hid (BX.out.trans (hbz.mono BX.out.size))
            have GZ := Lib.hid hbz
            clear hbz
            go_wp2_with fail
            go_ret
            have hth : has f (d + 1) t := by
              rcases SOME.out with h | ⟨y, hy, hh⟩
              · exact has_kid (by rw [LE.out]; simp) h
              · exact has_kid (by rw [LE.out]; simp [hy]) hh
            refine ⟨BZ.out, .inr ⟨hth, _, _, rfl, ?_⟩⟩
            rw [ren_other (by rw [KE.out]; decide)]
            exact .inr ⟨_, _, _, rfl, .inr ⟨BR.out.size, Nat.lt_of_lt_of_le (by simp) GZ.out.size⟩, cells_of ((GZ.out.block _ (by simp)).trans NB.out), .inr (.inr (.inr (.inr (.inr (.inr (.inr (.inr (.inr (.inr ⟨_, _, _, _, KE.out, rfl, TE.out, NE.out, by rw [LE.out]; rfl, (by intro y hy; obtain ⟨z, hz, rfl⟩ := List.mem_map.1 hy; rw [ren_kind]; exact NEL.out z hz), (by rw [ren_none _ _ _ _ NOx.out]; exact Jx.out.ast.kept HL.out BZ.out), (FL.out.done (fun c hc => Nat.lt_of_lt_of_le (HL.out c hc) B2.out.size) B2.out.size (GX.out.trans (GZ.out.mono GX.out.size)) (by omega)), by simp⟩)))))))))⟩
    · have YESx := Lib.hid hyesx
      have AAx := Lib.hid Ax
      clear hyesx Ax hax hmx hcx
      go_wp2_with (at_make; refine wpList_make_full _ rfl (.tmp 40) (.tmp 40) 63 rfl w2.heap.size 33 i0 .nilIface 1 Tryz.underlying63 hi0 hz0 hz1 .i64 .i64 _ _ l.length rfl rfl rfl rfl (by rw [hz2]; omega) (by unfold maxLen; omega) (Nat.le_refl _) ?_; intro wm hom hgm; have OM := Lib.hid hom; have GM := Lib.hid (below_of_grown hgm); clear hom hgm; have BM := Lib.hid (B2.out.trans (GM.out.mono B2.out.size)); clear e0 e1 e2; have e0 := cells_below BM.out _ _ _ d0; have e1 := cells_below BM.out _ _ _ d1; have e2 := cells_below BM.out _ _ _ d2)
      go_loopw [7, 47] (fun c i wr => ∃ (j : Nat) (xs : List Value) (cb : Bool), j ≤ l.length ∧ i = .int .i64 j ∧ c = .bool cb ∧ Hid (Fill w2 wr S w2.heap.size xs d f g l j) ∧ Hid (Flag (has f d x) f d l j cb)) (fun _ i _ => l.length - (intOf i).toNat)
      case atStart => exact ⟨0, _, true, Nat.zero_le _, rfl, rfl, Fill.start OM.out GM.out, Flag.start ⟨fun _ => YESx.out, fun _ => rfl⟩⟩
      case round =>
        obtain ⟨j, xs, cb, hj, rfl, rfl, FL, FG⟩ := hrel
        have BR := Lib.hid (B2.out.trans (FL.out.2.1.mono B2.out.size))
        clear e0 e1 e2
        have e0 := cells_below BR.out _ _ _ d0
        have e1 := cells_below BR.out _ _ _ d1
        have e2 := cells_below BR.out _ _ _ d2
        by_cases hlt : j < l.length
        · skip
          obtain ⟨z, hz⟩ : ∃ z, l[j]? = some z := ⟨_, List.getElem?_eq_getElem hlt⟩
          obtain ⟨ga, u, rfl, hSg, hcell, hast⟩ := ROW.out j z hz
          have hm := List.mem_of_getElem? hz
          obtain ⟨pz, bkz, rfl, hpz⟩ := hast.ptr (NEL.out z hm)
          obtain ⟨Fz, hTz⟩ := turnsC hpz
          have haz := hTz.ahead
          have hmz := hTz.met
          have hcz := hTz.call
          have Tz := Lib.hid hTz
          have Jz := Lib.hid (show Job w S d z _ from ⟨hast, NEL.out z hm, NOV.out z hm, HL.out⟩)
          have HZ := Lib.hid hz
          have cw := cells_below BR.out _ _ _ hcell
          clear hTz hpz hast hm hz hSg hcell
          go_wp2_with fail
          refine (H.out wr S z _ f g pf pt ps (Jz.out.below BR.out) (HE.out.below BR.out) pz bkz Fz rfl Tz.out).mono ?_
          rintro e wq ⟨hbq, hrq⟩
          have GQ := Lib.hid hbq
          have OW := Lib.hid (FL.out.1.kept (grown_of_below hbq) (.inr (by simp [Value.ownBlock])))
          obtain ⟨uo, huo⟩ : ∃ uo, xs[j]? = some uo := ⟨_, List.getElem?_eq_getElem (by have := FL.out.1.1; omega)⟩
          have hco : wq.cell? ⟨w2.heap.size, j, none⟩ = some uo := (OW.out.cellAt j (by omega)).trans huo
          have hfo : wq.frozen? ⟨w2.heap.size, j, none⟩ = false := OW.out.frozenAt j
          clear e0 e1 e2 hbq cw huo
          rcases hrq with ⟨hno, rfl⟩ | ⟨hyes, P, c, rfl, A⟩
          · have NO := Lib.hid hno
            clear hno
            go_wp2_with fail
            go_roundw
            case rel => exact ⟨j + 1, _, cb, by omega, by go_num, rfl, FL.out.step (fun c hc => Nat.lt_of_lt_of_le (HL.out c hc) B2.out.size) GQ.out HZ.out (by rw [ren_none _ _ _ _ NO.out]; exact (Jz.out.below BR.out).ast.kept (Jz.out.below BR.out).low GQ.out), FG.out.no HZ.out NO.out⟩
            case measure => simp [intOf]; omega
          · have YES := Lib.hid hyes
            have AA := Lib.hid A
            clear hyes A
            go_wp2_with fail
            go_roundw
            case rel => exact ⟨j + 1, _, true, by omega, by go_num, rfl, FL.out.step (fun c hc => Nat.lt_of_lt_of_le (HL.out c hc) B2.out.size) GQ.out HZ.out AA.out, Flag.yes HZ.out YES.out⟩
            case measure => simp [intOf]; omega
        · skip
          obtain rfl : j = l.length := by omega
          clear hlt hj
          cases cb with
          | false =>
            exact (FG.out.none.1 YESx.out).elim
          | true =>
            have SOME := Lib.hid FG.out.some
            go_wp2_with fail
            refine (fnOther (k := kFunctionType) hta _ pf pt _).mono ?_
            rintro e wz ⟨rfl, hbz⟩
            have NB := Lib.hid (alloc_here (w := wr) (o := (.cells #[(.iface Px (.pointer (some ⟨cx, 0, none⟩))), .slice (some ⟨w2.heap.size, 0, none⟩) l.length l.length, .bool false] 72)) rfl)
            have GX := Lib.hid (below1 wr (.cells #[(.iface Px (.pointer (some ⟨cx, 0, none⟩))), .slice (some ⟨w2.heap.size, 0, none⟩) l.length l.length, .bool false] 72))
            have BX := Lib.hid (BR.out.trans (GX.out.mono BR.out.size))
            have BZ := Lib.hid (BX.out.trans (hbz.mono BX.out.size))
            have GZ := Lib.hid hbz
            clear hbz
            go_wp2_with fail
            go_ret
            have hth : has f (d + 1) t := by
              rcases SOME.out with h | ⟨y, hy, hh⟩
              · exact has_kid (by rw [LE.out]; simp) h
              · exact has_kid (by rw [LE.out]; simp [hy]) hh
            refine ⟨BZ.out, .inr ⟨hth, _, _, rfl, ?_⟩⟩
            rw [ren_other (by rw [KE.out]; decide)]
            exact .inr ⟨_, _, _, rfl, .inr ⟨BR.out.size, Nat.lt_of_lt_of_le (by simp) GZ.out.size⟩, cells_of ((GZ.out.block _ (by simp)).trans NB.out), .inr (.inr (.inr (.inr (.inr (.inr (.inr (.inr (.inr (.inr ⟨_, _, _, _, KE.out, rfl, TE.out, NE.out, by rw [LE.out]; rfl, (by intro y hy; obtain ⟨z, hz, rfl⟩ := List.mem_map.1 hy; rw [ren_kind]; exact NEL.out z hz), (AstAt.carry AAx.out (fun c hc => Nat.lt_of_lt_of_le (HL.out c hc) B1.out.size) B1.out.size G2.out.size (FL.out.2.1.trans ((GX.out.trans (GZ.out.mono GX.out.size)).mono FL.out.2.1.size))), (FL.out.done (fun c hc => Nat.lt_of_lt_of_le (HL.out c hc) B2.out.size) B2.out.size (GX.out.trans (GZ.out.mono GX.out.size)) (by omega)), by simp⟩)))))))))⟩
  · have NIL : Hid (¬ has f d x) := by show ¬ _; rw [hx0]; exact has_nil f d
    have NILA : Hid (∀ w' S', AstAt w' S' d x .nilIface) := fun w' S' => by cases d with | zero => omega | succ d => exact .inl ⟨hx0, rfl⟩
    clear hx0
    go_enter Tryz.func110, Tryz.ntmps110
    go_wp2_with fail
    refine (skipC HPK.out b f g pf pt ps w HE.out).mono ?_
    rintro e w1 ⟨rfl, hb1⟩
    have B1 := Lib.hid hb1
    clear hb1
    have e0 := cells_below B1.out _ _ _ d0
    have e1 := cells_below B1.out _ _ _ d1
    have e2 := cells_below B1.out _ _ _ d2
    go_wp2_with (at_make; refine wpList_make_full _ rfl (.tmp 40) (.tmp 40) 63 rfl w1.heap.size 33 i0 .nilIface 1 Tryz.underlying63 hi0 hz0 hz1 .i64 .i64 _ _ l.length rfl rfl rfl rfl (by rw [hz2]; omega) (by unfold maxLen; omega) (Nat.le_refl _) ?_; intro wm hom hgm; have OM := Lib.hid hom; have GM := Lib.hid (below_of_grown hgm); clear hom hgm; have BM := Lib.hid (B1.out.trans (GM.out.mono B1.out.size)); clear e0 e1 e2; have e0 := cells_below BM.out _ _ _ d0; have e1 := cells_below BM.out _ _ _ d1; have e2 := cells_below BM.out _ _ _ d2)
    go_loopw [7, 47] (fun c i wr => ∃ (j : Nat) (xs : List Value) (cb : Bool), j ≤ l.length ∧ i = .int .i64 j ∧ c = .bool cb ∧ Hid (Fill w1 wr S w1.heap.size xs d f g l j) ∧ Hid (Flag (has f d x) f d l j cb)) (fun _ i _ => l.length - (intOf i).toNat)
    case atStart => exact ⟨0, _, false, Nat.zero_le _, rfl, rfl, Fill.start OM.out GM.out, Flag.start ⟨fun e => (by cases e), fun h => (NIL.out h).elim⟩⟩
    case round =>
      obtain ⟨j, xs, cb, hj, rfl, rfl, FL, FG⟩ := hrel
      have BR := Lib.hid (B1.out.trans (FL.out.2.1.mono B1.out.size))
      clear e0 e1 e2
      have e0 := cells_below BR.out _ _ _ d0
      have e1 := cells_below BR.out _ _ _ d1
      have e2 := cells_below BR.out _ _ _ d2
      by_cases hlt : j < l.length
      · skip
        obtain ⟨z, hz⟩ : ∃ z, l[j]? = some z := ⟨_, List.getElem?_eq_getElem hlt⟩
        obtain ⟨ga, u, rfl, hSg, hcell, hast⟩ := ROW.out j z hz
        have hm := List.mem_of_getElem? hz
        obtain ⟨pz, bkz, rfl, hpz⟩ := hast.ptr (NEL.out z hm)
        obtain ⟨Fz, hTz⟩ := turnsC hpz
        have haz := hTz.ahead
        have hmz := hTz.met
        have hcz := hTz.call
        have Tz := Lib.hid hTz
        have Jz := Lib.hid (show Job w S d z _ from ⟨hast, NEL.out z hm, NOV.out z hm, HL.out⟩)
        have HZ := Lib.hid hz
        have cw := cells_below BR.out _ _ _ hcell
        clear hTz hpz hast hm hz hSg hcell
        go_wp2_with fail
        refine (H.out wr S z _ f g pf pt ps (Jz.out.below BR.out) (HE.out.below BR.out) pz bkz Fz rfl Tz.out).mono ?_
        rintro e wq ⟨hbq, hrq⟩
        have GQ := Lib.hid hbq
        have OW := Lib.hid (FL.out.1.kept (grown_of_below hbq) (.inr (by simp [Value.ownBlock])))
        obtain ⟨uo, huo⟩ : ∃ uo, xs[j]? = some uo := ⟨_, List.getElem?_eq_getElem (by have := FL.out.1.1; omega)⟩
        have hco : wq.cell? ⟨w1.heap.size, j, none⟩ = some uo := (OW.out.cellAt j (by omega)).trans huo
        have hfo : wq.frozen? ⟨w1.heap.size, j, none⟩ = false := OW.out.frozenAt j
        clear e0 e1 e2 hbq cw huo
        rcases hrq with ⟨hno, rfl⟩ | ⟨hyes, P, c, rfl, A⟩
        · have NO := Lib.hid hno
          clear hno
          go_wp2_with fail
          go_roundw
          case rel => exact ⟨j + 1, _, cb, by omega, by go_num, rfl, FL.out.step (fun c hc => Nat.lt_of_lt_of_le (HL.out c hc) B1.out.size) GQ.out HZ.out (by rw [ren_none _ _ _ _ NO.out]; exact (Jz.out.below BR.out).ast.kept (Jz.out.below BR.out).low GQ.out), FG.out.no HZ.out NO.out⟩
          case measure => simp [intOf]; omega
        · have YES := Lib.hid hyes
          have AA := Lib.hid A
          clear hyes A
          go_wp2_with fail
          go_roundw
          case rel => exact ⟨j + 1, _, true, by omega, by go_num, rfl, FL.out.step (fun c hc => Nat.lt_of_lt_of_le (HL.out c hc) B1.out.size) GQ.out HZ.out AA.out, Flag.yes HZ.out YES.out⟩
          case measure => simp [intOf]; omega
      · skip
        obtain rfl : j = l.length := by omega
        clear hlt hj
        cases cb with
        | false =>
          have NONE := Lib.hid FG.out.none
          go_wp2_with fail
          refine (fnOther (k := kFunctionType) hta b pf pt wr).mono ?_
          rintro e wz ⟨rfl, hbz⟩
          have BZ := Lib.hid (BR.out.trans (hbz.mono BR.out.size))
          clear hbz
          go_wp2_with fail
          go_ret
          refine ⟨BZ.out, .inl ⟨?_, rfl⟩⟩
          intro h
          obtain ⟨y, hy, hh⟩ := has_of_kids (by rw [KE.out]; decide) h
          rw [LE.out] at hy
          rcases List.mem_cons.1 hy with rfl | hy
          · exact NONE.out.1 hh
          · exact NONE.out.2 y hy hh
        | true =>
          have SOME := Lib.hid FG.out.some
          go_wp2_with fail
          refine (fnOther (k := kFunctionType) hta _ pf pt _).mono ?_
          rintro e wz ⟨rfl, hbz⟩
          have NB := Lib.hid (alloc_here (w := wr) (o := (.cells #[.nilIface, .slice (some ⟨w1.heap.size, 0, none⟩) l.length l.length, .bool false] 72)) rfl)
          have GX := Lib.hid (below1 wr (.cells #[.nilIface, .slice (some ⟨w1.heap.size, 0, none⟩) l.length l.length, .bool false] 72))
          have BX := Lib.hid (BR.out.trans (GX.out.mono BR.out.size))
          have BZ := Lib.hid (BX.out.trans (hbz.mono BX.out.size))
          have GZ := Lib.hid hbz
          clear hbz
          go_wp2_with fail
          go_ret
          have hth : has f (d + 1) t := by
            rcases SOME.out with h | ⟨y, hy, hh⟩
            · exact has_kid (by rw [LE.out]; simp) h
            · exact has_kid (by rw [LE.out]; simp [hy]) hh
          refine ⟨BZ.out, .inr ⟨hth, _, _, rfl, ?_⟩⟩
          rw [ren_other (by rw [KE.out]; decide)]
          exact .inr ⟨_, _, _, rfl, .inr ⟨BR.out.size, Nat.lt_of_lt_of_le (by simp) GZ.out.size⟩, cells_of ((GZ.out.block _ (by simp)).trans NB.out), .inr (.inr (.inr (.inr (.inr (.inr (.inr (.inr (.inr (.inr ⟨_, _, _, _, KE.out, rfl, TE.out, NE.out, by rw [LE.out]; rfl, (by intro y hy; obtain ⟨z, hz, rfl⟩ := List.mem_map.1 hy; rw [ren_kind]; exact NEL.out z hz), (by rw [ren_none _ _ _ _ NIL.out]; exact NILA.out _ _), (FL.out.done (fun c hc => Nat.lt_of_lt_of_le (HL.out c hc) B1.out.size) B1.out.size (GX.out.trans (GZ.out.mono GX.out.size)) (by omega)), by simp⟩)))))))))⟩

end Go.Proofs.YtlfbmpenekiigaaGreatDoor
