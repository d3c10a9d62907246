/- impl.Rename where a tree has the name: the tree with the other name; conditions: the node reads as a tree of good form, of few kids, without a qualifier of a vendor; the texts are within their bound; nothing is skipped. -/
import Derived.Test.YtlfbmpenekiigaaGreatDoorCopyD
import Derived.Test.YtlfbmpenekiigaaGreatDoorNodeF
import Derived.Test.YtlfbmpenekiigaaGreatDoorToD
namespace Go.Proofs.YtlfbmpenekiigaaGreatDoor
open Go.ChangeShapes Go.WideShapes Go.ChangeAt Go.RowKit
set_option linter.unusedVariables false

theorem All.and {P Q : Tree → Prop} : ∀ {d : Nat} {t : Tree}, All P d t → All Q d t → All (fun x => P x ∧ Q x) d t
  | 0, _, h, _ => h.elim
  | _ + 1, _, h, k => ⟨⟨h.1, k.1⟩, fun x hx => All.and (h.2 x hx) (k.2 x hx)⟩
theorem All.imp {P Q : Tree → Prop} (f : ∀ x, P x → Q x) : ∀ {d : Nat} {t : Tree}, All P d t → All Q d t
  | 0, _, h => h.elim
  | _ + 1, _, h => ⟨f _ h.1, fun x hx => All.imp f (h.2 x hx)⟩

theorem sized_of {w : World} : ∀ {d : Nat} {t : Tree} {kv : Value}, KidsAt w d t kv → All Few d t → All Sized d t
  | 0, _, _, h, _ => h.elim
  | _ + 1, _, _, ⟨h1, h2, h3, ⟨a, c, e, _, _, h4⟩⟩, hf => ⟨⟨h1, h2, h3, hf.1⟩, fun x hx => by
      obtain ⟨i, hi, rfl⟩ := List.getElem_of_mem hx
      obtain ⟨b, o, kv', _, _, _, _, _, hk⟩ := h4 i _ (List.getElem?_eq_getElem hi)
      exact sized_of hk (hf.2 _ hx)⟩

theorem ren_sized (f g : ByteArray) (hg : g.size ≤ maxLen) : ∀ {d : Nat} {t : Tree}, All Sized d t → All Sized d (ren f g d t)
  | 0, _, h => h.elim
  | d + 1, t, h => by
    unfold ren
    split
    · exact ⟨⟨(by show kName.size ≤ maxLen; decide), hg, (by show (Lit.int .i64 0).wf = true; decide), by simp⟩, fun x hx => by cases hx⟩
    · refine ⟨⟨h.1.1, h.1.2.1, h.1.2.2.1, by simpa using h.1.2.2.2⟩, fun x hx => ?_⟩
      obtain ⟨y, hy, rfl⟩ := List.mem_map.1 hx
      exact ren_sized f g hg (h.2 y hy)

theorem ren_okay (f g : ByteArray) : ∀ {d : Nat} {t : Tree}, All Okay d t → All Okay d (ren f g d t)
  | 0, _, h => h.elim
  | d + 1, t, h => by
    unfold ren
    split
    · exact ⟨⟨(by show kName ≠ kVendorQualifier; decide), by simp⟩, fun x hx => by cases hx⟩
    · refine ⟨⟨h.1.1, by simpa using h.1.2⟩, fun x hx => ?_⟩
      obtain ⟨y, hy, rfl⟩ := List.mem_map.1 hx
      exact ren_okay f g (h.2 y hy)

/-- A tree that Rename serves. -/
structure Good2 (w : World) (d : Nat) (t : Tree) (kv : Value) : Prop where
  kids : KidsAt w d t kv
  good : All Good d t
  kind : t.kind ≠ ByteArray.empty
  okay : All Okay d t
  sized : All Sized d t

theorem Good2.below {w w' : World} {d : Nat} {t : Tree} {kv : Value} (h : Good2 w d t kv) (hb : Below w.heap.size w w') : Good2 w' d t kv := ⟨h.kids.below hb, h.good, h.kind, h.okay, h.sized⟩

/-- What Rename says. -/
def Renamed (w : World) (d : Nat) (f g : ByteArray) (t : Tree) (e : Ending) (w' : World) : Prop :=
  ∃ kv, e = .returned (.tuple #[.agg #[.string (ren f g d t).kind, .string (ren f g d t).text, .int .i64 (ren f g d t).num, kv], .bool true]) ∧ Good2 w' d (ren f g d t) kv ∧ Below w.heap.size w w'

set_option maxRecDepth 100000 in
set_option maxHeartbeats 4000000 in
theorem renameC (d : Nat) (t : Tree) (kv : Value) (f g : ByteArray) (w : World) (h : Good2 w d t kv) (hg : g.size ≤ maxLen) (hh : has f d t) :
    Calls Tryz.prog 9 #[.agg #[.string t.kind, .string t.text, .int .i64 t.num, kv], .string f, .string g, .string kNone] w (Renamed w d f g t) := by
  obtain ⟨a, c, rfl⟩ := h.kids.form
  have HA := Lib.hid h
  have HG := Lib.hid hg
  have HH := Lib.hid hh
  obtain ⟨W, hW⟩ : ∃ W, W = ((((w.alloc (.cells #[.string t.kind, .string t.text, .int .i64 t.num, .slice a t.kids.length c] 24)).alloc (.cells #[.string f] 9)).alloc (.cells #[.string g] 9)).alloc (.cells #[.string kNone] 9)).alloc (.cells #[.string ⟨#[]⟩, .string ⟨#[]⟩, .int .i64 0, .slice none 0 0] 24) := ⟨_, rfl⟩
  have HWS : Hid (W.heap.size = w.heap.size + 5) := by show _ = _; rw [hW]; simp
  have BW : Hid (Below w.heap.size w W) := by rw [hW]; exact (((((Below.refl _ _).alloc (Nat.le_refl _) _).alloc (by simp) _).alloc (by simp; omega) _).alloc (by simp; omega) _).alloc (by simp; omega) _
  have EW : Hid (Env W f g (w.heap.size + 1) (w.heap.size + 2) (w.heap.size + 3)) := by
    rw [hW]
    refine ⟨?_, ?_, ?_⟩ <;> simp [go_sem]
  have RW : Hid (BoxAt W (w.heap.size + 4) Tree.nil (.slice none 0 0)) := by show BoxAt _ _ _ _; unfold BoxAt; rw [hW]; exact alloc_here (by simp)
  clear h hg hh
  go_enter Tryz.func9, Tryz.ntmps9
  go_wp2_with fail
  rw [← hW]
  have HW := Lib.hid hW
  clear hW
  refine (treeOfC d t _ _ ⟨HA.out.kids.below BW.out, HA.out.good, HA.out.okay.imp (fun x hx => hx.2)⟩).mono ?_
  rintro e w1 ⟨v, rfl, hv, hb1⟩
  obtain ⟨p, b, rfl, hp⟩ := hv.ptr HA.out.kind
  obtain ⟨F, hT⟩ := turnsC hp
  have ha := hT.ahead
  have hm := hT.met
  have hc := hT.call
  have T := Lib.hid hT
  have B1 := Lib.hid (BW.out.trans (hb1.mono BW.out.size))
  have G1 := Lib.hid hb1
  have AV := Lib.hid hv
  clear hT hp hv hb1
  go_wp2_with fail
  refine (copyAllC d w1 (New W w1) t _ f g (w.heap.size + 1) (w.heap.size + 2) (w.heap.size + 3) ⟨AV.out, HA.out.kind, HA.out.okay, fun b hb => hb.2⟩ (EW.out.below G1.out) p b F rfl T.out).mono ?_
  rintro e w2 ⟨hb2, ⟨hno, _⟩ | ⟨_, p2, b2, rfl, hv2⟩⟩
  · exact (hno HH.out).elim
  · have B2 := Lib.hid (B1.out.trans (hb2.mono B1.out.size))
    have G2 := Lib.hid (G1.out.trans (hb2.mono G1.out.size))
    have SZ := Lib.hid hb2.size
    have A2 := Lib.hid hv2
    clear hb2 hv2 ha hm hc
    go_wp2_with fail
    refine (nodeOfC d w2 _ (ren f g d t) _ A2.out (fun b hb => hb.elim (fun h => Nat.lt_of_lt_of_le h.2 SZ.out) (fun h => h.2)) (ren_sized f g HG.out HA.out.sized)).mono ?_
    rintro e w3 ⟨kv', rfl, hk, hb3⟩
    obtain ⟨na, nc, rfl⟩ := hk.form
    have B3 := Lib.hid (B2.out.trans (hb3.mono B2.out.size))
    have G3 := Lib.hid (G2.out.trans (hb3.mono G2.out.size))
    have hl3 : w.heap.size + 4 < W.heap.size := by have := HWS.out; omega
    have R3 := Lib.hid (RW.out.stay (G3.out.block _ hl3))
    have HK := Lib.hid hk
    have H2 := Lib.hid (show w.heap.size + 4 < w2.heap.size from Nat.lt_of_lt_of_le hl3 G2.out.size)
    clear hk hb3 hl3
    have r0 := R3.out.c0
    have r1 := R3.out.c1
    have r2 := R3.out.c2
    have r3 := R3.out.c3
    have f0 := R3.out.free 0
    have f1 := R3.out.free 1
    have f2 := R3.out.free 2
    have f3 := R3.out.free 3
    go_wp2_with fail
    have hb := R3.out.put (ren f g d t) (.slice na (ren f g d t).kids.length nc)
    have s0 := hb.c0
    have s1 := hb.c1
    have s2 := hb.c2
    have s3 := hb.c3
    refine bodyPost_ret (v := .tuple #[.agg #[.string (ren f g d t).kind, .string (ren f g d t).text, .int .i64 (ren f g d t).num, .slice na (ren f g d t).kids.length nc], .bool true]) (by simp [results, Tryz.results9, go_sem, s0, s1, s2, s3]) rfl
      ⟨_, rfl, ⟨(put_moveK (w := w) HK.out H2.out B2.out.size).at, ren_all f g d t HA.out.good, by rw [ren_kind]; exact HA.out.kind, ren_okay f g HA.out.okay, ren_sized f g HG.out HA.out.sized⟩, below_put B3.out (by omega) _ _ _ _⟩
end Go.Proofs.YtlfbmpenekiigaaGreatDoor
