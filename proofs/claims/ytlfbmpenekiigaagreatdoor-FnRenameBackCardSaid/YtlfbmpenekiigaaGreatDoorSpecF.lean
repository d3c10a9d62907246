/- Same tells whether two trees are the same; conditions: the nodes read as trees. -/
import Derived.Test.YtlfbmpenekiigaaGreatDoorSpecR
import Derived.Deep.RegionWith
import Derived.StillTailTactics
import Derived.Outline
namespace Go.Proofs.YtlfbmpenekiigaaGreatDoor
open Go.ChangeShapes Go.WideShapes Go.ChangeAt Go.RowKit

def SameTo (l : List Tree) (m : List Tree) (j : Nat) : Prop := ∀ i x y, i < j → l[i]? = some x → m[i]? = some y → x = y
theorem SameTo.zero (l m : List Tree) : SameTo l m 0 := fun _ _ _ h => by omega
theorem SameTo.succ {l m : List Tree} {j : Nat} {x y : Tree} (h : SameTo l m j) (hx : l[j]? = some x) (hy : m[j]? = some y) (e : x = y) : SameTo l m (j + 1) := by
  intro i u v hi hu hv
  by_cases k : i = j
  · subst k
    rw [hx] at hu
    rw [hy] at hv
    cases hu
    cases hv
    exact e
  · exact h i u v (by omega) hu hv
theorem SameTo.all {l m : List Tree} (hl : l.length = m.length) (h : SameTo l m l.length) : l = m := by
  apply List.ext_getElem? 
  intro i
  by_cases hi : i < l.length
  · rw [List.getElem?_eq_getElem hi, List.getElem?_eq_getElem (by omega), h i _ _ hi (List.getElem?_eq_getElem hi) (List.getElem?_eq_getElem (by omega))]
  · rw [List.getElem?_eq_none (by omega), List.getElem?_eq_none (by omega)]

theorem tree_eq {s t : Tree} (h1 : s.kind = t.kind) (h2 : s.text = t.text) (h3 : s.num = t.num) (h4 : s.kids = t.kids) : s = t := by
  cases s; cases t; simp_all

def RoundS (W wr : World) (l m : List Tree) (i : Value) : Prop := ∃ j : Nat, j ≤ l.length ∧ i = .int .i64 j ∧ Below W.heap.size W wr ∧ SameTo l m j

set_option maxRecDepth 100000 in
set_option maxHeartbeats 2000000 in
theorem sameC : ∀ (d : Nat) (s t : Tree) (e : Nat) (ks kt : Value) (w : World), KidsAt w d s ks → KidsAt w e t kt →
    Calls Tryz.prog 10 #[.agg #[.string s.kind, .string s.text, .int .i64 s.num, ks], .agg #[.string t.kind, .string t.text, .int .i64 t.num, kt]] w (Tells w (s = t)) := by
  intro d
  induction d with
  | zero => intro s t e ks kt w h; exact h.elim
  | succ d ih =>
    intro s t e ks kt w hs ht
    cases e with
    | zero => exact ht.elim
    | succ e =>
      obtain ⟨_, _, _, a, c, rfl, hl, hc, hkids⟩ := hs
      obtain ⟨_, _, _, a2, c2, rfl, hl2, hc2, hkids2⟩ := ht
      have HK := Lib.hid hkids
      have HK2 := Lib.hid hkids2
      have IH := Lib.hid ih
      clear hkids hkids2 ih
      have B := Lib.hid (((below1 w (.cells #[.string s.kind, .string s.text, .int .i64 s.num, .slice a s.kids.length c] 24)).alloc (by simp) (.cells #[.string t.kind, .string t.text, .int .i64 t.num, .slice a2 t.kids.length c2] 24)))
      by_cases e1 : s.kind = t.kind
      · have k1 : (s.kind.toList == t.kind.toList) = true := by rw [e1]; simp
        have E1 := Lib.hid e1
        clear e1
        by_cases e2 : s.text = t.text
        · have k2 : (s.text.toList == t.text.toList) = true := by rw [e2]; simp
          have E2 := Lib.hid e2
          clear e2
          by_cases e3 : s.num = t.num
          · have k3 : (s.num != t.num) = false := by simp [e3]
            have E3 := Lib.hid e3
            clear e3
            by_cases e4 : s.kids.length = t.kids.length
            · have k4 : ((s.kids.length : Int) != (t.kids.length : Int)) = false := by simp [e4]
              have E4 := Lib.hid e4
              clear e4
              go_enter Tryz.func10, Tryz.ntmps10
              go_wp2_with fail
              go_loopw [37] (fun i wr => RoundS ((w.alloc (.cells #[.string s.kind, .string s.text, .int .i64 s.num, .slice a s.kids.length c] 24)).alloc (.cells #[.string t.kind, .string t.text, .int .i64 t.num, .slice a2 t.kids.length c2] 24)) wr s.kids t.kids i) (fun i _ => s.kids.length - (intOf i).toNat)
              case atStart => exact ⟨0, Nat.zero_le _, rfl, Below.refl _ _, SameTo.zero _ _⟩
              case round =>
                obtain ⟨j, hj, rfl, hb, hup⟩ := hrel
                have u0 : wr.cell? ⟨w.heap.size, 3, none⟩ = some (.slice a s.kids.length c) := (hb.cell (p := ⟨w.heap.size, 3, none⟩) (by simp; omega)).trans ((World.cell?_alloc_past (w := w.alloc _) _ _ _ (by simp)).trans ((World.cell?_alloc_at (w := w) _ _ _ _ rfl).trans (by simp)))
                have u1 : wr.cell? ⟨w.heap.size + 1, 3, none⟩ = some (.slice a2 t.kids.length c2) := (hb.cell (p := ⟨w.heap.size + 1, 3, none⟩) (by simp)).trans ((World.cell?_alloc_at (w := w.alloc _) _ _ _ _ (by simp)).trans (by simp))
                have hbw : Below w.heap.size w wr := B.out.trans (hb.mono (by simp; omega))
                have HW := Lib.hid hb
                clear hb
                have HB := Lib.hid hbw
                have HU := Lib.hid hup
                have hsz := hbw.size
                by_cases hlt : j < s.kids.length
                · have hlt2 : j < t.kids.length := by have := E4.out; omega
                  obtain ⟨x, b, o, xa, xc, hx, _, rfl, hbl, ⟨x0, x1, x2, x3⟩, KX⟩ := kid_at HK.out hlt
                  obtain ⟨y, b', o', ya, yc, hy, _, rfl, hbl', ⟨y0, y1, y2, y3⟩, KY⟩ := kid_at HK2.out hlt2
                  have HX := Lib.hid hx
                  have HY := Lib.hid hy
                  have HKX := Lib.hid KX
                  have HKY := Lib.hid KY
                  obtain ⟨hc1, hf1⟩ := bcell hbw
                  have q1 : b < wr.heap.size := by omega
                  have q2 : b' < wr.heap.size := by omega
                  clear hbw hup hx hy KX KY
                  have i1 : (0 : Int) ≤ (j : Int) := by omega
                  have i2 : (j : Int) < (s.kids.length : Int) := by omega
                  have i3 : (j : Int) < (t.kids.length : Int) := by omega
                  have v0 := (hc1 _ (o + j * 4) hbl).trans x0
                  have v1 := (hc1 _ (o + j * 4 + 1) hbl).trans x1
                  have v2 := (hc1 _ (o + j * 4 + 2) hbl).trans x2
                  have v3 := (hc1 _ (o + j * 4 + 3) hbl).trans x3
                  have t0 := (hc1 _ (o' + j * 4) hbl').trans y0
                  have t1 := (hc1 _ (o' + j * 4 + 1) hbl').trans y1
                  have t2 := (hc1 _ (o' + j * 4 + 2) hbl').trans y2
                  have t3 := (hc1 _ (o' + j * 4 + 3) hbl').trans y3
                  clear hc1 hf1 x0 x1 x2 x3 y0 y1 y2 y3
                  go_wp2_with fail
                  go_still_tail 10, (by kernel_rfl)
                  change wpList _ _ _ _ _ wr.drew
                  have BD := Lib.hid (Below.drew HB.out)
                  have WD := Lib.hid (Below.drew HW.out)
                  clear v0 v1 v2 v3 t0 t1 t2 t3 u0 u1
                  generalize wr.drew = w2 at *
                  go_wp2_with fail
                  refine (IH.out x y e _ _ w2 (HKX.out.below BD.out) (HKY.out.below BD.out)).mono ?_
                  rintro e w3 ⟨b3, rfl, hp3, hb3⟩
                  have B3 := Lib.hid (BD.out.trans (hb3.mono BD.out.size))
                  have W3 := Lib.hid (WD.out.trans (hb3.mono WD.out.size))
                  cases b3 with
                  | true =>
                    have P3 := Lib.hid (hp3.1 rfl)
                    clear hp3 hb3
                    go_wp2_with fail
                    go_roundw
                    case rel => exact ⟨j + 1, by omega, by go_num, W3.out, HU.out.succ HX.out HY.out P3.out⟩
                    case measure => simp [intOf]; omega
                  | false =>
                    have P3 := Lib.hid (fun e => Bool.noConfusion (hp3.2 e) : x ≠ y)
                    clear hp3 hb3
                    go_wp2_with fail
                    go_ret
                    exact ⟨_, rfl, ⟨fun e => Bool.noConfusion e, fun e => (P3.out (by have h1 := HX.out; have h2 := HY.out; rw [e, h2] at h1; exact (Option.some.inj h1).symm)).elim⟩, B3.out⟩
                · have HE : Hid (j = s.kids.length) := by show j = _; omega
                  clear hbw hup
                  go_wp2_with fail
                  go_ret
                  exact ⟨_, rfl, ⟨fun _ => tree_eq E1.out E2.out E3.out (SameTo.all E4.out (HE.out ▸ HU.out)), fun _ => rfl⟩, HB.out⟩
            · have k4 : ((s.kids.length : Int) != (t.kids.length : Int)) = true := by simp; intro e; exact e4 (by omega)
              have E4 := Lib.hid e4
              clear e4
              go_enter Tryz.func10, Tryz.ntmps10
              go_wp2_with fail
              go_ret
              exact ⟨_, rfl, ⟨fun e => Bool.noConfusion e, fun e => (E4.out (by rw [e])).elim⟩, B.out⟩
          · have k3 : (s.num != t.num) = true := by simpa using e3
            have E3 := Lib.hid e3
            clear e3
            go_enter Tryz.func10, Tryz.ntmps10
            go_wp2_with fail
            go_ret
            exact ⟨_, rfl, ⟨fun e => Bool.noConfusion e, fun e => (E3.out (by rw [e])).elim⟩, B.out⟩
        · have k2 : (s.text.toList == t.text.toList) = false := by simpa using fun e => e2 (bytes_of e)
          have E2 := Lib.hid e2
          clear e2
          go_enter Tryz.func10, Tryz.ntmps10
          go_wp2_with fail
          go_ret
          exact ⟨_, rfl, ⟨fun e => Bool.noConfusion e, fun e => (E2.out (by rw [e])).elim⟩, B.out⟩
      · have k1 : (s.kind.toList == t.kind.toList) = false := by simpa using fun e => e1 (bytes_of e)
        have E1 := Lib.hid e1
        clear e1
        go_enter Tryz.func10, Tryz.ntmps10
        go_wp2_with fail
        go_ret
        exact ⟨_, rfl, ⟨fun e => Bool.noConfusion e, fun e => (E1.out (by rw [e])).elim⟩, B.out⟩
end Go.Proofs.YtlfbmpenekiigaaGreatDoor
