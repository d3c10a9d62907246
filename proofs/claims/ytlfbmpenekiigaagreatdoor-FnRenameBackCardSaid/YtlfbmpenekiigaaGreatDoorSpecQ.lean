/- isQualifiers: a yes tells that the node's form is good; conditions: the node reads as a tree. -/
import Derived.Test.YtlfbmpenekiigaaGreatDoorSpecR
import Derived.ArgAppend
namespace Go.Proofs.YtlfbmpenekiigaaGreatDoor
open Go.ChangeShapes Go.WideShapes Go.ChangeAt Go.RowKit

/-- Some texts in a row of the call's own. -/
def TextsAt (w : World) (N g n : Nat) : Prop := N ≤ g ∧ g < w.heap.size ∧ ∀ i, i < n → ∃ s, w.cell? ⟨g, i, none⟩ = some (.string s)

theorem TextsAt.keep {w w' : World} {N g n : Nat} (h : TextsAt w N g n) (hb : Below w.heap.size w w') : TextsAt w' N g n :=
  ⟨h.1, Nat.lt_of_lt_of_le h.2.1 hb.size, fun i hi => (h.2.2 i hi).imp fun _ e => cells_below hb _ _ _ e⟩

theorem texts_of_own {w : World} {N e : Nat} {v : Value} {xs : List ByteArray} (h : w.ownsRow N e 1 v xs.length (xs.map Value.string)) (h0 : 0 < xs.length) : ∃ g c, v = .slice (some ⟨g, 0, none⟩) xs.length c ∧ TextsAt w N g xs.length := by
  rcases h.2 with ⟨_, e⟩ | ⟨g, cap, cur, rfl, hN, hg, _, _, _, ht⟩
  · omega
  · refine ⟨g, cap, rfl, hN, (Array.getElem?_eq_some_iff.1 hg).1, fun i hi => ⟨xs[i], ?_⟩⟩
    rw [cell_of_row w g i cur e (0, 0) hg]
    have h2 : (cur.toList.take (xs.length * 1))[i]? = (xs.map Value.string)[i]? := by rw [ht]
    rw [List.getElem?_take_of_lt (by omega)] at h2
    rw [← Array.getElem?_toList, h2]
    simp [List.getElem?_eq_getElem hi]

theorem qualifier_fine {w : World} {d : Nat} {x : Tree} {kv : Value} (h : KidsAt w d x kv) (hk : x.kind = kQualifier) (hn : x.num = 0) (he : x.kids = []) : Fine d x := by
  cases d with
  | zero => exact h.elim
  | succ d => exact .mk (.inr (.inr (.inl ⟨hk, hn, he⟩))) (by rw [he]; intro y hy; cases hy)

theorem qualifiers_fine {d : Nat} {t : Tree} (hk : t.kind = kQualifiers) (ht : t.text = ByteArray.empty) (hn : t.num = 0) (h : ∀ x ∈ t.kids, Fine d x) : Fine (d + 1) t :=
  .mk (.inr (.inr (.inr (.inr (.inr (.inr (.inr (.inl ⟨.inl hk, ht, hn, fun x hx => (h x hx).kind⟩)))))))) (fun x hx => (h x hx).1)

def RoundQ (w wr : World) (g n : Nat) (l : List Tree) (P : Tree → Prop) (at' i : Value) : Prop :=
  ∃ j m : Nat, j ≤ l.length ∧ m ≤ n ∧ i = .int .i64 j ∧ at' = .int .i64 m ∧ Below w.heap.size w wr ∧ TextsAt wr w.heap.size g n ∧ Upto l P j
def RoundI (wo wr : World) (n : Nat) (at' : Value) : Prop := ∃ m : Nat, m ≤ n ∧ at' = .int .i64 m ∧ Below wo.heap.size wo wr

theorem below_drewN {B : Nat} {a w : World} (h : Below B a w) (n : Nat) : Below B a (w.drewN n) := ⟨h.os, h.tape, h.output, h.size, h.block⟩

theorem cell_drawn {w : World} {g i : Nat} {t : TypeId} {cs : Array Value} {v : Value} (hg : g = w.heap.size) (h : cs[i]? = some v) : (w.alloc (.cells cs t)).drew.cell? ⟨g, i, none⟩ = some v :=
  (World.cell?_alloc_at (w := w) _ _ _ _ hg).trans h

theorem infoS : (Tryz.prog.info? 9).map (fun i => (i.zero, i.size, i.bytes)) = some (some (.string ByteArray.empty), 1, 16) := by kernel_rfl

set_option maxRecDepth 100000 in
set_option maxHeartbeats 4000000 in
theorem isQualifiersC (d : Nat) (r : Bool) (t : Tree) (kv : Value) (w : World) (h : KidsAt w d t kv) :
    Calls Tryz.prog 46 #[.agg #[.string t.kind, .string t.text, .int .i64 t.num, kv], .bool r] w (Ans w (Fine d t)) := by
  cases d with
  | zero => exact h.elim
  | succ d =>
    obtain ⟨i0, hi0, hz0, hz1, hz2⟩ := info_parts infoS
    obtain ⟨hk, ht, hwf, a, c, rfl, hl, hc, hkids⟩ := h
    have HK := Lib.hid hkids
    have B := Lib.hid (below1 w (.cells #[.string t.kind, .string t.text, .int .i64 t.num, .slice a t.kids.length c] 24))
    clear hkids
    by_cases e1 : t.kind = kQualifiers
    · have k1 := kind_is (a := t.kind) kQualifiers e1 (l := [81, 117, 97, 108, 105, 102, 105, 101, 114, 115]) rfl
      have E1 := Lib.hid e1
      clear e1
      by_cases htx : t.text = ByteArray.empty
      · have ht0 : t.text.toList = [] := by rw [htx, Lib.toList_data]; rfl
        have HTX := Lib.hid htx
        clear htx
        by_cases hnum : t.num = 0
        · have hn : (t.num != 0) = false := by simp [hnum]
          have HNUM := Lib.hid hnum
          clear hnum
          by_cases hlen : t.kids.length = 0
          · have hz : ((t.kids.length : Int) == 0) = true := by simp [hlen]
            clear hlen
            go_enter Tryz.func46, Tryz.ntmps46
            go_wp2_with fail
            go_ret
            exact ⟨_, rfl, fun e => Bool.noConfusion e, B.out⟩
          · have hz : ((t.kids.length : Int) == 0) = false := by simp; intro e; exact hlen (by rw [e]; rfl)
            clear hlen
            cases r with
            | false =>
              go_enter Tryz.func46, Tryz.ntmps46
              go_wp2_with fail
              go_loopw [6, 36] (fun m i wr => RoundQ w wr (w.heap.size + 1) 2 t.kids (Fine d) m i) (fun _ i _ => t.kids.length - (intOf i).toNat)
              case atStart =>
                refine ⟨0, 0, by omega, by omega, rfl, rfl, ((Below.refl _ _).alloc (Nat.le_refl _) _).alloc (by simp) _, ⟨by omega, by simp, ?_⟩, Upto.zero _ _⟩
                intro i hi
                obtain rfl | rfl : i = 0 ∨ i = 1 := by omega
                · exact ⟨⟨#[99, 111, 110, 115, 116]⟩, (World.cell?_alloc_at (w := w.alloc _) _ _ _ _ (by simp)).trans (by simp)⟩
                · exact ⟨⟨#[118, 111, 108, 97, 116, 105, 108, 101]⟩, (World.cell?_alloc_at (w := w.alloc _) _ _ _ _ (by simp)).trans (by simp)⟩
              case round =>
                obtain ⟨j, m, hj, hm, rfl, rfl, hb, htx, hup⟩ := hrel
                obtain ⟨wo, rfl⟩ : ∃ wo : World, wo = wr := ⟨_, rfl⟩
                have HB := Lib.hid hb
                have HT := Lib.hid htx
                have HU := Lib.hid hup
                have hsz := hb.size
                have hg := htx.2.1
                by_cases hlt : j < t.kids.length
                · obtain ⟨x, b, o, xa, xc, hx, _, rfl, hbl, ⟨x0, x1, x2, x3⟩, KX⟩ := kid_at HK.out hlt
                  have HX := Lib.hid hx
                  have HKX := Lib.hid KX
                  obtain ⟨hc1, hf1⟩ := bcell hb
                  have q1 : b < wo.heap.size := by omega
                  have B0 := Lib.hid (HB.out.trans ((below1 wo (.cells #[.string x.kind, .string x.text, .int .i64 x.num, .slice xa x.kids.length xc] 24)).mono hsz))
                  have HT0 := Lib.hid (HT.out.keep (below1 wo (.cells #[.string x.kind, .string x.text, .int .i64 x.num, .slice xa x.kids.length xc] 24)))
                  clear hb hup hx KX htx
                  go_wp2_with fail
                  go_loopw [6] (fun m wr => RoundI (wo.alloc (.cells #[.string x.kind, .string x.text, .int .i64 x.num, .slice xa x.kids.length xc] 24)) wr 2 m) (fun m _ => 2 - (intOf m).toNat)
                  case atStart => exact ⟨m, hm, rfl, Below.refl _ _⟩
                  case round =>
                    obtain ⟨m', hm', rfl, hbi⟩ := hrel
                    have HBI := Lib.hid hbi
                    obtain ⟨hc2, hf2⟩ := bcell hbi
                    have hz2 : wo.heap.size < wr.heap.size := by have := hbi.size; simp at this; omega
                    have B2 := Lib.hid (B0.out.trans (hbi.mono (by simp; omega)))
                    have HT2 := Lib.hid (HT0.out.keep hbi)
                    clear hbi
                    by_cases hmn : m' < 2
                    · have hd : decide ((m' : Int) < 2) = true := by simp; omega
                      have hd2 : (m' : Int) < 2 := by omega
                      have hd3 : (0 : Int) ≤ (m' : Int) := by omega
                      obtain ⟨s, hs⟩ := HT2.out.2.2 m' hmn
                      have y1 : wr.cell? ⟨wo.heap.size, 1, none⟩ = some (.string x.text) := by rw [hc2 _ _ (by simp)]; exact (World.cell?_alloc_at (w := wo) _ _ _ _ rfl).trans (by simp)
                      clear hc2 hf2 hc1 hf1
                      cases hcmp : (s.toList == x.text.toList)
                      · go_wp2_with fail
                        go_quiet (fail)
                        go_wp2_with fail
                        go_roundw
                        case rel => exact ⟨m' + 1, by omega, by go_num, below_drewN HBI.out _⟩
                        case measure => simp [intOf]; omega
                      · go_wp2_with fail
                        go_quiet (fail)
                        have y0 : wr.cell? ⟨wo.heap.size, 0, none⟩ = some (.string x.kind) := (HBI.out.cell (p := ⟨wo.heap.size, 0, none⟩) (by simp)).trans ((World.cell?_alloc_at (w := wo) _ _ _ _ rfl).trans (by simp))
                        have y2 : wr.cell? ⟨wo.heap.size, 2, none⟩ = some (.int .i64 x.num) := (HBI.out.cell (p := ⟨wo.heap.size, 2, none⟩) (by simp)).trans ((World.cell?_alloc_at (w := wo) _ _ _ _ rfl).trans (by simp))
                        have y3 : wr.cell? ⟨wo.heap.size, 3, none⟩ = some (.slice xa x.kids.length xc) := (HBI.out.cell (p := ⟨wo.heap.size, 3, none⟩) (by simp)).trans ((World.cell?_alloc_at (w := wo) _ _ _ _ rfl).trans (by simp))
                        have BQ := Lib.hid (below_drewN B2.out nq)
                        have TQ := Lib.hid (HT2.out.keep (below_drewN (Below.refl _ _) nq))
                        have KQ := Lib.hid (HKX.out.below BQ.out)
                        have u0 : (wr.drewN nq).cell? ⟨wo.heap.size, 0, none⟩ = some (.string x.kind) := y0
                        have u2 : (wr.drewN nq).cell? ⟨wo.heap.size, 2, none⟩ = some (.int .i64 x.num) := y2
                        have u3 : (wr.drewN nq).cell? ⟨wo.heap.size, 3, none⟩ = some (.slice xa x.kids.length xc) := y3
                        clear y0 y1 y2 y3 hs
                        generalize wr.drewN nq = wq at *
                        have hmne : ((m' : Int) == 2) = false := by simp; omega
                        by_cases g1 : x.kind = kQualifier
                        · have gk := kind_is (a := x.kind) kQualifier g1 (l := [81, 117, 97, 108, 105, 102, 105, 101, 114]) rfl
                          by_cases g2 : x.num = 0
                          · have gn : (x.num != 0) = false := by simp [g2]
                            by_cases g3 : x.kids.length = 0
                            · have gz : ((x.kids.length : Int) != 0) = false := by simp [g3]
                              have G := Lib.hid (qualifier_fine HKX.out g1 g2 (List.eq_nil_of_length_eq_zero g3))
                              clear g1 g2 g3
                              go_wp2_with fail
                              go_roundw
                              case rel => exact ⟨j + 1, m' + 1, by omega, by omega, by go_num, by go_num, BQ.out, TQ.out, HU.out.succ HX.out G.out⟩
                              case measure => simp [intOf]; omega
                            · have gz : ((x.kids.length : Int) != 0) = true := by simp; intro e; exact g3 (by rw [e]; rfl)
                              clear g1 g2 g3
                              go_wp2_with fail
                              go_ret
                              exact ⟨_, rfl, fun e => Bool.noConfusion e, BQ.out⟩
                          · have gn : (x.num != 0) = true := by simpa using g2
                            clear g1 g2
                            go_wp2_with fail
                            go_ret
                            exact ⟨_, rfl, fun e => Bool.noConfusion e, BQ.out⟩
                        · have gk := kind_ne (a := x.kind) kQualifier g1 (l := [81, 117, 97, 108, 105, 102, 105, 101, 114]) rfl
                          clear g1
                          go_wp2_with fail
                          go_ret
                          exact ⟨_, rfl, fun e => Bool.noConfusion e, BQ.out⟩
                    · have hd : decide ((m' : Int) < 2) = false := by simp; omega
                      have hd2 : ¬ (m' : Int) < 2 := by omega
                      have hd3 : (0 : Int) ≤ (m' : Int) := by omega
                      go_wp2_with fail
                      go_quiet (fail)
                      have BQ := Lib.hid (below_drewN B2.out nq)
                      generalize wr.drewN nq = wq at *
                      have hmne : ((m' : Int) == 2) = true := by simp; omega
                      go_wp2_with fail
                      go_ret
                      exact ⟨_, rfl, fun e => Bool.noConfusion e, BQ.out⟩
                · have HE : Hid (j = t.kids.length) := by show j = _; omega
                  clear hb hup htx
                  go_wp2_with fail
                  go_ret
                  exact ⟨_, rfl, fun _ => qualifiers_fine E1.out HTX.out HNUM.out (HE.out ▸ HU.out).all, HB.out⟩
            | true =>
              go_enter Tryz.func46, Tryz.ntmps46
              go_wp2_with fail
              go_loopw [6, 36] (fun m i wr => RoundQ w wr (w.heap.size + 1 + 1 + 1) 3 t.kids (Fine d) m i) (fun _ i _ => t.kids.length - (intOf i).toNat)
              case atStart =>
                refine ⟨0, 0, by omega, by omega, rfl, rfl, (((((Below.refl _ _).alloc (Nat.le_refl _) _).alloc (by simp) _).alloc (by simp; omega) _).alloc (by simp; omega) _).drew, ⟨by omega, by simp, ?_⟩, Upto.zero _ _⟩
                intro i hi
                obtain rfl | rfl | rfl : i = 0 ∨ i = 1 ∨ i = 2 := by omega
                · exact ⟨⟨#[99, 111, 110, 115, 116]⟩, cell_drawn (by simp) ((Array.getElem?_append_left (by simp)).trans rfl)⟩
                · exact ⟨⟨#[118, 111, 108, 97, 116, 105, 108, 101]⟩, cell_drawn (by simp) ((Array.getElem?_append_left (by simp)).trans rfl)⟩
                · exact ⟨⟨#[114, 101, 115, 116, 114, 105, 99, 116]⟩, cell_drawn (by simp) ((Array.getElem?_append_left (by simp)).trans rfl)⟩
              case round =>
                obtain ⟨j, m, hj, hm, rfl, rfl, hb, htx, hup⟩ := hrel
                obtain ⟨wo, rfl⟩ : ∃ wo : World, wo = wr := ⟨_, rfl⟩
                have HB := Lib.hid hb
                have HT := Lib.hid htx
                have HU := Lib.hid hup
                have hsz := hb.size
                have hg := htx.2.1
                by_cases hlt : j < t.kids.length
                · obtain ⟨x, b, o, xa, xc, hx, _, rfl, hbl, ⟨x0, x1, x2, x3⟩, KX⟩ := kid_at HK.out hlt
                  have HX := Lib.hid hx
                  have HKX := Lib.hid KX
                  obtain ⟨hc1, hf1⟩ := bcell hb
                  have q1 : b < wo.heap.size := by omega
                  have B0 := Lib.hid (HB.out.trans ((below1 wo (.cells #[.string x.kind, .string x.text, .int .i64 x.num, .slice xa x.kids.length xc] 24)).mono hsz))
                  have HT0 := Lib.hid (HT.out.keep (below1 wo (.cells #[.string x.kind, .string x.text, .int .i64 x.num, .slice xa x.kids.length xc] 24)))
                  clear hb hup hx KX htx
                  go_wp2_with fail
                  go_loopw [6] (fun m wr => RoundI (wo.alloc (.cells #[.string x.kind, .string x.text, .int .i64 x.num, .slice xa x.kids.length xc] 24)) wr 3 m) (fun m _ => 3 - (intOf m).toNat)
                  case atStart => exact ⟨m, hm, rfl, Below.refl _ _⟩
                  case round =>
                    obtain ⟨m', hm', rfl, hbi⟩ := hrel
                    have HBI := Lib.hid hbi
                    obtain ⟨hc2, hf2⟩ := bcell hbi
                    have hz2 : wo.heap.size < wr.heap.size := by have := hbi.size; simp at this; omega
                    have B2 := Lib.hid (B0.out.trans (hbi.mono (by simp; omega)))
                    have HT2 := Lib.hid (HT0.out.keep hbi)
                    clear hbi
                    by_cases hmn : m' < 3
                    · have hd : decide ((m' : Int) < 3) = true := by simp; omega
                      have hd2 : (m' : Int) < 3 := by omega
                      have hd3 : (0 : Int) ≤ (m' : Int) := by omega
                      obtain ⟨s, hs⟩ := HT2.out.2.2 m' hmn
                      have y1 : wr.cell? ⟨wo.heap.size, 1, none⟩ = some (.string x.text) := by rw [hc2 _ _ (by simp)]; exact (World.cell?_alloc_at (w := wo) _ _ _ _ rfl).trans (by simp)
                      clear hc2 hf2 hc1 hf1
                      cases hcmp : (s.toList == x.text.toList)
                      · go_wp2_with fail
                        go_quiet (fail)
                        go_wp2_with fail
                        go_roundw
                        case rel => exact ⟨m' + 1, by omega, by go_num, below_drewN HBI.out _⟩
                        case measure => simp [intOf]; omega
                      · go_wp2_with fail
                        go_quiet (fail)
                        have y0 : wr.cell? ⟨wo.heap.size, 0, none⟩ = some (.string x.kind) := (HBI.out.cell (p := ⟨wo.heap.size, 0, none⟩) (by simp)).trans ((World.cell?_alloc_at (w := wo) _ _ _ _ rfl).trans (by simp))
                        have y2 : wr.cell? ⟨wo.heap.size, 2, none⟩ = some (.int .i64 x.num) := (HBI.out.cell (p := ⟨wo.heap.size, 2, none⟩) (by simp)).trans ((World.cell?_alloc_at (w := wo) _ _ _ _ rfl).trans (by simp))
                        have y3 : wr.cell? ⟨wo.heap.size, 3, none⟩ = some (.slice xa x.kids.length xc) := (HBI.out.cell (p := ⟨wo.heap.size, 3, none⟩) (by simp)).trans ((World.cell?_alloc_at (w := wo) _ _ _ _ rfl).trans (by simp))
                        have BQ := Lib.hid (below_drewN B2.out nq)
                        have TQ := Lib.hid (HT2.out.keep (below_drewN (Below.refl _ _) nq))
                        have KQ := Lib.hid (HKX.out.below BQ.out)
                        have u0 : (wr.drewN nq).cell? ⟨wo.heap.size, 0, none⟩ = some (.string x.kind) := y0
                        have u2 : (wr.drewN nq).cell? ⟨wo.heap.size, 2, none⟩ = some (.int .i64 x.num) := y2
                        have u3 : (wr.drewN nq).cell? ⟨wo.heap.size, 3, none⟩ = some (.slice xa x.kids.length xc) := y3
                        clear y0 y1 y2 y3 hs
                        generalize wr.drewN nq = wq at *
                        have hmne : ((m' : Int) == 3) = false := by simp; omega
                        by_cases g1 : x.kind = kQualifier
                        · have gk := kind_is (a := x.kind) kQualifier g1 (l := [81, 117, 97, 108, 105, 102, 105, 101, 114]) rfl
                          by_cases g2 : x.num = 0
                          · have gn : (x.num != 0) = false := by simp [g2]
                            by_cases g3 : x.kids.length = 0
                            · have gz : ((x.kids.length : Int) != 0) = false := by simp [g3]
                              have G := Lib.hid (qualifier_fine HKX.out g1 g2 (List.eq_nil_of_length_eq_zero g3))
                              clear g1 g2 g3
                              go_wp2_with fail
                              go_roundw
                              case rel => exact ⟨j + 1, m' + 1, by omega, by omega, by go_num, by go_num, BQ.out, TQ.out, HU.out.succ HX.out G.out⟩
                              case measure => simp [intOf]; omega
                            · have gz : ((x.kids.length : Int) != 0) = true := by simp; intro e; exact g3 (by rw [e]; rfl)
                              clear g1 g2 g3
                              go_wp2_with fail
                              go_ret
                              exact ⟨_, rfl, fun e => Bool.noConfusion e, BQ.out⟩
                          · have gn : (x.num != 0) = true := by simpa using g2
                            clear g1 g2
                            go_wp2_with fail
                            go_ret
                            exact ⟨_, rfl, fun e => Bool.noConfusion e, BQ.out⟩
                        · have gk := kind_ne (a := x.kind) kQualifier g1 (l := [81, 117, 97, 108, 105, 102, 105, 101, 114]) rfl
                          clear g1
                          go_wp2_with fail
                          go_ret
                          exact ⟨_, rfl, fun e => Bool.noConfusion e, BQ.out⟩
                    · have hd : decide ((m' : Int) < 3) = false := by simp; omega
                      have hd2 : ¬ (m' : Int) < 3 := by omega
                      have hd3 : (0 : Int) ≤ (m' : Int) := by omega
                      go_wp2_with fail
                      go_quiet (fail)
                      have BQ := Lib.hid (below_drewN B2.out nq)
                      generalize wr.drewN nq = wq at *
                      have hmne : ((m' : Int) == 3) = true := by simp; omega
                      go_wp2_with fail
                      go_ret
                      exact ⟨_, rfl, fun e => Bool.noConfusion e, BQ.out⟩
                · have HE : Hid (j = t.kids.length) := by show j = _; omega
                  clear hb hup htx
                  go_wp2_with fail
                  go_ret
                  exact ⟨_, rfl, fun _ => qualifiers_fine E1.out HTX.out HNUM.out (HE.out ▸ HU.out).all, HB.out⟩
        · have hn : (t.num != 0) = true := by simpa using hnum
          clear hnum
          go_enter Tryz.func46, Tryz.ntmps46
          go_wp2_with fail
          go_ret
          exact ⟨_, rfl, fun e => Bool.noConfusion e, below1 _ _⟩
      · have ht0 : t.text.toList.isEmpty = false := by
          cases he : t.text.toList with
          | nil => exact (htx (empty_of_nil he)).elim
          | cons _ _ => rfl
        clear htx
        go_enter Tryz.func46, Tryz.ntmps46
        go_wp2_with fail
        go_ret
        exact ⟨_, rfl, fun e => Bool.noConfusion e, below1 _ _⟩
    · have k1 := kind_ne (a := t.kind) kQualifiers e1 (l := [81, 117, 97, 108, 105, 102, 105, 101, 114, 115]) rfl
      clear e1
      go_enter Tryz.func46, Tryz.ntmps46
      go_wp2_with fail
      go_ret
      exact ⟨_, rfl, fun e => Bool.noConfusion e, below1 _ _⟩
end Go.Proofs.YtlfbmpenekiigaaGreatDoor
