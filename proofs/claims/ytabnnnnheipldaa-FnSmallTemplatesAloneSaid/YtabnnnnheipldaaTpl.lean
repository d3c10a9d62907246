/- Template.print; conditions: fewer than 2^47 bytes, and no limit on the output. -/
import Derived.Test.YtabnnnnheipldaaList
import Derived.Defers
import Derived.StillTailTactics
namespace Go.Proofs.Ytabnnnnheipldaa
open Go.ChangeShapes Go.WideShapes Go.ChangeAt Go.RowKit

/-! ### The inner types held and given back -/
theorem own_same {w w2 : World} {B e s n : Nat} {v : Value} {xs : List Value} (h : w.ownsRow B e s v n xs) (hb : ∀ k, v.ownBlock = some k → w2.heap[k]? = w.heap[k]?) : w2.ownsRow B e s v n xs := by
  obtain ⟨h1, h2⟩ := h
  refine ⟨h1, ?_⟩
  rcases h2 with h2 | ⟨g, cap, cur, e1, e2, e3, e4⟩
  · exact .inl h2
  · refine .inr ⟨g, cap, cur, e1, e2, ?_, e4⟩
    rw [hb g (by rw [e1]; rfl)]
    exact e3

theorem PsAt.restore {w w1 w2 : World} {p : Nat} {st st2 : St} {sl sl2 : Sl} {v1 : Value} (h : PsAt w p st sl) (hb1 : ∀ k, k < w.heap.size → k ≠ p → w1.heap[k]? = w.heap[k]?) (hv1 : ∀ k, v1.ownBlock = some k → w.heap.size ≤ k)
    (F1 : Fr p sl { sl with inn := v1 } w w1) (F : Fr p { sl with inn := v1 } sl2 w1 w2) (h2 : PsAt w2 p st2 sl2) :
    PsAt (w2.setCell ⟨p, 8, none⟩ sl.inn) p { st2 with inn := st.inn } { sl2 with inn := sl.inn } ∧ Fr p sl { sl2 with inn := sl.inn } w (w2.setCell ⟨p, 8, none⟩ sl.inn) := by
  have FT := F1.trans F
  have hblk : ∀ k, sl.inn.ownBlock = some k → w2.heap[k]? = w.heap[k]? := by
    intro k hk
    have hlt := (h.ownInn.lt k hk).2
    have hp : k ≠ p := fun e => h.rowInn (by rw [hk, e])
    rw [F.block k (Nat.lt_of_lt_of_le hlt F1.size) hp (fun e => buf_sep h h.ownInn k e hk) (fun e => by have := hv1 k e; omega) (fun e => h.sep k hk e)]
    exact hb1 k hlt hp
  refine ⟨h2.setInn (own_same h.ownInn hblk) ?_, FT.os, FT.tape, FT.output, by simpa [World.setCell] using FT.size, ?_, FT.buf, fun _ e => .inl e, FT.prt⟩
  · intro k hk hv
    have hlt := (h.ownInn.lt k hk).2
    rcases FT.prt k hv with e | e
    · exact h.sep k hk e
    · omega
  · intro k hk hp b1 b2 b3
    rw [Below.heap_setCell _ _ _ _ hp]
    exact FT.block k hk hp b1 b2 b3

/-- A block that is new ahead of the walk stands behind it. -/
theorem new_far {w w1 wx : World} {p k : Nat} {st : St} {sl slx : Sl} {o : Obj} {v : Value} (h : PsAt w p st sl) (hv : v.ownBlock = none) (hs : w.heap.size ≤ k) (hk : w1.heap[k]? = some o) (F : Fr p { sl with inn := v } slx w1 wx) : wx.heap[k]? = some o := by
  have hlt := h.lt
  rw [F.block k (Array.getElem?_eq_some_iff.1 hk).1 (by omega) (fun e => by have := (h.ownBuf.lt _ e).2; omega) (fun e => by rw [show ({ sl with inn := v } : Sl).inn = v from rfl, hv] at e; cases e) (fun e => by have := (h.ownPrt.lt _ e).2; omega)]
  exact hk

/-- The deferred closure: the inner types are what they were. -/
theorem tplClose (w : World) (bi bp p : Nat) (a : Option Addr) (n c : Nat) (x : Value) (u : FrameMode) (c1 : w.cell? ⟨bi, 0, none⟩ = some (.slice a n c)) (c2 : w.cell? ⟨bp, 0, none⟩ = some (.pointer (some ⟨p, 0, none⟩))) (c8 : w.cell? ⟨p, 8, none⟩ = some x) (f8 : w.frozen? ⟨p, 8, none⟩ = false) :
    CallsD Try.prog 116 #[.pointer (some ⟨bi, 0, none⟩), .pointer (some ⟨bp, 0, none⟩)] u w fun e u' w' => u' = u ∧ (e = .returned (.tuple #[]) ∧ w' = w.setCell ⟨p, 8, none⟩ (.slice a n c)) := by
  go_enter_d Try.func116, Try.ntmps116
  go_wp2
  go_end0
  exact ⟨rfl, rfl⟩

theorem isTemplate (b : Nat) : IsAst (.iface 94 (.pointer (some ⟨b, 0, none⟩))) 94 b 115 := ⟨rfl, fun _ _ => by kernel_rfl, fun _ _ => by kernel_rfl, fun _ _ _ => by kernel_rfl⟩
theorem fullTemplate (b : Nat) : Full (.iface 94 (.pointer (some ⟨b, 0, none⟩))) := ⟨fun _ => by kernel_rfl, fun _ => by kernel_rfl, fun _ => by kernel_rfl⟩

/-- Behind a name: a blank where it ends with <. -/
def St.ltb (s : St) : St := if s.last = 60 then s.wb 32 else s
/-- Behind the arguments: a blank where they end with >. -/
def St.gtb (s : St) : St := if s.last = 62 then s.wb 32 else s

/-- The inner types held, none left: the blocks, and the state. -/
structure Held (p : Nat) (st : St) (sl : Sl) (w w1 : World) (o1 o2 : Obj) : Prop where
  at' : PsAt w1 p { st with inn := [] } { sl with inn := .slice none 0 0 }
  fr : Fr p sl { sl with inn := .slice none 0 0 } w w1
  b1 : w1.heap[w.heap.size]? = some o1
  b2 : w1.heap[w.heap.size + 1]? = some o2
  low : ∀ k, k < w.heap.size → k ≠ p → w1.heap[k]? = w.heap[k]?

theorem PsAt.holdInn {w : World} {p : Nat} {st : St} {sl : Sl} (o1 o2 : Obj) (h : PsAt w p st sl) : Held p st sl w (((w.setCell ⟨p, 8, none⟩ (.slice none 0 0)).alloc o1).alloc o2) o1 o2 := by
  have S := h.setInn (v' := .slice none 0 0) (l' := []) (World.ownsRow_nil _ _ _ _) (fun k e => by cases e)
  have A1 := S.alloc o1
  have A2 := A1.1.alloc o2
  have hsz : (w.setCell ⟨p, 8, none⟩ (.slice none 0 0)).heap.size = w.heap.size := by simp [World.setCell]
  have F0 : Fr p sl { sl with inn := .slice none 0 0 } w (w.setCell ⟨p, 8, none⟩ (.slice none 0 0)) := fr_set (sl := sl) 8 _ { sl with inn := .slice none 0 0 } rfl (fun k e => by cases e) (fun _ e => .inl e)
  refine ⟨A2.1, F0.trans (A1.2.trans A2.2), ?_, ?_, ?_⟩
  · rw [Below.heap_alloc _ _ _ (by rw [World.size_alloc, hsz]; omega)]
    have := heap_alloc_new (w.setCell ⟨p, 8, none⟩ (.slice none 0 0)) o1
    rwa [hsz] at this
  · have := heap_alloc_new ((w.setCell ⟨p, 8, none⟩ (.slice none 0 0)).alloc o1) o2
    rwa [World.size_alloc, hsz] at this
  · intro k hk hp
    rw [Below.heap_alloc _ _ _ (by rw [World.size_alloc, hsz]; omega), Below.heap_alloc _ _ _ (by rw [hsz]; omega), Below.heap_setCell _ _ _ _ hp]

theorem Held.drew {w w1 : World} {p : Nat} {st : St} {sl : Sl} {o1 o2 : Obj} (h : Held p st sl w w1 o1 o2) : Held p st sl w w1.drew o1 o2 := ⟨h.at'.drew.1, h.fr.trans h.at'.drew.2, h.b1, h.b2, h.low⟩

theorem ltb_len (s : St) : s.ltb.txt.length ≤ s.txt.length + 1 := by
  unfold St.ltb
  split
  · rw [wb_len]; exact Nat.le_refl _
  · omega
theorem gtb_len (s : St) : s.gtb.txt.length ≤ s.txt.length + 1 := by
  unfold St.gtb
  split
  · rw [wb_len]; exact Nat.le_refl _
  · omega
theorem ne_of_u8 {a : UInt8} {n : Nat} [OfNat UInt8 n] (h : a ≠ OfNat.ofNat n) (hn : (OfNat.ofNat n : UInt8).toNat = n := by rfl) : ((a.toNat : Int) == (n : Int)) = false := by
  rw [beq_eq_false_iff_ne]
  intro e
  exact h (UInt8.toNat_inj.1 (by rw [hn]; omega))

set_option maxRecDepth 100000 in
set_option maxHeartbeats 4000000 in
theorem templateDoes (W : World) (p b : Nat) (nm args : Value) (vs : List Value) (st s1 s2 : St) (h0 : W.cell? ⟨b, 0, none⟩ = some nm) (h1 : W.cell? ⟨b, 1, none⟩ = some args) (hb : b < p) (he : ElemsAt W p args vs)
    (hN : Prints p W nm { st with inn := [] } s1) (htp : s1.tp = true) (hll : s2.ll = false) (hl1 : s1.txt.length + 2 ≤ 140737488355328) (hl2 : s2.txt.length + 2 ≤ 140737488355328)
    (hL : ListDoes p W true vs ({ s1.ltb with sc := 0 }.wb 60) s2) :
    Does p W 115 (.pointer (some ⟨b, 0, none⟩)) st { s2.gtb.wb 62 with sc := s1.sc, inn := st.inn } := by
  intro w sl hlo h
  obtain ⟨ia, ic, ei⟩ := h.innForm
  have hmf : ∀ (fn : Fn) (first cap : Array Value) (w : World), (Instr.makeFunc fn first cap).run Try.prog w = .ok (.func fn first cap) w := fun _ _ _ _ => rfl
  have c8 := h.c8
  have f8 := h.free 8
  have hlt := h.lt
  have c0 := (hlo.cell (o := 0) hb).trans h0
  have c1 := (hlo.cell (o := 1) hb).trans h1
  rw [ei] at c8
  have HO := Lib.hid (h.holdInn (.cells #[.pointer (some ⟨p, 0, none⟩)] 77) (.cells #[.slice ia st.inn.length ic] 73))
  have H := Lib.hid h
  have L := Lib.hid hlo
  have N := Lib.hid hN
  have LD := Lib.hid hL
  have E := Lib.hid he
  have EI := Lib.hid ei
  have W0 := Lib.hid h0
  have W1 := Lib.hid h1
  clear h hlo hN hL he ei h0 h1
  go_enter_defers Try.func115, Try.ntmps115
  go_wp2_with fail
  generalize ((w.setCell ⟨p, 8, none⟩ (.slice none 0 0)).alloc (.cells #[.pointer (some ⟨p, 0, none⟩)] 77)).alloc (.cells #[.slice ia st.inn.length ic] 73) = w1 at *
  have k0 := ((HO.out.fr.lo H.out L.out).cell (o := 0) hb).trans W0.out
  have cB := cell_of_one HO.out.b1
  clear c8 f8 c0 c1
  go_still_tail 5, (by kernel_rfl)
  change wpList _ _ _ _ _ w1.drew
  have HD := Lib.hid HO.out.drew
  clear HO cB k0
  generalize w1.drew = w2 at *
  have cB := cell_of_one HD.out.b1
  have L2 := Lib.hid (HD.out.fr.lo H.out L.out)
  go_wp2_with fail
  refine (N.out w2 _ L2.out HD.out.at').mono ?_
  rintro e w3 ⟨rfl, sl3, h3, f3⟩
  have g0 := h3.c0
  rw [htp] at g0
  have g7 := h3.c7
  have g4 := h3.c4
  have n4 := h3.free 4
  have cB3 := cell_of_one (new_far H.out rfl (Nat.le_refl _) HD.out.b1 f3)
  have H3 := Lib.hid h3
  have F3 := Lib.hid f3
  have L3 := Lib.hid (f3.lo HD.out.at' L2.out)
  clear h3 f3 cB
  by_cases hl : s1.last = 60
  · have e1 : ((s1.last.toNat : Int) == 60) = true := by rw [hl]; rfl
    have hlt : s1.ltb = s1.wb 32 := if_pos hl
    go_wp2_with fail
    refine (writeByteC w3 p s1 sl3 32 H3.out (by omega)).mono ?_
    rintro e w4 ⟨rfl, sl4, h4, f4⟩
    have h4' : PsAt w4 p s1.ltb sl4 := by rw [hlt]; exact h4
    have k4 : w4.cell? ⟨p, 4, none⟩ = some (.int .i64 s1.sc) := h4.c4
    have m4 := h4.free 4
    have cB4 := cell_of_one (new_far H.out rfl (Nat.le_refl _) HD.out.b1 (F3.out.trans f4))
    have H4 := Lib.hid h4'
    have F4 := Lib.hid (F3.out.trans f4)
    have L4 := Lib.hid (f4.lo H3.out L3.out)
    clear h4 h4' f4 g0 g7 g4 n4 cB3
    go_wp2_with fail
    refine (writeByteC _ p _ _ 60 (H4.out.setSc 0).1 ?_).mono ?_
    · exact Nat.le_trans (Nat.succ_le_succ (ltb_len s1)) hl1
    rintro e w5 ⟨rfl, sl5, h5, f5⟩
    have F5 := Lib.hid (F4.out.trans ((H4.out.setSc 0).2.trans f5))
    have L5 := Lib.hid (f5.lo (H4.out.setSc 0).1 ((H4.out.setSc 0).2.lo H4.out L4.out))
    have cB5 := cell_of_one (new_far H.out rfl (Nat.le_refl _) HD.out.b1 F5.out)
    have k1 := (L5.out.cell (o := 1) hb).trans W1.out
    have H5 := Lib.hid h5
    clear k4 m4 cB4 h5 f5
    go_wp2_with fail
    go_still_tail 7, (by kernel_rfl)
    change wpList _ _ _ _ _ w5.drew
    have H6 := Lib.hid H5.out.drew.1
    have F6 := Lib.hid (F5.out.trans H5.out.drew.2)
    have L6 : Hid (Lo p W w5.drew) := L5.out
    clear cB5 k1 H5 F5 L5
    generalize w5.drew = w6 at *
    go_wp2_with fail
    refine (printListC W p args vs _ s2 E.out LD.out w6 _ L6.out H6.out).mono ?_
    rintro e w7 ⟨rfl, sl7, h7, f7⟩
    have g2 := h7.c2
    rw [hll] at g2
    have g7 := h7.c7
    have cB7 := cell_of_one (new_far H.out rfl (Nat.le_refl _) HD.out.b1 (F6.out.trans f7))
    have H7 := Lib.hid h7
    have F7 := Lib.hid (F6.out.trans f7)
    have L7 := Lib.hid (f7.lo H6.out L6.out)
    clear h7 f7
    by_cases hg : s2.last = 62
    · have e2 : ((s2.last.toNat : Int) == 62) = true := by rw [hg]; rfl
      have hgt : s2.gtb = s2.wb 32 := if_pos hg
      go_wp2_with fail
      refine (writeByteC w7 p s2 sl7 32 H7.out (by omega)).mono ?_
      rintro e w8 ⟨rfl, sl8, h8, f8⟩
      have h8' : PsAt w8 p s2.gtb sl8 := by rw [hgt]; exact h8
      have cB8 := cell_of_one (new_far H.out rfl (Nat.le_refl _) HD.out.b1 (F7.out.trans f8))
      have H8 := Lib.hid h8'
      have F8 := Lib.hid (F7.out.trans f8)
      clear h8 h8' f8 cB7 g2 g7
      go_wp2_with fail
      refine (writeByteC _ p _ _ 62 H8.out ?_).mono ?_
      · exact Nat.le_trans (Nat.succ_le_succ (gtb_len s2)) hl2
      rintro e w9 ⟨rfl, sl9, h9, f9⟩
      have cB9 := cell_of_one (new_far H.out rfl (Nat.le_refl _) HD.out.b1 (F8.out.trans f9))
      have k4 := h9.c4
      have n4 := h9.free 4
      have H9 := Lib.hid (h9.setSc s1.sc)
      have F9 := Lib.hid (F8.out.trans (f9.trans (h9.setSc s1.sc).2))
      clear h9 f9
      go_wp2_with fail
      have cH := cell_of_one (new_far H.out rfl (Nat.le_succ _) HD.out.b2 F9.out)
      have cB := cell_of_one (new_far H.out rfl (Nat.le_refl _) HD.out.b1 F9.out)
      refine leaves_cons (f := 116) (args := #[.pointer (some ⟨w.heap.size + 1, 0, none⟩), .pointer (some ⟨w.heap.size, 0, none⟩)]) (by simp) (by simp [go_sem]) ?_
      refine (tplClose _ _ _ p ia st.inn.length ic _ .returning cH cB H9.out.1.c8 (H9.out.1.free 8)).mono ?_
      rintro e u' w'' ⟨rfl, rfl, rfl⟩
      have R := H.out.restore HD.out.low (fun k e => by cases e) HD.out.fr F9.out H9.out.1
      rw [EI.out] at R
      exact ⟨_, results_none rfl _ _ _, rfl, _, R.1, R.2⟩
    · have e2 : ((s2.last.toNat : Int) == 62) = false := ne_of_u8 hg
      have hgt : s2.gtb = s2 := if_neg hg
      have H8 : Hid (PsAt w7 p s2.gtb sl7) := by rw [hgt]; exact H7.out
      have F8 := F7
      go_wp2_with fail
      refine (writeByteC _ p _ _ 62 H8.out ?_).mono ?_
      · exact Nat.le_trans (Nat.succ_le_succ (gtb_len s2)) hl2
      rintro e w9 ⟨rfl, sl9, h9, f9⟩
      have cB9 := cell_of_one (new_far H.out rfl (Nat.le_refl _) HD.out.b1 (F8.out.trans f9))
      have k4 := h9.c4
      have n4 := h9.free 4
      have H9 := Lib.hid (h9.setSc s1.sc)
      have F9 := Lib.hid (F8.out.trans (f9.trans (h9.setSc s1.sc).2))
      clear h9 f9
      go_wp2_with fail
      have cH := cell_of_one (new_far H.out rfl (Nat.le_succ _) HD.out.b2 F9.out)
      have cB := cell_of_one (new_far H.out rfl (Nat.le_refl _) HD.out.b1 F9.out)
      refine leaves_cons (f := 116) (args := #[.pointer (some ⟨w.heap.size + 1, 0, none⟩), .pointer (some ⟨w.heap.size, 0, none⟩)]) (by simp) (by simp [go_sem]) ?_
      refine (tplClose _ _ _ p ia st.inn.length ic _ .returning cH cB H9.out.1.c8 (H9.out.1.free 8)).mono ?_
      rintro e u' w'' ⟨rfl, rfl, rfl⟩
      have R := H.out.restore HD.out.low (fun k e => by cases e) HD.out.fr F9.out H9.out.1
      rw [EI.out] at R
      exact ⟨_, results_none rfl _ _ _, rfl, _, R.1, R.2⟩
  · have e1 : ((s1.last.toNat : Int) == 60) = false := ne_of_u8 hl
    have hlt : s1.ltb = s1 := if_neg hl
    have H4 : Hid (PsAt w3 p s1.ltb sl3) := by rw [hlt]; exact H3.out
    have F4 := F3
    have L4 := L3
    have k4 := g4
    have m4 := n4
    have cB4 := cB3
    clear g4 n4 cB3
    go_wp2_with fail
    refine (writeByteC _ p _ _ 60 (H4.out.setSc 0).1 ?_).mono ?_
    · exact Nat.le_trans (Nat.succ_le_succ (ltb_len s1)) hl1
    rintro e w5 ⟨rfl, sl5, h5, f5⟩
    have F5 := Lib.hid (F4.out.trans ((H4.out.setSc 0).2.trans f5))
    have L5 := Lib.hid (f5.lo (H4.out.setSc 0).1 ((H4.out.setSc 0).2.lo H4.out L4.out))
    have cB5 := cell_of_one (new_far H.out rfl (Nat.le_refl _) HD.out.b1 F5.out)
    have k1 := (L5.out.cell (o := 1) hb).trans W1.out
    have H5 := Lib.hid h5
    clear k4 m4 cB4 h5 f5 g0 g7
    go_wp2_with fail
    go_still_tail 7, (by kernel_rfl)
    change wpList _ _ _ _ _ w5.drew
    have H6 := Lib.hid H5.out.drew.1
    have F6 := Lib.hid (F5.out.trans H5.out.drew.2)
    have L6 : Hid (Lo p W w5.drew) := L5.out
    clear cB5 k1 H5 F5 L5
    generalize w5.drew = w6 at *
    go_wp2_with fail
    refine (printListC W p args vs _ s2 E.out LD.out w6 _ L6.out H6.out).mono ?_
    rintro e w7 ⟨rfl, sl7, h7, f7⟩
    have g2 := h7.c2
    rw [hll] at g2
    have g7 := h7.c7
    have cB7 := cell_of_one (new_far H.out rfl (Nat.le_refl _) HD.out.b1 (F6.out.trans f7))
    have H7 := Lib.hid h7
    have F7 := Lib.hid (F6.out.trans f7)
    have L7 := Lib.hid (f7.lo H6.out L6.out)
    clear h7 f7
    by_cases hg : s2.last = 62
    · have e2 : ((s2.last.toNat : Int) == 62) = true := by rw [hg]; rfl
      have hgt : s2.gtb = s2.wb 32 := if_pos hg
      go_wp2_with fail
      refine (writeByteC w7 p s2 sl7 32 H7.out (by omega)).mono ?_
      rintro e w8 ⟨rfl, sl8, h8, f8⟩
      have h8' : PsAt w8 p s2.gtb sl8 := by rw [hgt]; exact h8
      have cB8 := cell_of_one (new_far H.out rfl (Nat.le_refl _) HD.out.b1 (F7.out.trans f8))
      have H8 := Lib.hid h8'
      have F8 := Lib.hid (F7.out.trans f8)
      clear h8 h8' f8 cB7 g2 g7
      go_wp2_with fail
      refine (writeByteC _ p _ _ 62 H8.out ?_).mono ?_
      · exact Nat.le_trans (Nat.succ_le_succ (gtb_len s2)) hl2
      rintro e w9 ⟨rfl, sl9, h9, f9⟩
      have cB9 := cell_of_one (new_far H.out rfl (Nat.le_refl _) HD.out.b1 (F8.out.trans f9))
      have k4 := h9.c4
      have n4 := h9.free 4
      have H9 := Lib.hid (h9.setSc s1.sc)
      have F9 := Lib.hid (F8.out.trans (f9.trans (h9.setSc s1.sc).2))
      clear h9 f9
      go_wp2_with fail
      have cH := cell_of_one (new_far H.out rfl (Nat.le_succ _) HD.out.b2 F9.out)
      have cB := cell_of_one (new_far H.out rfl (Nat.le_refl _) HD.out.b1 F9.out)
      refine leaves_cons (f := 116) (args := #[.pointer (some ⟨w.heap.size + 1, 0, none⟩), .pointer (some ⟨w.heap.size, 0, none⟩)]) (by simp) (by simp [go_sem]) ?_
      refine (tplClose _ _ _ p ia st.inn.length ic _ .returning cH cB H9.out.1.c8 (H9.out.1.free 8)).mono ?_
      rintro e u' w'' ⟨rfl, rfl, rfl⟩
      have R := H.out.restore HD.out.low (fun k e => by cases e) HD.out.fr F9.out H9.out.1
      rw [EI.out] at R
      exact ⟨_, results_none rfl _ _ _, rfl, _, R.1, R.2⟩
    · have e2 : ((s2.last.toNat : Int) == 62) = false := ne_of_u8 hg
      have hgt : s2.gtb = s2 := if_neg hg
      have H8 : Hid (PsAt w7 p s2.gtb sl7) := by rw [hgt]; exact H7.out
      have F8 := F7
      go_wp2_with fail
      refine (writeByteC _ p _ _ 62 H8.out ?_).mono ?_
      · exact Nat.le_trans (Nat.succ_le_succ (gtb_len s2)) hl2
      rintro e w9 ⟨rfl, sl9, h9, f9⟩
      have cB9 := cell_of_one (new_far H.out rfl (Nat.le_refl _) HD.out.b1 (F8.out.trans f9))
      have k4 := h9.c4
      have n4 := h9.free 4
      have H9 := Lib.hid (h9.setSc s1.sc)
      have F9 := Lib.hid (F8.out.trans (f9.trans (h9.setSc s1.sc).2))
      clear h9 f9
      go_wp2_with fail
      have cH := cell_of_one (new_far H.out rfl (Nat.le_succ _) HD.out.b2 F9.out)
      have cB := cell_of_one (new_far H.out rfl (Nat.le_refl _) HD.out.b1 F9.out)
      refine leaves_cons (f := 116) (args := #[.pointer (some ⟨w.heap.size + 1, 0, none⟩), .pointer (some ⟨w.heap.size, 0, none⟩)]) (by simp) (by simp [go_sem]) ?_
      refine (tplClose _ _ _ p ia st.inn.length ic _ .returning cH cB H9.out.1.c8 (H9.out.1.free 8)).mono ?_
      rintro e u' w'' ⟨rfl, rfl, rfl⟩
      have R := H.out.restore HD.out.low (fun k e => by cases e) HD.out.fr F9.out H9.out.1
      rw [EI.out] at R
      exact ⟨_, results_none rfl _ _ _, rfl, _, R.1, R.2⟩
end Go.Proofs.Ytabnnnnheipldaa
