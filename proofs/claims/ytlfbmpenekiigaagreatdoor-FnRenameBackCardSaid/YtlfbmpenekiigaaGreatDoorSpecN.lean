/- last, tail, isShort: what they return at a node of good form; conditions: the node reads as a tree of good form. -/
import Derived.Test.YtlfbmpenekiigaaGreatDoorSpecV
namespace Go.Proofs.YtlfbmpenekiigaaGreatDoor
open Go.ChangeShapes Go.WideShapes Go.ChangeAt Go.RowKit

/-- How a loop's variable stands that goes down a tree, beside an empty result. -/
def Down2 (w wr : World) (p r k : Nat) : Prop := ∃ t kv, BoxAt wr p t kv ∧ KidsAt w k t kv ∧ Fine k t ∧ Below w.heap.size w wr ∧ BoxAt wr r Tree.nil (.slice none 0 0)

/-- What comes back: a node of good form. -/
def NodeBack (w : World) (e : Ending) (w' : World) : Prop := ∃ k t a c, e = .returned (.agg #[.string t.kind, .string t.text, .int .i64 t.num, .slice a t.kids.length c]) ∧ KidsAt w k t (.slice a t.kids.length c) ∧ Fine k t ∧ Below w.heap.size w w'

theorem BoxAt.other {w : World} {p q : Nat} {t : Tree} {kv : Value} (h : BoxAt w p t kv) (hne : p ≠ q) (i : Nat) (v : Value) : BoxAt (w.setCell ⟨q, i, none⟩ v) p t kv := by
  unfold BoxAt at h ⊢
  rw [Below.heap_setCell _ _ _ _ hne]
  exact h
theorem BoxAt.others {w : World} {p q : Nat} {t : Tree} {kv : Value} (h : BoxAt w p t kv) (hne : p ≠ q) (v0 v1 v2 v3 : Value) : BoxAt ((((w.setCell ⟨q, 0, none⟩ v0).setCell ⟨q, 1, none⟩ v1).setCell ⟨q, 2, none⟩ v2).setCell ⟨q, 3, none⟩ v3) p t kv :=
  (((h.other hne 0 v0).other hne 1 v1).other hne 2 v2).other hne 3 v3

set_option maxRecDepth 100000 in
set_option maxHeartbeats 2000000 in
theorem lastC (d : Nat) (t : Tree) (kv : Value) (w : World) (h : KidsAt w d t kv) (hf : Fine d t) :
    Calls Tryz.prog 51 #[.agg #[.string t.kind, .string t.text, .int .i64 t.num, kv]] w (NodeBack w) := by
  obtain ⟨a, c, rfl⟩ := h.form
  have HI := Lib.hid h
  have HF := Lib.hid hf
  clear h hf
  go_enter Tryz.func51, Tryz.ntmps51
  go_wp2_with fail
  go_loopg [] d (fun k wr => Down2 w wr w.heap.size (w.heap.size + 1) k)
  case atStart =>
    refine ⟨t, _, ?_, HI.out, HF.out, ((Below.refl _ _).alloc (Nat.le_refl _) _).alloc (by simp) _, ?_⟩
    · show (World.heap _)[_]? = _
      rw [Below.heap_alloc _ _ _ (by simp)]
      exact heap_alloc_new w _
    · have h1 := heap_alloc_new (w.alloc (.cells #[.string t.kind, .string t.text, .int .i64 t.num, .slice a t.kids.length c] 24)) (.cells #[.string ⟨#[]⟩, .string ⟨#[]⟩, .int .i64 0, .slice none 0 0] 24)
      have h2 : (w.alloc (.cells #[.string t.kind, .string t.text, .int .i64 t.num, .slice a t.kids.length c] 24)).heap.size = w.heap.size + 1 := by simp
      rw [h2] at h1
      exact h1
  case round =>
    obtain ⟨p, kp, hbox, hkp, hfp, hbel, hres⟩ := hrel
    have hc0 := hbox.c0
    have hbc1 := hbox.c1
    have hbc2 := hbox.c2
    have hc3 := hbox.c3
    have f0 := hbox.free 0
    have f1 := hbox.free 1
    have f2 := hbox.free 2
    have f3 := hbox.free 3
    have r0 := hres.c0
    have r1 := hres.c1
    have r2 := hres.c2
    have r3 := hres.c3
    have g0 := hres.free 0
    have g1 := hres.free 1
    have g2 := hres.free 2
    have g3 := hres.free 3
    have HBX := Lib.hid hbox
    have HBL := Lib.hid hbel
    have HFP := Lib.hid hfp
    have HKP := Lib.hid hkp
    have HRS := Lib.hid hres
    obtain ⟨hd1, hd2⟩ := bcell hbel
    have hbs := hbel.size
    cases gk with
    | zero => exact hkp.elim
    | succ k =>
      obtain ⟨_, _, _, pa, pc, rfl, _, _, hpk⟩ := hkp
      by_cases e0 : p.kind = kQualified
      · have k0 := kind_is (a := p.kind) kQualified e0 (l := [81, 117, 97, 108, 105, 102, 105, 101, 100]) rfl
        obtain ⟨x, y, ex, fx, fy⟩ := fine_binary hfp (by rw [e0]; decide)
        obtain ⟨x', y', b, o, kx, ky, KE, rfl, hbl, hlen, _, ⟨y0, y1, y2, y3⟩, KX, KY⟩ := kids2 hpk (by rw [ex]; rfl)
        obtain ⟨rfl, rfl⟩ : x = x' ∧ y = y' := by have := KE.out; rw [ex] at this; simpa using this
        obtain ⟨ya, yc, rfl⟩ := KY.form
        have FY := Lib.hid fy
        have HKY := Lib.hid KY
        clear hbox hbel hfp hpk hres KX KY ex fx fy e0
        go_wp2_with fail
        go_roundg k
        case rel => exact ⟨y, _, HBX.out.put y _, HKY.out, FY.out, below_put HBL.out (Nat.le_refl _) _ _ _ _, HRS.out.others (by omega) _ _ _ _⟩
        case measure => omega
      · have k0 := kind_ne (a := p.kind) kQualified e0 (l := [81, 117, 97, 108, 105, 102, 105, 101, 100]) rfl
        by_cases e1 : p.kind = kTemplate
        · have k1 := kind_is (a := p.kind) kTemplate e1 (l := [84, 101, 109, 112, 108, 97, 116, 101]) rfl
          obtain ⟨x, l, ex, fx⟩ := fine_template hfp e1
          have hlen : 0 < p.kids.length := by rw [ex]; simp
          obtain ⟨x', b, o, xa, xc, hx0, _, rfl, hbl, ⟨x0, x1, x2, x3⟩, KX⟩ := kid0 hpk hlen
          obtain rfl : x = x' := by rw [ex] at hx0; simpa using hx0
          have FX := Lib.hid fx
          have HKX := Lib.hid KX
          clear hbox hbel hfp hpk hres hx0 KX ex fx e0 e1
          go_wp2_with fail
          go_roundg k
          case rel => exact ⟨x, _, HBX.out.put x _, HKX.out, FX.out, below_put HBL.out (Nat.le_refl _) _ _ _ _, HRS.out.others (by omega) _ _ _ _⟩
          case measure => omega
        · have k1 := kind_ne (a := p.kind) kTemplate e1 (l := [84, 101, 109, 112, 108, 97, 116, 101]) rfl
          by_cases e2 : p.kind = kTaggedName
          · have k2 := kind_is (a := p.kind) kTaggedName e2 (l := [84, 97, 103, 103, 101, 100, 78, 97, 109, 101]) rfl
            obtain ⟨x, y, ex, fx, fy⟩ := fine_binary hfp (by rw [e2]; decide)
            have hlen : 0 < p.kids.length := by rw [ex]; simp
            obtain ⟨x', b, o, xa, xc, hx0, _, rfl, hbl, ⟨x0, x1, x2, x3⟩, KX⟩ := kid0 hpk hlen
            obtain rfl : x = x' := by rw [ex] at hx0; simpa using hx0
            have FX := Lib.hid fx
            have HKX := Lib.hid KX
            clear hbox hbel hfp hpk hres hx0 KX ex fx fy e0 e1 e2
            go_wp2_with fail
            go_roundg k
            case rel => exact ⟨x, _, HBX.out.put x _, HKX.out, FX.out, below_put HBL.out (Nat.le_refl _) _ _ _ _, HRS.out.others (by omega) _ _ _ _⟩
            case measure => omega
          · have k2 := kind_ne (a := p.kind) kTaggedName e2 (l := [84, 97, 103, 103, 101, 100, 78, 97, 109, 101]) rfl
            clear hbox hbel hfp hpk hres e0 e1 e2
            go_wp2_with fail
            have hb := HRS.out.put p (.slice pa p.kids.length pc)
            have s0 := hb.c0
            have s1 := hb.c1
            have s2 := hb.c2
            have s3 := hb.c3
            refine bodyPost_ret (v := .agg #[.string p.kind, .string p.text, .int .i64 p.num, .slice pa p.kids.length pc]) (by simp [results, Tryz.results51, go_sem, s0, s1, s2, s3]) rfl ⟨_, p, pa, pc, rfl, HKP.out, HFP.out, ?_⟩
            exact below_put HBL.out (by omega) _ _ _ _

set_option maxRecDepth 100000 in
set_option maxHeartbeats 2000000 in
theorem shortCodeC (d : Nat) (t : Tree) (kv : Value) (w : World) (h : KidsAt w d t kv) (hf : Fine d t) :
    Calls Tryz.prog 67 #[.agg #[.string t.kind, .string t.text, .int .i64 t.num, kv]] w (fun e w' => ∃ s : ByteArray, e = .returned (.string s) ∧ Below w.heap.size w w') := by
  cases d with
  | zero => exact h.elim
  | succ d =>
    obtain ⟨hk, ht, hwf, a, c, rfl, hl, hc, hkids⟩ := h
    have B := Lib.hid (below1 w (.cells #[.string t.kind, .string t.text, .int .i64 t.num, .slice a t.kids.length c] 24))
    by_cases e0 : t.kind = kQualified
    · have k0 := kind_is (a := t.kind) kQualified e0 (l := [81, 117, 97, 108, 105, 102, 105, 101, 100]) rfl
      obtain ⟨x, y, ex, fx, fy⟩ := fine_binary hf (by rw [e0]; decide)
      obtain ⟨x', y', b, o, kx, ky, KE, rfl, hbl, hlen, ⟨x0, x1, x2, x3⟩, ⟨y0, y1, y2, y3⟩, KX, KY⟩ := kids2 hkids (by rw [ex]; rfl)
      have HX := Lib.hid KX
      clear hkids KX KY hf ex fx fy e0
      go_enter Tryz.func67, Tryz.ntmps67
      go_wp2_with fail
      refine (isStdC x' kx d _ (HX.out.below B.out)).mono ?_
      rintro e w1 ⟨b1, rfl, _, hb1⟩
      have B1 := Lib.hid (B.out.trans (hb1.mono B.out.size))
      have z1 : w.heap.size < w1.heap.size := by have := hb1.size; simp at this; omega
      have q1 : b < w1.heap.size := by omega
      obtain ⟨hc1, hf1⟩ := bcell hb1
      clear hb1
      cases b1
      · go_wp2_with fail
        go_ret
        exact ⟨_, rfl, B1.out⟩
      · go_wp2_with fail
        all_goals go_ret
        all_goals exact ⟨_, rfl, B1.out⟩
    · have k0 := kind_ne (a := t.kind) kQualified e0 (l := [81, 117, 97, 108, 105, 102, 105, 101, 100]) rfl
      clear hkids hf e0
      go_enter Tryz.func67, Tryz.ntmps67
      go_wp2_with fail
      go_ret
      exact ⟨_, rfl, B.out⟩

theorem isShortC (d : Nat) (t : Tree) (kv : Value) (w : World) (h : KidsAt w d t kv) (hf : Fine d t) :
    Calls Tryz.prog 53 #[.agg #[.string t.kind, .string t.text, .int .i64 t.num, kv]] w (Ans w True) := by
  obtain ⟨a, c, rfl⟩ := h.form
  have HI := Lib.hid h
  have HF := Lib.hid hf
  have B := Lib.hid (below1 w (.cells #[.string t.kind, .string t.text, .int .i64 t.num, .slice a t.kids.length c] 24))
  clear h hf
  go_enter Tryz.func53, Tryz.ntmps53
  go_wp2_with fail
  refine (shortCodeC d t _ _ (HI.out.below B.out) HF.out).mono ?_
  rintro e w1 ⟨s, rfl, hb1⟩
  have B1 := Lib.hid (B.out.trans (hb1.mono B.out.size))
  clear hb1
  go_wp2_with fail
  go_ret
  exact ⟨_, rfl, fun _ => trivial, B1.out⟩

theorem field0 (k tx n kv : Value) (w : World) : (Instr.field 24 (.agg #[k, tx, n, kv]) 0).run Tryz.prog w = .ok k w := by kernel_rfl

set_option maxRecDepth 100000 in
set_option maxHeartbeats 2000000 in
theorem isWordC (d : Nat) : Tests 41 d := by
  intro t kv w h
  obtain ⟨a, c, rfl⟩ := h.kids.form
  have HI := Lib.hid h
  have HC := Lib.hid (known d).cls
  have B := Lib.hid (below1 w (.cells #[.string t.kind, .string t.text, .int .i64 t.num, .slice a t.kids.length c] 24))
  clear h
  have hfld := field0
  cases hk : (t.kind.toList == [84, 101, 109, 112, 108, 97, 116, 101])
  · go_enter Tryz.func41, Tryz.ntmps41
    go_wp2_with fail
    refine (HC.out t _ _ (HI.out.below B.out)).mono ?_
    rintro e w1 ⟨b1, rfl, hp1, hb1⟩
    have B1 := Lib.hid (B.out.trans (hb1.mono B.out.size))
    have z1 : w.heap.size < w1.heap.size := by have := hb1.size; simp at this; omega
    obtain ⟨hc1, hf1⟩ := bcell hb1
    cases b1
    · clear hp1 hb1
      go_wp2_with fail
      go_ret
      exact ⟨_, rfl, fun e => Bool.noConfusion e, B1.out⟩
    · have P1 := Lib.hid (hp1 rfl)
      clear hp1 hb1
      go_wp2_with fail
      refine (lastC d t _ _ (HI.out.kids.below B1.out) P1.out).mono ?_
      rintro e w2 ⟨k, u, ua, uc, rfl, _, _, hb2⟩
      have B2 := Lib.hid (B1.out.trans (hb2.mono B1.out.size))
      clear hb2
      go_wp2_with fail
      go_ret
      exact ⟨_, rfl, fun _ => P1.out, B2.out⟩
  · go_enter Tryz.func41, Tryz.ntmps41
    go_wp2_with fail
    go_ret
    exact ⟨_, rfl, fun e => Bool.noConfusion e, B.out⟩
end Go.Proofs.YtlfbmpenekiigaaGreatDoor
