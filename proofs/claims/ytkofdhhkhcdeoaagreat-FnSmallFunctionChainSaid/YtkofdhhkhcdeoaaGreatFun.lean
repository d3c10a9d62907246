/- FunctionType: printArgs, printInner and print; conditions: fewer than 2^47 bytes; the inner types are what a pointer to the function leaves, or one typed name. -/
import Derived.Test.YtkofdhhkhcdeoaaGreatSm
import Derived.Test.YtkofdhhkhcdeoaaGreatOne
namespace Go.Proofs.YtkofdhhkhcdeoaaGreat
open Go.ChangeShapes Go.WideShapes Go.ChangeAt Go.RowKit

theorem innFunction (b : Nat) : IsInn (.iface 33 (.pointer (some ⟨b, 0, none⟩))) 33 b 40 :=
  ⟨rfl, fun w => run_typeAssert_hasB Tryz.underlying81 (by kernel_rfl) _ _ w, fun _ => has_one Tryz.underlying81 (by kernel_rfl), fun _ _ => by kernel_rfl, fun _ _ => by kernel_rfl, fun _ _ _ => by kernel_rfl⟩
theorem mwqFunction (b : Nat) : NoMwq (.iface 33 (.pointer (some ⟨b, 0, none⟩))) := fun _ => by kernel_rfl
theorem isFunction (b : Nat) : IsAst (.iface 33 (.pointer (some ⟨b, 0, none⟩))) 33 b 39 := ⟨rfl, fun _ _ => by kernel_rfl, fun _ _ => by kernel_rfl, fun _ _ _ => by kernel_rfl⟩

theorem tap_p (p : Option Addr) (w : World) : (Instr.typeAssert (.iface 32 (.pointer p)) 30 32 true).run Tryz.prog w = .ok (.tuple #[.pointer p, .bool true]) w := by kernel_rfl
theorem tar_p (p : Option Addr) (w : World) : (Instr.typeAssert (.iface 32 (.pointer p)) 30 86 true).run Tryz.prog w = .ok (.tuple #[.pointer none, .bool false]) w := by kernel_rfl
theorem tav_p (p : Option Addr) (w : World) : (Instr.typeAssert (.iface 32 (.pointer p)) 30 87 true).run Tryz.prog w = .ok (.tuple #[.pointer none, .bool false]) w := by kernel_rfl
attribute [local go_sem] tap_p tar_p tav_p

/-- The state behind an opening parenthesis. -/
def St.opn (st : St) : St := { st with sc := st.sc + 1, txt := st.txt ++ [40], last := 40 }
/-- The state behind a closing parenthesis. -/
def St.cls (st : St) : St := { st with sc := st.sc - 1, txt := st.txt ++ [41], last := 41 }

/-- The arguments within parentheses, behind inner types that are printed in so many rounds. -/
structure Brack (p : Nat) (W : World) (b : Nat) (s1 s2 : St) : Prop where
  lt : b < p
  local' : W.cell? ⟨b, 2, none⟩ = some (.bool false)
  nil1 : s1.inn = []
  nil2 : s2.inn = []
  sc1 : 1 ≤ s1.sc ∧ s1.sc ≤ 100000
  sc2 : 1 ≤ s2.sc ∧ s2.sc ≤ 100000
  len1 : s1.txt.length + 10 ≤ 140737488000000
  len2 : s2.txt.length + 10 ≤ 140737488000000

set_option maxRecDepth 100000 in
set_option maxHeartbeats 4000000 in
theorem printArgsP (W : World) (p b bp n : Nat) (av : Value) (vs L : List Value) (st s1 s2 : St) (hb : Brack p W b s1 s2) (h1 : W.cell? ⟨b, 1, none⟩ = some av) (hi : st.inn = L ++ [.iface 32 (.pointer (some ⟨bp, 0, none⟩))]) (hl : st.last = 32 ∨ st.last = 42)
    (hlen : st.inn.length ≤ 1000000) (hsc : 0 ≤ st.sc ∧ st.sc ≤ 100000) (htx : st.txt.length + 10 ≤ 140737488000000) (hR : ∀ q, Rounds p W q n st.opn s1) (hE : ElemsAt W p av vs) (hL : ListDoes p W true vs s1.cls.opn s2) :
    Does p W 42 (.pointer (some ⟨b, 0, none⟩)) st s2.cls := by
  intro w sl hlo h
  obtain ⟨ia, ic, ei, q1, q2, ⟨g, rfl, hcell⟩, -⟩ := h.popInn hi
  have c8 := h.c8
  have c7 := h.c7
  rw [ei] at c8
  have hLl : L.length ≤ 1000000 := by rw [hi] at hlen; simp at hlen; omega
  have H := Lib.hid h
  have LO := Lib.hid hlo
  have R := Lib.hid hR
  have E := Lib.hid hE
  have LD := Lib.hid hL
  have C1 := Lib.hid h1
  have BR := Lib.hid hb
  have hbl := hb.lt
  obtain ⟨aa, ac, eav, hn, hel⟩ := id hE
  have EL := Lib.hid hel
  clear h hlo hR hE hL h1 ei hi hlen hb hel
  rcases hl with hl | hl
  all_goals
    rw [hl] at c7
    go_enter Tryz.func42, Tryz.ntmps42
    go_wp2_with fail
    refine wp_loop_rounds 1 ?_
    rw [rounds_succ]
    go_wp2_with fail
    refine (startScopeC w p st sl 40 H.out (by omega) hsc.1 (by omega)).mono ?_
    rintro e w1 ⟨rfl, sl1, h2, f2⟩
    have H2 := Lib.hid h2
    have F2 := Lib.hid f2
    have L2 := Lib.hid (f2.lo H.out LO.out)
    clear h2 f2
    go_wp2_with fail
    refine (printInnerC W p n st.opn s1 R.out true w1 sl1 L2.out H2.out).mono ?_
    rintro e w3 ⟨rfl, sl3, h3, f3⟩
    have H3 := Lib.hid h3
    have F3 := Lib.hid f3
    have L3 := Lib.hid (f3.lo H2.out L2.out)
    clear h3 f3
    go_wp2_with fail
    refine (endScopeC w3 p s1 sl3 41 H3.out (by have := BR.out.len1; omega) (by have := BR.out.sc1.1; omega) (by have := BR.out.sc1.2; omega)).mono ?_
    rintro e w4 ⟨rfl, sl4, h4, f4⟩
    have H4 := Lib.hid h4
    have F4 := Lib.hid f4
    have L4 := Lib.hid (f4.lo H3.out L3.out)
    clear h4 f4
    go_wp2_with fail
    refine (startScopeC w4 p s1.cls sl4 40 H4.out (by have := BR.out.len1; simp [St.cls]; omega) (by have := BR.out.sc1.1; show 0 ≤ s1.sc - 1; omega) (by have := BR.out.sc1.2; show s1.sc - 1 ≤ _; omega)).mono ?_
    rintro e w5 ⟨rfl, sl5, h5, f5⟩
    have L5 := Lib.hid (f5.lo H4.out L4.out)
    have k1 := (L5.out.cell (o := 1) hbl).trans C1.out
    have k2 := (L5.out.cell (o := 2) hbl).trans BR.out.local'
    have H5 := Lib.hid h5
    have F5 := Lib.hid f5
    clear h5 f5
    rw [eav] at k1
    go_wp2_with fail
    go_loopw [8, 107] (fun f i wr => ∃ (k : Nat) (slr : Sl) (stk : St), k ≤ vs.length ∧ i = .int .i64 k ∧ f = .bool (decide (k = 0)) ∧ ListDoes p W (decide (k = 0)) (vs.drop k) stk s2 ∧ PsAt wr p stk slr ∧ Fr p sl slr w wr) (fun _ i _ => vs.length - (intOf i).toNat)
    case atStart => exact ⟨0, sl5, s1.cls.opn, Nat.zero_le _, rfl, rfl, LD.out, H5.out, F2.out.trans (F3.out.trans (F4.out.trans F5.out))⟩
    case round =>
      obtain ⟨k, slr, stk, hk, rfl, rfl, hd, hp, hf⟩ := hrel
      by_cases hlt : k < vs.length
      · obtain ⟨x, ex⟩ : ∃ x, vs[k]? = some x := ⟨_, List.getElem?_eq_getElem hlt⟩
        have edr : vs.drop k = x :: vs.drop (k + 1) := by
          rw [List.drop_eq_getElem_cons hlt]
          rw [List.getElem?_eq_getElem hlt] at ex
          injection ex with ex
          rw [ex]
        obtain ⟨g, rfl, hg, hc⟩ := EL.out k x ex
        rw [edr] at hd
        obtain ⟨s3, hfull, hl1, hll, hpr, hrest⟩ := hd
        have lr := hf.lo H.out LO.out
        have cx := (lr.cell (o := k) hg).trans hc
        have P := Lib.hid hp
        have FR := Lib.hid hf
        have LR := Lib.hid lr
        have PR := Lib.hid hpr
        have RE := Lib.hid hrest
        have FU := Lib.hid hfull
        clear ex edr hc hpr hrest hfull hp hf lr hll k1 k2
        by_cases h0 : k = 0
        · subst h0
          go_wp2_with (first | (go_at_call 47; refine (isEmptyC _ _ FU.out _).mono ?_; rintro e w' ⟨rfl, rfl⟩))
          refine (PR.out wr slr LR.out P.out).mono ?_
          rintro e w6 ⟨rfl, sl6, h6, f6⟩
          have H6 := Lib.hid h6
          have F6 := Lib.hid f6
          clear h6 f6
          go_wp2_with fail
          go_roundw
          case rel => exact ⟨1, sl6, s3, by omega, by go_num, rfl, RE.out, H6.out, FR.out.trans F6.out⟩
          case measure => simp [intOf]; omega
        · have hk0 : decide (k = 0) = false := by simp [h0]
          rw [hk0] at PR ⊢
          have K0 := Lib.hid h0
          clear h0 hk0
          go_wp2_with (first | (go_at_call 47; refine (isEmptyC _ _ FU.out _).mono ?_; rintro e w' ⟨rfl, rfl⟩))
          refine (writeStringC wr p stk slr comma P.out (by rw [comma_size]; exact hl1)).mono ?_
          rintro e w6 ⟨rfl, sl6, h6, f6⟩
          have L6 := Lib.hid (f6.lo P.out LR.out)
          have H6 := Lib.hid h6
          have F6 := Lib.hid f6
          clear h6 f6
          go_wp2_with fail
          refine (PR.out w6 sl6 L6.out H6.out).mono ?_
          rintro e w7 ⟨rfl, sl7, h7, f7⟩
          have H7 := Lib.hid h7
          have F7 := Lib.hid f7
          clear h7 f7
          go_wp2_with fail
          go_roundw
          case rel => exact ⟨k + 1, sl7, s3, by omega, by go_num, by simp, by simpa using RE.out, H7.out, FR.out.trans (F6.out.trans F7.out)⟩
          case measure => simp [intOf]; omega
      · have hk' : vs.drop k = [] := List.drop_eq_nil_of_le (by omega)
        rw [hk'] at hd
        obtain rfl : stk = s2 := hd
        have P := Lib.hid hp
        have FR := Lib.hid hf
        have LR := Lib.hid (hf.lo H.out LO.out)
        clear hp hf hk' k1 k2
        go_wp2_with fail
        refine (endScopeC wr p stk slr 41 P.out (by have := BR.out.len2; omega) (by have := BR.out.sc2.1; omega) (by have := BR.out.sc2.2; omega)).mono ?_
        rintro e w6 ⟨rfl, sl6, h6, f6⟩
        have d8 := h6.c8
        have n8 := h6.free 8
        have hset := h6.setInn (v' := .slice none 0 0) (l' := []) (World.ownsRow_nil _ _ _ _) (fun k e => by cases e)
        have F6 := Lib.hid (f6.trans (fr_set (w := w6) (p := p) (sl := sl6) 8 (.slice none 0 0) { sl6 with inn := .slice none 0 0 } rfl (fun k e => by cases e) (fun _ e => .inl e)))
        have L6 := Lib.hid (F6.out.lo P.out LR.out)
        have H6 := Lib.hid hset
        clear h6 f6 hset
        go_wp2_with fail
        refine (printInnerC W p 0 _ _ (fun q => ⟨rfl, rfl⟩) false _ _ L6.out H6.out).mono ?_
        rintro e w7 ⟨rfl, sl7, h7, f7⟩
        have H7 := Lib.hid h7
        have F7 := Lib.hid f7
        clear h7 f7
        go_wp2_with fail
        go_end0
        refine ⟨rfl, sl7, ?_, FR.out.trans (F6.out.trans F7.out)⟩
        have e : stk.cls = { stk.cls with inn := [] } := by
          have := BR.out.nil2
          rw [show ({ stk.cls with inn := [] } : St) = { stk.cls with inn := stk.inn } by rw [this]]
          rfl
        rw [e]
        exact H7.out
end Go.Proofs.YtkofdhhkhcdeoaaGreat
