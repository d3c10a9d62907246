/- printState.isEmpty and printList, with isEmpty as the method value that is handed on; conditions: no element is a pack or a list of expressions. -/
import Derived.Test.YtkofdhhkhcdeoaaGreatQual
namespace Go.Proofs.YtkofdhhkhcdeoaaGreat
open Go.ChangeShapes Go.WideShapes Go.ChangeAt Go.RowKit

/-- It is no pack, no list of expressions. -/
def Full (v : Value) : Prop := (∀ w, (Instr.typeAssert v 30 97 true).run Tryz.prog w = .ok (.tuple #[.pointer none, .bool false]) w) ∧ (∀ w, (Instr.typeAssert v 30 100 true).run Tryz.prog w = .ok (.tuple #[.pointer none, .bool false]) w) ∧
  (∀ w, (Instr.typeAssert v 30 103 true).run Tryz.prog w = .ok (.tuple #[.pointer none, .bool false]) w)
theorem fullName (b : Nat) : Full (.iface 60 (.pointer (some ⟨b, 0, none⟩))) := ⟨fun _ => by kernel_rfl, fun _ => by kernel_rfl, fun _ => by kernel_rfl⟩

theorem isEmptyC (x v : Value) (hv : Full v) (w : World) : Calls Tryz.prog 47 #[x, v] w fun e w' => e = .returned (.bool false) ∧ w = w' := by
  obtain ⟨e1, e2, e3⟩ := hv
  go_enter Tryz.func47, Tryz.ntmps47
  go_wp2
  go_ret
  exact ⟨rfl, rfl⟩

def comma : ByteArray := ⟨#[44, 32]⟩
theorem comma_size : comma.size = 2 := rfl

/-- What the elements of a list do, one behind the other. -/
def ListDoes (p : Nat) (W : World) : Bool → List Value → St → St → Prop
  | _, [], st, st' => st = st'
  | f, v :: vs, st, st' => ∃ s1, Full v ∧ st.txt.length + 2 ≤ 140737488355328 ∧ st.ll = false ∧ Prints p W v (if f then st else st.wr comma) s1 ∧ ListDoes p W false vs s1 st'

/-- A list of elements, as it lies in memory. -/
def ElemsAt (W : World) (p : Nat) (v : Value) (vs : List Value) : Prop :=
  ∃ a c, v = .slice a vs.length c ∧ vs.length ≤ 1000000 ∧ ∀ i x, vs[i]? = some x → ∃ g, a = some ⟨g, 0, none⟩ ∧ g < p ∧ W.cell? ⟨g, i, none⟩ = some x

theorem neqFunc (w : World) (fn : Fn) (a b : Array Value) : (binOp .neq 93 (.func fn a b) .nilFunc).run Tryz.prog w = .ok (.bool true) w := by kernel_rfl

set_option maxRecDepth 100000 in
set_option maxHeartbeats 2000000 in
theorem printListC (W : World) (p : Nat) (v : Value) (vs : List Value) (st st' : St) (he : ElemsAt W p v vs) (hd : ListDoes p W true vs st st') (w : World) (sl : Sl) (hlo : Lo p W w) (h : PsAt w p st sl) :
    Calls Tryz.prog 91 #[.pointer (some ⟨p, 0, none⟩), v, .func (Fn.func 47) #[.pointer (some ⟨p, 0, none⟩)] #[]] w (Wr p sl w st' (.tuple #[])) := by
  obtain ⟨a, c, rfl, hn, hel⟩ := he
  have hq := neqFunc
  have H := Lib.hid h
  have L := Lib.hid hlo
  have D := Lib.hid hd
  have E := Lib.hid hel
  clear h hlo hd hel
  go_enter Tryz.func91, Tryz.ntmps91
  go_wp2_with fail
  go_loopw [6, 14] (fun f i wr => ∃ (k : Nat) (slr : Sl) (stk : St), k ≤ vs.length ∧ i = .int .i64 k ∧ f = .bool (decide (k = 0)) ∧ ListDoes p W (decide (k = 0)) (vs.drop k) stk st' ∧ PsAt wr p stk slr ∧ Fr p sl slr w wr) (fun _ i _ => vs.length - (intOf i).toNat)
  case atStart => exact ⟨0, sl, st, Nat.zero_le _, rfl, rfl, D.out, H.out, Fr.refl _ _ _⟩
  case round =>
    obtain ⟨k, slr, stk, hk, rfl, rfl, hd, hp, hf⟩ := hrel
    by_cases hlt : k < vs.length
    · obtain ⟨x, ex⟩ : ∃ x, vs[k]? = some x := ⟨_, List.getElem?_eq_getElem hlt⟩
      have edr : vs.drop k = x :: vs.drop (k + 1) := by
        rw [List.drop_eq_getElem_cons hlt]
        rw [List.getElem?_eq_getElem hlt] at ex
        injection ex with ex
        rw [ex]
      obtain ⟨g, rfl, hg, hc⟩ := E.out k x ex
      rw [edr] at hd
      obtain ⟨s1, hfull, hl1, hll, hpr, hrest⟩ := hd
      have lr := hf.lo H.out L.out
      have cx := (lr.cell (o := k) hg).trans hc
      have c2 := hp.c2
      rw [hll] at c2
      have P := Lib.hid hp
      have FR := Lib.hid hf
      have LR := Lib.hid lr
      have PR := Lib.hid hpr
      have RE := Lib.hid hrest
      have FU := Lib.hid hfull
      clear ex edr hc hpr hrest hfull hp hf lr
      by_cases h0 : k = 0
      · subst h0
        go_wp2_with (first | (go_at_call 47; refine (isEmptyC _ _ FU.out _).mono ?_; rintro e w' ⟨rfl, rfl⟩))
        refine (PR.out wr slr LR.out P.out).mono ?_
        rintro e w1 ⟨rfl, sl1, h1, f1⟩
        have d2 := h1.c2
        have H1 := Lib.hid h1
        have F1 := Lib.hid f1
        clear h1 f1
        go_wp2_with fail
        go_roundw
        case rel => exact ⟨1, sl1, s1, by omega, by go_num, rfl, RE.out, H1.out, FR.out.trans F1.out⟩
        case measure => simp [intOf]; omega
      · have hk0 : decide (k = 0) = false := by simp [h0]
        rw [hk0] at PR ⊢
        have K0 := Lib.hid h0
        clear h0 hk0
        go_wp2_with (first | (go_at_call 47; refine (isEmptyC _ _ FU.out _).mono ?_; rintro e w' ⟨rfl, rfl⟩))
        refine (writeStringC wr p stk slr comma P.out (by rw [comma_size]; exact hl1)).mono ?_
        rintro e w1 ⟨rfl, sl1, h1, f1⟩
        have l1 := f1.lo P.out LR.out
        have d2 := h1.c2
        have e2 : (stk.wr comma).ll = stk.ll := rfl
        rw [e2, hll] at d2
        have H1 := Lib.hid h1
        have F1 := Lib.hid f1
        have L1 := Lib.hid l1
        clear h1 f1 l1 e2
        go_wp2_with fail
        refine (PR.out w1 sl1 L1.out H1.out).mono ?_
        rintro e w2 ⟨rfl, sl2, h2, f2⟩
        have H2 := Lib.hid h2
        have F2 := Lib.hid f2
        clear h2 f2
        go_wp2_with fail
        go_roundw
        case rel => exact ⟨k + 1, sl2, s1, by omega, by go_num, by simp, by simpa using RE.out, H2.out, FR.out.trans (F1.out.trans F2.out)⟩
        case measure => simp [intOf]; omega
    · have hk' : vs.drop k = [] := List.drop_eq_nil_of_le (by omega)
      rw [hk'] at hd
      obtain rfl : stk = st' := hd
      have P := Lib.hid hp
      have FR := Lib.hid hf
      clear hp hf hk'
      go_wp2_with fail
      go_end0
      exact ⟨rfl, slr, P.out, FR.out⟩
end Go.Proofs.YtkofdhhkhcdeoaaGreat
