/- The inner types of a print state, printed: printOneInner, printInner and printBase; conditions: a million inner types at most, and none of them is a method with qualifiers where these are saved. -/
import Derived.Test.YtkofdhhkhcdeoaaGreatInner
import Derived.Stop.Asserts
import Derived.Deep.LoopGhost
namespace Go.Proofs.YtkofdhhkhcdeoaaGreat
open Go.ChangeShapes Go.WideShapes Go.ChangeAt Go.RowKit

theorem has_one {P : Program} {w : World} {t xT asserted : TypeId} {v : Value} {want : Array (String × TypeId)} (hu : P.underlying asserted = some (.interface want)) (h : (P.info? t).map (fun i => (lacking want i.methods).isEmpty) = some true) :
    (Instr.typeAssert (.iface t v) xT asserted false).run P w = .ok (.iface t v) w := by
  obtain ⟨i, hi, hl⟩ := Option.map_eq_some_iff.1 h
  simp [Instr.typeAssert, run_underlying hu, typeInfo, hi, missingMethod_none (List.isEmpty_iff.1 hl)]

/-- How an element is called as an inner type: its type, its block, and the method that printInner comes to. -/
def IsInn (v : Value) (t b k : Nat) : Prop := v = .iface t (.pointer (some ⟨b, 0, none⟩)) ∧
  (∀ w, (Instr.typeAssert (.iface t (.pointer (some ⟨b, 0, none⟩))) 30 81 true).run Tryz.prog w = .ok (.tuple #[.iface t (.pointer (some ⟨b, 0, none⟩)), .bool true]) w) ∧
  (∀ w, (Instr.typeAssert (.iface t (.pointer (some ⟨b, 0, none⟩))) 30 81 false).run Tryz.prog w = .ok (.iface t (.pointer (some ⟨b, 0, none⟩))) w) ∧
  (∀ n w, (nilAhead (n + 1) t (.pointer (some ⟨b, 0, none⟩)) "loop.example/pub-g01448/pub/demangle.printInner").run Tryz.prog w = .ok (some false) w) ∧
  (∀ n w, (method (n + 1) t (.pointer (some ⟨b, 0, none⟩)) "loop.example/pub-g01448/pub/demangle.printInner").run Tryz.prog w = .ok (k, .pointer (some ⟨b, 0, none⟩)) w) ∧
  ∀ x y w, (callFunc k #[x, y]).run Tryz.prog w = .ok (.enter k #[x, y]) w

/-- It is no method with qualifiers. -/
def NoMwq (v : Value) : Prop := ∀ w, (Instr.typeAssert v 30 110 true).run Tryz.prog w = .ok (.tuple #[.pointer none, .bool false]) w

theorem innPointer (b : Nat) : IsInn (.iface 32 (.pointer (some ⟨b, 0, none⟩))) 32 b 125 :=
  ⟨rfl, fun w => run_typeAssert_hasB Tryz.underlying81 (by kernel_rfl) _ _ w, fun _ => has_one Tryz.underlying81 (by kernel_rfl), fun _ _ => by kernel_rfl, fun _ _ => by kernel_rfl, fun _ _ _ => by kernel_rfl⟩
theorem mwqPointer (b : Nat) : NoMwq (.iface 32 (.pointer (some ⟨b, 0, none⟩))) := fun _ => by kernel_rfl
theorem isPointer (b : Nat) : IsAst (.iface 32 (.pointer (some ⟨b, 0, none⟩))) 32 b 33 := ⟨rfl, fun _ _ => by kernel_rfl, fun _ _ => by kernel_rfl, fun _ _ _ => by kernel_rfl⟩

/-- What a call of printOneInner does. -/
def One (p : Nat) (W : World) (q : Option Addr) (st st' : St) : Prop :=
  ∀ w sl, Lo p W w → PsAt w p st sl → Calls Tryz.prog 50 #[.pointer (some ⟨p, 0, none⟩), .pointer q] w (Wr p sl w st' (.tuple #[]))

set_option maxRecDepth 100000 in
set_option maxHeartbeats 2000000 in
theorem oneInnerC (W : World) (p : Nat) (q : Option Addr) (v : Value) (t b k : Nat) (st st' : St) (l : List Value) (hi : IsInn v t b k) (hq : NoMwq v) (e : st.inn = l ++ [v]) (hlen : st.inn.length ≤ 1000000)
    (hd : Does p W k (.pointer (some ⟨b, 0, none⟩)) { st with inn := l } st') : One p W q st st' := by
  intro w sl hlo h
  obtain ⟨rfl, hta, -, hnil, hmet, hcf⟩ := hi
  obtain ⟨ia, ic, ei, q1, q2, ⟨g, rfl, hcell⟩, hp⟩ := h.popInn e
  have hm : ∀ w, (Instr.typeAssert (.iface t (.pointer (some ⟨b, 0, none⟩))) 30 110 true).run Tryz.prog w = .ok (.tuple #[.pointer none, .bool false]) w := hq
  have hll : l.length + 1 ≤ 1000000 := by rw [e] at hlen; simpa using hlen
  have c8 := h.c8
  rw [ei] at c8
  have f8 := h.free 8
  have H := Lib.hid h
  have L := Lib.hid hlo
  have D := Lib.hid hd
  have PP := Lib.hid hp
  clear h hlo hd hp ei e hq hlen
  cases q with
  | none =>
    go_enter Tryz.func50, Tryz.ntmps50
    go_wp2_with fail
    refine (D.out _ _ (PP.out.2.lo H.out L.out) PP.out.1).mono ?_
    rintro e w1 ⟨rfl, sl1, h1, f1⟩
    have H1 := Lib.hid h1
    have F1 := Lib.hid f1
    clear h1 f1
    go_wp2_with fail
    go_end0
    exact ⟨rfl, _, H1.out, PP.out.2.trans F1.out⟩
  | some q =>
    go_enter Tryz.func50, Tryz.ntmps50
    go_wp2_with fail
    refine (D.out _ _ (PP.out.2.lo H.out L.out) PP.out.1).mono ?_
    rintro e w1 ⟨rfl, sl1, h1, f1⟩
    have H1 := Lib.hid h1
    have F1 := Lib.hid f1
    clear h1 f1
    go_wp2_with fail
    go_end0
    exact ⟨rfl, _, H1.out, PP.out.2.trans F1.out⟩

/-- So many rounds of printInner. -/
def Rounds (p : Nat) (W : World) (q : Option Addr) : Nat → St → St → Prop
  | 0, st, st' => st = st' ∧ st.inn = []
  | n + 1, st, st' => ∃ s1, 0 < st.inn.length ∧ One p W q st s1 ∧ Rounds p W q n s1 st'

theorem Rounds.pos {p : Nat} {W : World} {q : Option Addr} {n : Nat} {st st' : St} (h : Rounds p W q n st st') (h0 : 0 < st.inn.length) : ∃ m s1, n = m + 1 ∧ One p W q st s1 ∧ Rounds p W q m s1 st' := by
  cases n with
  | zero => have := h.2; rw [this] at h0; simp at h0
  | succ m => obtain ⟨s1, _, h1, h2⟩ := h; exact ⟨m, s1, rfl, h1, h2⟩
theorem Rounds.nil {p : Nat} {W : World} {q : Option Addr} {n : Nat} {st st' : St} (h : Rounds p W q n st st') (h0 : ¬ 0 < st.inn.length) : st = st' := by
  cases n with
  | zero => exact h.1
  | succ m => obtain ⟨s1, h1, _⟩ := h; exact absurd h1 h0

/-- A block that is new ahead of a call stands behind it. -/
theorem new_stands {w w' : World} {p : Nat} {st : St} {sl sl' : Sl} {o : Obj} (h : PsAt w p st sl) (f : Fr p sl sl' (w.alloc o) w') : w'.heap[w.heap.size]? = some o := by
  have hlt := h.lt
  rw [f.block w.heap.size (by simp) (by omega) (fun e => by have := (h.ownBuf.lt _ e).2; omega) (fun e => by have := (h.ownInn.lt _ e).2; omega) (fun e => by have := (h.ownPrt.lt _ e).2; omega)]
  exact heap_alloc_new w o

def innAll (p : Nat) (W : World) (st st' : St) (pre : Bool) : Prop :=
  ∀ w sl, Lo p W w → PsAt w p st sl → Calls Tryz.prog 45 #[.pointer (some ⟨p, 0, none⟩), .bool pre] w (Wr p sl w st' (.slice none 0 0))

set_option maxRecDepth 100000 in
set_option maxHeartbeats 2000000 in
theorem printInnerC (W : World) (p : Nat) (n : Nat) (st st' : St) (hr : ∀ q, Rounds p W q n st st') (pre : Bool) : innAll p W st st' pre := by
  intro w sl hlo h
  have hlt := h.lt
  have A := Lib.hid (h.alloc (.cells #[.slice none 0 0] 41))
  have H := Lib.hid h
  have L := Lib.hid hlo
  have R := Lib.hid hr
  clear h hlo hr
  cases pre
  all_goals
    go_enter Tryz.func45, Tryz.ntmps45
    go_wp2_with fail
  · go_loopg [] n (fun k wr => ∃ stk slr, Rounds p W none k stk st' ∧ PsAt wr p stk slr ∧ Fr p sl slr (w.alloc (.cells #[.slice none 0 0] 41)) wr)
    case atStart => exact ⟨st, sl, R.out _, A.out.1, Fr.refl _ _ _⟩
    case round =>
      obtain ⟨stk, slr, hR, hP, hF⟩ := hrel
      have hst := new_stands H.out hF
      obtain ⟨ia, ic, ei⟩ := hP.innForm
      have c8 := hP.c8
      rw [ei] at c8
      have cs := cell_of_one hst
      have hl := hF.lo A.out.1 (A.out.2.lo H.out L.out)
      have P := Lib.hid hP
      have F := Lib.hid hF
      have LR := Lib.hid hl
      by_cases h0 : 0 < stk.inn.length
      · obtain ⟨m, s1, rfl, h1, h2⟩ := hR.pos h0
        have O := Lib.hid h1
        have R2 := Lib.hid h2
        clear hR hP hF hst ei hl h1 h2
        go_wp2_with fail
        refine (O.out _ _ LR.out P.out).mono ?_
        rintro e w1 ⟨rfl, sl1, h1, f1⟩
        have H1 := Lib.hid h1
        have F1 := Lib.hid f1
        clear h1 f1
        go_wp2_with fail
        go_roundg m
        case measure => omega
        case rel => exact ⟨s1, sl1, R2.out, H1.out, F.out.trans F1.out⟩
      · have e := hR.nil h0
        subst e
        clear hR hP hF hst ei hl
        go_wp2_with fail
        go_ret
        exact ⟨rfl, slr, P.out, A.out.2.trans F.out⟩
  · go_loopg [] n (fun k wr => ∃ stk slr, Rounds p W (some ⟨w.heap.size, 0, none⟩) k stk st' ∧ PsAt wr p stk slr ∧ Fr p sl slr (w.alloc (.cells #[.slice none 0 0] 41)) wr)
    case atStart => exact ⟨st, sl, R.out _, A.out.1, Fr.refl _ _ _⟩
    case round =>
      obtain ⟨stk, slr, hR, hP, hF⟩ := hrel
      have hst := new_stands H.out hF
      obtain ⟨ia, ic, ei⟩ := hP.innForm
      have c8 := hP.c8
      rw [ei] at c8
      have cs := cell_of_one hst
      have hl := hF.lo A.out.1 (A.out.2.lo H.out L.out)
      have P := Lib.hid hP
      have F := Lib.hid hF
      have LR := Lib.hid hl
      by_cases h0 : 0 < stk.inn.length
      · obtain ⟨m, s1, rfl, h1, h2⟩ := hR.pos h0
        have O := Lib.hid h1
        have R2 := Lib.hid h2
        clear hR hP hF hst ei hl h1 h2
        go_wp2_with fail
        refine (O.out _ _ LR.out P.out).mono ?_
        rintro e w1 ⟨rfl, sl1, h1, f1⟩
        have H1 := Lib.hid h1
        have F1 := Lib.hid f1
        clear h1 f1
        go_wp2_with fail
        go_roundg m
        case measure => omega
        case rel => exact ⟨s1, sl1, R2.out, H1.out, F.out.trans F1.out⟩
      · have e := hR.nil h0
        subst e
        clear hR hP hF hst ei hl
        go_wp2_with fail
        go_ret
        exact ⟨rfl, slr, P.out, A.out.2.trans F.out⟩

/-- A pointer's own sign. -/
theorem ptrInnerDoes (W : World) (p : Nat) (v : Value) (st : St) (hl : st.txt.length + 1 ≤ 140737488355328) : Does p W 125 v st (st.wr ⟨#[42]⟩) := by
  intro w sl _ h
  have H := Lib.hid h
  clear h
  go_enter Tryz.func125, Tryz.ntmps125
  go_wp2_with fail
  refine (writeStringC w p st sl ⟨#[42]⟩ H.out hl).mono ?_
  rintro e w1 ⟨rfl, sl1, h1, f1⟩
  have H1 := Lib.hid h1
  have F1 := Lib.hid f1
  clear h1 f1
  go_wp2_with fail
  go_end0
  exact ⟨rfl, sl1, H1.out, F1.out⟩

set_option maxRecDepth 100000 in
set_option maxHeartbeats 2000000 in
/-- printBase, where the base prints all inner types. -/
theorem printBaseC (W : World) (p t b : Nat) (base : Value) (st st2 : St) (hlen : st.inn.length ≤ 1000000)
    (hB : Prints p W base { st with inn := st.inn ++ [.iface t (.pointer (some ⟨b, 0, none⟩))] } st2) (e2 : st2.inn = []) (w : World) (sl : Sl) (hlo : Lo p W w) (h : PsAt w p st sl) :
    Calls Tryz.prog 34 #[.pointer (some ⟨p, 0, none⟩), .iface t (.pointer (some ⟨b, 0, none⟩)), base] w (Wr p sl w st2 (.tuple #[])) := by
  have c8 := h.c8
  have H := Lib.hid h
  have L := Lib.hid hlo
  have HB := Lib.hid hB
  have E2 := Lib.hid e2
  clear h hlo hB e2
  go_enter Tryz.func34, Tryz.ntmps34
  go_wp2_with (first | (at_builtin; refine wpList_pushInn rfl (.tmp 10) (.tmp 12) rfl H.out t b rfl rfl hlen ?_; intro gg cap w2 d8 e8 hP2; have P2 := Lib.hid hP2; clear hP2))
  refine (HB.out _ _ (P2.out.2.lo H.out L.out) P2.out.1).mono ?_
  rintro e w3 ⟨rfl, sl3, h3, f3⟩
  obtain ⟨ia, ic, ei⟩ := h3.innForm
  have g8 := h3.c8
  rw [ei, E2.out] at g8
  have H3 := Lib.hid h3
  have F3 := Lib.hid f3
  clear h3 f3 ei
  go_wp2_with fail
  go_end0
  exact ⟨rfl, sl3, H3.out, P2.out.2.trans F3.out⟩

set_option maxRecDepth 100000 in
set_option maxHeartbeats 2000000 in
/-- A pointer whose base prints all inner types. -/
theorem pointerDoes (W : World) (p b : Nat) (base : Value) (st st2 : St) (h0 : W.cell? ⟨b, 0, none⟩ = some base) (hb : b < p) (hlen : st.inn.length ≤ 1000000)
    (hB : Prints p W base { st with inn := st.inn ++ [.iface 32 (.pointer (some ⟨b, 0, none⟩))] } st2) (e2 : st2.inn = []) :
    Does p W 33 (.pointer (some ⟨b, 0, none⟩)) st st2 := by
  intro w sl hlo h
  have c0 := (hlo.cell (o := 0) hb).trans h0
  have hc := Lib.hid (printBaseC W p 32 b base st st2 hlen hB e2 w sl hlo h)
  clear h hlo hB h0 e2
  go_enter Tryz.func33, Tryz.ntmps33
  go_wp2_with fail
  refine hc.out.mono ?_
  rintro e w3 ⟨rfl, sl3, h3, f3⟩
  have H3 := Lib.hid h3
  have F3 := Lib.hid f3
  clear h3 f3
  go_wp2_with fail
  go_end0
  exact ⟨rfl, sl3, H3.out, F3.out⟩
end Go.Proofs.YtkofdhhkhcdeoaaGreat
