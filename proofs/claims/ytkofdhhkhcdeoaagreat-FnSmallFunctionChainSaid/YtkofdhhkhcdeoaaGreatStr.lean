/- strings.Builder's String on the state's field: the text; conditions: none. -/
import Derived.Test.YtkofdhhkhcdeoaaGreatPs
namespace Go.Proofs.YtkofdhhkhcdeoaaGreat
open Go.ChangeShapes Go.WideShapes Go.ChangeAt Go.RowKit

def Said (p : Nat) (l : List UInt8) (w : World) (e : Ending) (w' : World) : Prop := e = .returned (.string ⟨l.toArray⟩) ∧ Below p w w'

theorem cellsU8 : Tryz.prog.cellsOf 5 = 1 := by kernel_rfl

set_option maxHeartbeats 1000000 in
set_option maxRecDepth 100000 in
theorem stringC (w : World) (p : Nat) (st : St) (sl : Sl) (h : PsAt w p st sl) : Calls Tryz.prog 14 #[.pointer (some ⟨p, 5, none⟩)] w (Said p st.txt w) := by
  have c6 : w.drew.cell? ⟨p, 6, none⟩ = some sl.buf := h.c6
  have hlt := h.lt
  have own := h.ownBuf
  clear h
  rcases own.2 with ⟨e, e0⟩ | ⟨g, cap, cur, e, hbg, hg, hnc, hcm, hcs, htake⟩
  · have hl : st.txt = [] := List.eq_nil_of_length_eq_zero e0
    rw [e] at c6
    rw [hl]
    have hSD := Lib.run_unsafeSliceData_nil (P := Tryz.prog) w.drew #[50] 59 0 0
    have hUS := Lib.run_unsafeString_none (P := Tryz.prog) w.drew 59 3 9 none
    clear e e0 hl own
    go_enter Tryz.func14, Tryz.ntmps14
    go_wp2
    go_region
    all_goals go_wp2
    all_goals go_ret
    all_goals exact ⟨rfl, Below.drew (Below.refl p w)⟩
  · rw [e] at c6
    by_cases hl0 : st.txt = []
    · have e0 : st.txt.length = 0 := by rw [hl0]; rfl
      rw [e0] at c6
      rw [hl0]
      have hUS := Lib.run_unsafeString_none (P := Tryz.prog) (pt := 59) (it := 3) (ty := 9)
      by_cases hc0 : cap = 0
      · subst hc0
        have hSD : (Builtin.unsafeSliceData_ #[50] 59 #[.slice (some ⟨g, 0, none⟩) 0 0]).run Tryz.prog w.drew = .ok (.pointer (some ⟨w.drew.heap.size, 0, none⟩)) (w.drew.alloc (.view ⟨g, 0, none⟩ 5)) :=
          Lib.run_unsafeSliceData_zero w.drew _ _ 5 Tryz.underlying59 ⟨g, 0, none⟩ 0 (5, cur.size) (by have hg' : w.drew.heap[g]? = some (.cells cur 5 (0, 0)) := hg; simp [World.shape?, hg'])
        have c7 : (w.alloc (.view ⟨g, 0, none⟩ 5)).drew.cell? ⟨p, 6, none⟩ = some (.slice (some ⟨g, 0, none⟩) 0 0) := by
          refine Eq.trans (World.cell?_of_block (w := w) (a := ⟨p, 6, none⟩) ?_) c6
          exact Below.heap_alloc w _ p hlt
        have c8 : w.cell? ⟨p, 6, none⟩ = some (.slice (some ⟨g, 0, none⟩) 0 0) := c6
        clear e e0 own htake hg hcs hcm hnc
        go_enter Tryz.func14, Tryz.ntmps14
        go_wp2
        go_region
        all_goals go_wp2
        all_goals go_ret
        all_goals exact ⟨rfl, (Below.drew (Below.refl p w)).alloc (Nat.le_of_lt hlt) _⟩
      · have hSD : (Builtin.unsafeSliceData_ #[50] 59 #[.slice (some ⟨g, 0, none⟩) 0 cap]).run Tryz.prog w.drew = .ok (.pointer (some ⟨g, 0, none⟩)) w.drew := Lib.run_unsafeSliceData_row _ _ _ _ _ _ hc0
        clear e e0 own htake hg hcs hcm hnc
        go_enter Tryz.func14, Tryz.ntmps14
        go_wp2
        go_region
        all_goals go_wp2
        all_goals go_ret
        all_goals exact ⟨rfl, Below.drew (Below.refl p w)⟩
    · have hne : st.txt.length ≠ 0 := by simpa using hl0
      have hSD : (Builtin.unsafeSliceData_ #[50] 59 #[.slice (some ⟨g, 0, none⟩) st.txt.length cap]).run Tryz.prog w.drew = .ok (.pointer (some ⟨g, 0, none⟩)) w.drew := Lib.run_unsafeSliceData_row _ _ _ _ _ _ (by omega)
      have hUS : (Builtin.unsafeString_ #[59, 3] 9 #[.pointer (some ⟨g, 0, none⟩), .int .i64 st.txt.length]).run Tryz.prog w.drew = .ok (.string ⟨st.txt.toArray⟩) (w.drew.freeze ⟨g, 0, none⟩ st.txt.length) := by
        refine Lib.run_unsafeString_row w.drew 59 3 9 5 Tryz.underlying59 cellsU8 g cur.size (by have hg' : w.drew.heap[g]? = some (.cells cur 5 (0, 0)) := hg; simp [World.shape?, hg']) st.txt hl0 (by omega) (by unfold maxLen at hcm; omega) ?_
        intro j x hx
        have own' := own
        rw [e] at own'
        have := own'.cells (g := g) rfl j (.int .u8 x.toNat) (by simp [Lib.byteCells, hx])
        exact this
      clear e own htake hg hcs hcm hnc
      go_enter Tryz.func14, Tryz.ntmps14
      go_wp2
      go_region
      all_goals go_wp2
      all_goals go_ret
      all_goals exact ⟨rfl, Lib.below_freeze (Below.drew (Below.refl p w)) (p := ⟨g, 0, none⟩) (by exact (by omega : p ≤ g)) _⟩

/-- What a method print of an element does: in every world that is as W below the state's block, from the state st to st'. -/
def Does (p : Nat) (W : World) (k : Nat) (v : Value) (st st' : St) : Prop :=
  ∀ w sl, Lo p W w → PsAt w p st sl → Calls Tryz.prog k #[v, .pointer (some ⟨p, 0, none⟩)] w (Wr p sl w st' (.tuple #[]))

/-- How an element is called: its type, its block, and the method that print comes to. -/
def IsAst (v : Value) (t b k : Nat) : Prop := v = .iface t (.pointer (some ⟨b, 0, none⟩)) ∧
  (∀ n w, (nilAhead (n + 1) t (.pointer (some ⟨b, 0, none⟩)) "loop.example/pub-g01448/pub/demangle.print").run Tryz.prog w = .ok (some false) w) ∧
  (∀ n w, (method (n + 1) t (.pointer (some ⟨b, 0, none⟩)) "loop.example/pub-g01448/pub/demangle.print").run Tryz.prog w = .ok (k, .pointer (some ⟨b, 0, none⟩)) w) ∧
  ∀ x y w, (callFunc k #[x, y]).run Tryz.prog w = .ok (.enter k #[x, y]) w

theorem isName (b : Nat) : IsAst (.iface 60 (.pointer (some ⟨b, 0, none⟩))) 60 b 59 := ⟨rfl, fun _ _ => by kernel_rfl, fun _ _ => by kernel_rfl, fun _ _ _ => by kernel_rfl⟩
theorem isBuiltin (b : Nat) : IsAst (.iface 38 (.pointer (some ⟨b, 0, none⟩))) 38 b 55 := ⟨rfl, fun _ _ => by kernel_rfl, fun _ _ => by kernel_rfl, fun _ _ _ => by kernel_rfl⟩

/-- The state at the start. -/
def st0 : St := ⟨true, true, false, 1, [], 0, [], []⟩

theorem psStart (w : World) (tp : Bool) : PsAt (w.alloc (.cells #[.bool tp, .bool true, .bool false, .int .i64 0, .int .i64 1, .pointer none, .slice none 0 0, .int .u8 0, .slice none 0 0, .slice none 0 0] 54)) w.heap.size { st0 with tp := tp } ⟨.slice none 0 0, .slice none 0 0, .slice none 0 0⟩ :=
  ⟨none, .inl rfl, heap_alloc_new w _, World.ownsRow_nil _ _ _ _, World.ownsRow_nil _ _ _ _, World.ownsRow_nil _ _ _ _, fun k e => by cases e⟩

theorem loStart (w : World) (o : Obj) : Lo w.heap.size w (w.alloc o) := fun k hk => Below.heap_alloc w o k hk

/-- Behind a print from the start only new blocks have turned. -/
theorem belowStart {w w1 : World} {o : Obj} {st : St} {sl sl' : Sl} (hp : PsAt (w.alloc o) w.heap.size st sl) (f : Fr w.heap.size sl sl' (w.alloc o) w1) : Below w.heap.size w w1 :=
  ⟨f.os, f.tape, f.output, Nat.le_trans (by simp) f.size, f.lo hp (loStart w o)⟩

set_option maxHeartbeats 1000000 in
set_option maxRecDepth 100000 in
theorem toStringC (w : World) (v : Value) (t b k : Nat) (st' : St) (ha : IsAst v t b k) (h : Does w.heap.size w k (.pointer (some ⟨b, 0, none⟩)) st0 st') :
    Calls Tryz.prog 10 #[v, .slice none 0 0] w (Said w.heap.size st'.txt w) := by
  obtain ⟨rfl, hnil, hmet, hcf⟩ := ha
  go_enter Tryz.func10, Tryz.ntmps10
  go_wp2_with fail
  refine wp_loop_rounds 1 ?_
  rw [rounds_succ]
  go_wp2_with fail
  refine (h _ _ (loStart w _) (psStart w true)).mono ?_
  rintro e w1 ⟨rfl, sl1, h1, f1⟩
  have hs := stringC w1 w.heap.size st' sl1 h1
  have H := Lib.hid hs
  have B1 := Lib.hid (belowStart (psStart w true) f1)
  clear hs h1 f1 h
  go_wp2_with (first | (go_at_call 14; refine H.out.mono ?_; rintro e w2 ⟨rfl, hb2⟩; have B2 := Lib.hid hb2; clear hb2))
  go_ret
  exact ⟨rfl, B1.out.trans B2.out⟩

/-- A name's text is written. -/
theorem nameDoes (W : World) (p b : Nat) (s : ByteArray) (st : St) (hb : W.cell? ⟨b, 0, none⟩ = some (.string s)) (hbp : b < p) (hl : st.txt.length + s.size ≤ 140737488355328) :
    Does p W 59 (.pointer (some ⟨b, 0, none⟩)) st (st.wr s) := by
  intro w sl hlo h
  have hc := (hlo.cell (o := 0) hbp).trans hb
  have H := Lib.hid h
  clear h hb
  go_enter Tryz.func59, Tryz.ntmps59
  go_wp2_with (first | (go_at_call 48; refine (writeStringC w p st sl s H.out hl).mono ?_; rintro e w1 ⟨rfl, sl1, h1, f1⟩; have H1 := Lib.hid h1; have F1 := Lib.hid f1; clear h1 f1))
  go_end0
  exact ⟨rfl, _, H1.out, F1.out⟩

theorem builtinDoes (W : World) (p b : Nat) (s : ByteArray) (st : St) (hb : W.cell? ⟨b, 0, none⟩ = some (.string s)) (hbp : b < p) (hll : st.ll = false) (hl : st.txt.length + s.size ≤ 140737488355328) :
    Does p W 55 (.pointer (some ⟨b, 0, none⟩)) st (st.wr s) := by
  intro w sl hlo h
  have hc := (hlo.cell (o := 0) hbp).trans hb
  have c2 := h.c2
  rw [hll] at c2
  have H := Lib.hid h
  clear h hb hll
  go_enter Tryz.func55, Tryz.ntmps55
  go_wp2_with (first | (go_at_call 48; refine (writeStringC w p st sl s H.out hl).mono ?_; rintro e w1 ⟨rfl, sl1, h1, f1⟩; have H1 := Lib.hid h1; have F1 := Lib.hid f1; clear h1 f1))
  go_end0
  exact ⟨rfl, _, H1.out, F1.out⟩
end Go.Proofs.YtkofdhhkhcdeoaaGreat
