/- Typed: print and printInner, where its type is a function without a result; conditions: fewer than 2^47 bytes. -/
import Derived.Test.YtabnnnnheipldaaGreatFunN
import Derived.Test.YtabnnnnheipldaaGreatChain
import Derived.Defers
import Derived.StillTailTactics
namespace Go.Proofs.YtabnnnnheipldaaGreat
open Go.ChangeShapes Go.WideShapes Go.ChangeAt Go.RowKit

/-! ### The inner types held and given back -/
theorem own_same {w w2 : World} {B e s n : Nat} {v : Value} {xs : List Value} (h : w.ownsRow B e s v n xs) (hb : ∀ k, v.ownBlock = some k → w2.heap[k]? = w.heap[k]?) : w2.ownsRow B e s v n xs := by
  obtain ⟨h1, h2⟩ := h
  refine ⟨h1, ?_⟩
  rcases h2 with h2 | ⟨g, cap, cur, e1, e2, e3, e4⟩
  · exact .inl h2
  · refine .inr ⟨g, cap, cur, e1, e2, ?_, e4⟩
    rw [hb g (by rw [e1]; rfl)]
    exact e3

theorem PsAt.restore {w w1 w2 : World} {p : Nat} {st st2 : St} {sl sl2 : Sl} {v1 : Value} (h : PsAt w p st sl) (hb1 : ∀ k, k < w.heap.size → k ≠ p → w1.heap[k]? = w.heap[k]?) (hv1 : ∀ k, v1.ownBlock = some k → w.heap.size ≤ k)
    (F1 : Fr p sl { sl with inn := v1 } w w1) (F : Fr p { sl with inn := v1 } sl2 w1 w2) (h2 : PsAt w2 p st2 sl2) :
    PsAt (w2.setCell ⟨p, 8, none⟩ sl.inn) p { st2 with inn := st.inn } { sl2 with inn := sl.inn } ∧ Fr p sl { sl2 with inn := sl.inn } w (w2.setCell ⟨p, 8, none⟩ sl.inn) := by
  have FT := F1.trans F
  have hblk : ∀ k, sl.inn.ownBlock = some k → w2.heap[k]? = w.heap[k]? := by
    intro k hk
    have hlt := (h.ownInn.lt k hk).2
    have hp : k ≠ p := fun e => h.rowInn (by rw [hk, e])
    rw [F.block k (Nat.lt_of_lt_of_le hlt F1.size) hp (fun e => buf_sep h h.ownInn k e hk) (fun e => by have := hv1 k e; omega) (fun e => h.sep k hk e)]
    exact hb1 k hlt hp
  refine ⟨h2.setInn (own_same h.ownInn hblk) ?_, FT.os, FT.tape, FT.output, by simpa [World.setCell] using FT.size, ?_, FT.buf, fun _ e => .inl e, FT.prt⟩
  · intro k hk hv
    have hlt := (h.ownInn.lt k hk).2
    rcases FT.prt k hv with e | e
    · exact h.sep k hk e
    · omega
  · intro k hk hp b1 b2 b3
    rw [Below.heap_setCell _ _ _ _ hp]
    exact FT.block k hk hp b1 b2 b3

/-- A block that is new ahead of the walk stands behind it. -/
theorem new_far {w w1 wx : World} {p k : Nat} {st : St} {sl slx : Sl} {o : Obj} {v : Value} (h : PsAt w p st sl) (hv : v.ownBlock ≠ some k) (hs : w.heap.size ≤ k) (hk : w1.heap[k]? = some o) (F : Fr p { sl with inn := v } slx w1 wx) : wx.heap[k]? = some o := by
  have hlt := h.lt
  rw [F.block k (Array.getElem?_eq_some_iff.1 hk).1 (by omega) (fun e => by have := (h.ownBuf.lt _ e).2; omega) hv (fun e => by have := (h.ownPrt.lt _ e).2; omega)]
  exact hk

theorem isTyped (b : Nat) : IsAst (.iface 41 (.pointer (some ⟨b, 0, none⟩))) 41 b 60 := ⟨rfl, fun _ _ => by kernel_rfl, fun _ _ => by kernel_rfl, fun _ _ _ => by kernel_rfl⟩
theorem innTyped (b : Nat) : IsInn (.iface 41 (.pointer (some ⟨b, 0, none⟩))) 41 b 61 :=
  ⟨rfl, fun w => run_typeAssert_hasB Tryz.underlying97 (by kernel_rfl) _ _ w, fun _ => has_one Tryz.underlying97 (by kernel_rfl), fun _ _ => by kernel_rfl, fun _ _ => by kernel_rfl, fun _ _ _ => by kernel_rfl⟩
theorem mwqTyped (b : Nat) : NoMwq (.iface 41 (.pointer (some ⟨b, 0, none⟩))) := fun _ => by kernel_rfl

theorem typedClose (w : World) (bi bp p : Nat) (a : Option Addr) (n c : Nat) (x : Value) (u : FrameMode) (c1 : w.cell? ⟨bi, 0, none⟩ = some (.slice a n c)) (c2 : w.cell? ⟨bp, 0, none⟩ = some (.pointer (some ⟨p, 0, none⟩))) (c8 : w.cell? ⟨p, 8, none⟩ = some x) (f8 : w.frozen? ⟨p, 8, none⟩ = false) :
    CallsD Tryz.prog 62 #[.pointer (some ⟨bi, 0, none⟩), .pointer (some ⟨bp, 0, none⟩)] u w fun e u' w' => u' = u ∧ (e = .returned (.tuple #[]) ∧ w' = w.setCell ⟨p, 8, none⟩ (.slice a n c)) := by
  go_enter_d Tryz.func62, Tryz.ntmps62
  go_wp2
  go_end0
  exact ⟨rfl, rfl⟩

theorem own_ne {n k a b : Nat} (h : n ≠ k) : (Value.slice (some ⟨n, 0, none⟩) a b).ownBlock ≠ some k := fun e => h (Option.some.inj e)
theorem own_one' {w : World} {N g : Nat} {e : TypeId} {x : Value} (h : w.heap[g]? = some (.cells #[x] e (0, 0))) (hN : N ≤ g) : w.ownsRow N e 1 (.slice (some ⟨g, 0, none⟩) 1 1) 1 [x] :=
  ⟨rfl, .inr ⟨g, 1, #[x], rfl, hN, h, Nat.le_refl _, by unfold maxLen; omega, rfl, rfl⟩⟩

/-- The inner types held, one in their place: the blocks, and the state. -/
structure Held (p : Nat) (st : St) (sl : Sl) (w w1 : World) (o1 o2 : Obj) (x : Value) : Prop where
  at' : PsAt w1 p { st with inn := [x] } { sl with inn := .slice (some ⟨w.heap.size + 1 + 1, 0, none⟩) 1 1 }
  fr : Fr p sl { sl with inn := .slice (some ⟨w.heap.size + 1 + 1, 0, none⟩) 1 1 } w w1
  b1 : w1.heap[w.heap.size]? = some o1
  b2 : w1.heap[w.heap.size + 1]? = some o2
  low : ∀ k, k < w.heap.size → k ≠ p → w1.heap[k]? = w.heap[k]?

theorem PsAt.holdInn {w : World} {p : Nat} {st : St} {sl : Sl} (o1 o2 : Obj) (x : Value) (h : PsAt w p st sl) :
    Held p st sl w ((((w.alloc o1).alloc o2).alloc (.cells #[x] 33)).setCell ⟨p, 8, none⟩ (.slice (some ⟨w.heap.size + 1 + 1, 0, none⟩) 1 1)) o1 o2 x := by
  have hlt := h.lt
  have A1 := h.alloc o1
  have A2 := A1.1.alloc o2
  have A3 := A2.1.alloc (.cells #[x] 33)
  have hsz : (((w.alloc o1).alloc o2).heap.size) = w.heap.size + 1 + 1 := by simp
  have hnew := heap_alloc_new ((w.alloc o1).alloc o2) (.cells #[x] 33)
  rw [hsz] at hnew
  have hS := A3.1.setInn (v' := .slice (some ⟨w.heap.size + 1 + 1, 0, none⟩) 1 1) (l' := [x]) (own_one' hnew (by omega)) (fun k e hk => by
    have e' : w.heap.size + 1 + 1 = k := by simpa [Value.ownBlock] using e
    have := (h.ownPrt.lt k hk).2
    omega)
  have F : Fr p sl { sl with inn := .slice (some ⟨w.heap.size + 1 + 1, 0, none⟩) 1 1 } w ((((w.alloc o1).alloc o2).alloc (.cells #[x] 33)).setCell ⟨p, 8, none⟩ (.slice (some ⟨w.heap.size + 1 + 1, 0, none⟩) 1 1)) := by
    refine ⟨rfl, rfl, rfl, by simp [World.setCell]; omega, fun k hk hp _ _ _ => ?_, fun _ e => .inl e, fun k e => .inr ?_, fun _ e => .inl e⟩
    · rw [Below.heap_setCell _ _ _ _ hp, Below.heap_alloc _ _ _ (by simp; omega), Below.heap_alloc _ _ _ (by simp; omega), Below.heap_alloc _ _ _ hk]
    · have e' : w.heap.size + 1 + 1 = k := by simpa [Value.ownBlock] using e
      omega
  refine ⟨hS, F, ?_, ?_, ?_⟩
  · rw [Below.heap_setCell _ _ _ _ (by exact Nat.ne_of_gt hlt), Below.heap_alloc _ _ _ (by simp; omega), Below.heap_alloc _ _ _ (by simp)]
    exact heap_alloc_new w o1
  · rw [Below.heap_setCell _ _ _ _ (by exact Nat.ne_of_gt (Nat.lt_succ_of_lt hlt)), Below.heap_alloc _ _ _ (by simp)]
    have := heap_alloc_new (w.alloc o1) o2
    rwa [World.size_alloc] at this
  · intro k hk hp
    rw [Below.heap_setCell _ _ _ _ hp, Below.heap_alloc _ _ _ (by simp; omega), Below.heap_alloc _ _ _ (by simp; omega), Below.heap_alloc _ _ _ hk]

theorem Held.drew {w w1 : World} {p : Nat} {st : St} {sl : Sl} {o1 o2 : Obj} {x : Value} (h : Held p st sl w w1 o1 o2 x) : Held p st sl w w1.drew o1 o2 x := ⟨h.at'.drew.1, h.fr.trans h.at'.drew.2, h.b1, h.b2, h.low⟩

set_option maxRecDepth 100000 in
set_option maxHeartbeats 4000000 in
theorem typedDoes (W : World) (p b : Nat) (ty : Value) (st s1 : St) (h1 : W.cell? ⟨b, 1, none⟩ = some ty) (hb : b < p)
    (hT : Prints p W ty { st with inn := [.iface 41 (.pointer (some ⟨b, 0, none⟩))] } s1) (e1 : s1.inn = []) :
    Does p W 60 (.pointer (some ⟨b, 0, none⟩)) st { s1 with inn := st.inn } := by
  intro w sl hlo h
  obtain ⟨ia, ic, ei⟩ := h.innForm
  have hmf : ∀ (fn : Fn) (first cap : Array Value) (w : World), (Instr.makeFunc fn first cap).run Tryz.prog w = .ok (.func fn first cap) w := fun _ _ _ _ => rfl
  have c8 := h.c8
  have f8 := h.free 8
  have hlt := h.lt
  rw [ei] at c8
  have q8 := ((((h.alloc (.cells #[.pointer (some ⟨p, 0, none⟩)] 66)).1.alloc (.cells #[.slice ia st.inn.length ic] 51)).1.alloc (.cells #[.iface 41 (.pointer (some ⟨b, 0, none⟩))] 33)).1.free 8)
  have r8 := ((((h.alloc (.cells #[.pointer (some ⟨p, 0, none⟩)] 66)).1.alloc (.cells #[.slice ia st.inn.length ic] 51)).1.alloc (.cells #[.iface 41 (.pointer (some ⟨b, 0, none⟩))] 33)).1.c8)
  rw [ei] at r8
  have HO := Lib.hid (h.holdInn (.cells #[.pointer (some ⟨p, 0, none⟩)] 66) (.cells #[.slice ia st.inn.length ic] 51) (.iface 41 (.pointer (some ⟨b, 0, none⟩))))
  have H := Lib.hid h
  have L := Lib.hid hlo
  have T := Lib.hid hT
  have EI := Lib.hid ei
  have E1 := Lib.hid e1
  have W1 := Lib.hid h1
  clear h hlo hT ei h1 e1
  go_enter_defers Tryz.func60, Tryz.ntmps60
  go_wp2_with fail
  clear q8 r8
  generalize (((w.alloc (.cells #[.pointer (some ⟨p, 0, none⟩)] 66)).alloc (.cells #[.slice ia st.inn.length ic] 51)).alloc (.cells #[.iface 41 (.pointer (some ⟨b, 0, none⟩))] 33)).setCell ⟨p, 8, none⟩ (.slice (some ⟨w.heap.size + 1 + 1, 0, none⟩) 1 1) = w1 at *
  have k1 := ((HO.out.fr.lo H.out L.out).cell (o := 1) hb).trans W1.out
  have cB := cell_of_one HO.out.b1
  clear c8 f8
  go_still_tail 5, (by kernel_rfl)
  change wpList _ _ _ _ _ w1.drew
  have HD := Lib.hid HO.out.drew
  clear HO cB k1
  generalize w1.drew = w2 at *
  have cB := cell_of_one HD.out.b1
  have L2 := Lib.hid (HD.out.fr.lo H.out L.out)
  go_wp2_with fail
  refine (T.out w2 _ L2.out HD.out.at').mono ?_
  rintro e w3 ⟨rfl, sl3, h3, f3⟩
  obtain ⟨ja, jc, ej⟩ := h3.innForm
  have g8 := h3.c8
  rw [ej, E1.out] at g8
  have cB3 := cell_of_one (new_far H.out (own_ne (by omega)) (Nat.le_refl _) HD.out.b1 f3)
  have H3 := Lib.hid h3
  have F3 := Lib.hid f3
  clear h3 f3 cB ej
  go_wp2_with fail
  have cH := cell_of_one (new_far H.out (own_ne (by omega)) (Nat.le_succ _) HD.out.b2 F3.out)
  refine leaves_cons (f := 62) (args := #[.pointer (some ⟨w.heap.size + 1, 0, none⟩), .pointer (some ⟨w.heap.size, 0, none⟩)]) (by simp) (by simp [go_sem]) ?_
  refine (typedClose _ _ _ p ia st.inn.length ic _ .returning cH cB3 H3.out.c8 (H3.out.free 8)).mono ?_
  rintro e u' w'' ⟨rfl, rfl, rfl⟩
  have R := H.out.restore HD.out.low (fun k e => by have e' : w.heap.size + 1 + 1 = k := (by simpa [Value.ownBlock] using e); omega) HD.out.fr F3.out H3.out
  rw [EI.out] at R
  exact ⟨_, results_none rfl _ _ _, rfl, _, R.1, R.2⟩

/-- A typed name as an inner type. -/
theorem typedInner (W : World) (p b nb : Nat) (s : ByteArray) (st : St) (h0 : W.cell? ⟨b, 0, none⟩ = some (.iface 68 (.pointer (some ⟨nb, 0, none⟩)))) (hb : b < p) (hN : Prints p W (.iface 68 (.pointer (some ⟨nb, 0, none⟩))) st (st.wr s)) :
    Does p W 61 (.pointer (some ⟨b, 0, none⟩)) st (st.wr s) := by
  intro w sl hlo h
  have c0 := (hlo.cell (o := 0) hb).trans h0
  have D := Lib.hid (hN w sl hlo h)
  clear h hlo hN h0
  go_enter Tryz.func61, Tryz.ntmps61
  go_wp2_with fail
  refine D.out.mono ?_
  rintro e w5 ⟨rfl, sl5, h5, f5⟩
  have H5 := Lib.hid h5
  have F5 := Lib.hid f5
  clear h5 f5
  go_wp2_with fail
  go_end0
  exact ⟨rfl, sl5, H5.out, F5.out⟩
end Go.Proofs.YtabnnnnheipldaaGreat
