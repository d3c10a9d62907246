/- FunctionType.print and printInner; conditions: fewer than 2^47 bytes, a million inner types at most. -/
import Derived.Test.YtkofdhhkhcdeoaaGreatFun
namespace Go.Proofs.YtkofdhhkhcdeoaaGreat
open Go.ChangeShapes Go.WideShapes Go.ChangeAt Go.RowKit

theorem funInnerDoes (W : World) (p b : Nat) (st st' : St) (h : Does p W 42 (.pointer (some ⟨b, 0, none⟩)) st st') : Does p W 40 (.pointer (some ⟨b, 0, none⟩)) st st' := by
  intro w sl hlo hp
  have D := Lib.hid (h w sl hlo hp)
  clear h hlo hp
  go_enter Tryz.func40, Tryz.ntmps40
  go_wp2_with fail
  refine D.out.mono ?_
  rintro e w1 ⟨rfl, sl1, h1, f1⟩
  have H1 := Lib.hid h1
  have F1 := Lib.hid f1
  clear h1 f1
  go_wp2_with fail
  go_end0
  exact ⟨rfl, sl1, H1.out, F1.out⟩

set_option maxRecDepth 100000 in
set_option maxHeartbeats 2000000 in
/-- A function whose result prints all inner types. -/
theorem funAll (W : World) (p b t rb : Nat) (st st2 : St) (h0 : W.cell? ⟨b, 0, none⟩ = some (.iface t (.pointer (some ⟨rb, 0, none⟩)))) (h2 : W.cell? ⟨b, 2, none⟩ = some (.bool false)) (hb : b < p) (hlen : st.inn.length ≤ 1000000)
    (hE : Prints p W (.iface t (.pointer (some ⟨rb, 0, none⟩))) { st with inn := st.inn ++ [.iface 33 (.pointer (some ⟨b, 0, none⟩))] } st2) (e2 : st2.inn = []) :
    Does p W 39 (.pointer (some ⟨b, 0, none⟩)) st st2 := by
  intro w sl hlo h
  have c0 := (hlo.cell (o := 0) hb).trans h0
  have c2 := (hlo.cell (o := 2) hb).trans h2
  have c8 := h.c8
  have H := Lib.hid h
  have L := Lib.hid hlo
  have HE := Lib.hid hE
  have E2 := Lib.hid e2
  clear h hlo hE h0 h2 e2
  go_enter Tryz.func39, Tryz.ntmps39
  go_wp2_with (first | (at_builtin; refine wpList_pushInn rfl (.tmp 33) (.tmp 36) rfl H.out 33 b rfl rfl hlen ?_; intro gg cap w2 d8 e8 hP2; have P2 := Lib.hid hP2; clear hP2))
  refine (HE.out _ _ (P2.out.2.lo H.out L.out) P2.out.1).mono ?_
  rintro e w3 ⟨rfl, sl3, h3, f3⟩
  obtain ⟨ia, ic, ei⟩ := h3.innForm
  have g8 := h3.c8
  rw [ei, E2.out] at g8
  have H3 := Lib.hid h3
  have F3 := Lib.hid f3
  clear h3 f3 ei
  go_wp2_with fail
  go_end0
  exact ⟨rfl, sl3, H3.out, P2.out.2.trans F3.out⟩

set_option maxRecDepth 100000 in
set_option maxHeartbeats 2000000 in
/-- A function whose result leaves the inner types. -/
theorem funLast (W : World) (p b t rb : Nat) (st st2 st3 : St) (h0 : W.cell? ⟨b, 0, none⟩ = some (.iface t (.pointer (some ⟨rb, 0, none⟩)))) (h2 : W.cell? ⟨b, 2, none⟩ = some (.bool false)) (hb : b < p) (hlen : st.inn.length ≤ 1000000)
    (hE : Prints p W (.iface t (.pointer (some ⟨rb, 0, none⟩))) { st with inn := st.inn ++ [.iface 33 (.pointer (some ⟨b, 0, none⟩))] } st2) (e2 : st2.inn = st.inn ++ [.iface 33 (.pointer (some ⟨b, 0, none⟩))])
    (hl : st2.txt.length + 1 ≤ 140737488355328) (hD : Does p W 42 (.pointer (some ⟨b, 0, none⟩)) (({ st2 with inn := st.inn } : St).wb 32) st3) :
    Does p W 39 (.pointer (some ⟨b, 0, none⟩)) st st3 := by
  intro w sl hlo h
  have c0 := (hlo.cell (o := 0) hb).trans h0
  have c2 := (hlo.cell (o := 2) hb).trans h2
  have c8 := h.c8
  have H := Lib.hid h
  have L := Lib.hid hlo
  have HE := Lib.hid hE
  have HD := Lib.hid hD
  have E2 := Lib.hid e2
  clear h hlo hE h0 h2 e2 hD
  go_enter Tryz.func39, Tryz.ntmps39
  go_wp2_with (first | (at_builtin; refine wpList_pushInn rfl (.tmp 33) (.tmp 36) rfl H.out 33 b rfl rfl hlen ?_; intro gg cap w2 d8 e8 hP2; have P2 := Lib.hid hP2; clear hP2))
  refine (HE.out _ _ (P2.out.2.lo H.out L.out) P2.out.1).mono ?_
  rintro e w3 ⟨rfl, sl3, h3, f3⟩
  have l3 := f3.lo P2.out.1 (P2.out.2.lo H.out L.out)
  obtain ⟨ja, jc, ej, r1, r2, -, hpop⟩ := h3.popInn E2.out
  have m8 := h3.c8
  have n8 := h3.free 8
  rw [ej] at m8
  have H3 := Lib.hid h3
  have F3 := Lib.hid f3
  have L3 := Lib.hid l3
  have PP := Lib.hid hpop
  clear h3 f3 ej hpop l3
  go_wp2_with fail
  go_region
  all_goals
    have HP := Lib.hid PP.out.1.drew.1
    have FP := Lib.hid (PP.out.2.trans PP.out.1.drew.2)
    have LP := Lib.hid (FP.out.lo H3.out L3.out)
    go_wp2_with fail
    refine (writeByteC _ p _ _ 32 HP.out hl).mono ?_
    rintro e w4 ⟨rfl, sl4, h4, f4⟩
    have H4 := Lib.hid h4
    have F4 := Lib.hid f4
    have L4 := Lib.hid (f4.lo HP.out LP.out)
    clear h4 f4
    go_wp2_with fail
    refine (HD.out _ _ L4.out H4.out).mono ?_
    rintro e w5 ⟨rfl, sl5, h5, f5⟩
    have H5 := Lib.hid h5
    have F5 := Lib.hid f5
    clear h5 f5
    go_wp2_with fail
    go_end0
    exact ⟨rfl, sl5, H5.out, P2.out.2.trans (F3.out.trans (FP.out.trans (F4.out.trans F5.out)))⟩

set_option maxRecDepth 100000 in
set_option maxHeartbeats 2000000 in
/-- A function without a result. -/
theorem funNil (W : World) (p b : Nat) (st st3 : St) (h0 : W.cell? ⟨b, 0, none⟩ = some .nilIface) (h2 : W.cell? ⟨b, 2, none⟩ = some (.bool false)) (hb : b < p)
    (hD : Does p W 42 (.pointer (some ⟨b, 0, none⟩)) st st3) : Does p W 39 (.pointer (some ⟨b, 0, none⟩)) st st3 := by
  intro w sl hlo h
  have c0 := (hlo.cell (o := 0) hb).trans h0
  have c2 := (hlo.cell (o := 2) hb).trans h2
  have D := Lib.hid (hD w sl hlo h)
  clear h hlo hD h0 h2
  go_enter Tryz.func39, Tryz.ntmps39
  go_wp2_with fail
  refine D.out.mono ?_
  rintro e w5 ⟨rfl, sl5, h5, f5⟩
  have H5 := Lib.hid h5
  have F5 := Lib.hid f5
  clear h5 f5
  go_wp2_with fail
  go_end0
  exact ⟨rfl, sl5, H5.out, F5.out⟩
end Go.Proofs.YtkofdhhkhcdeoaaGreat
