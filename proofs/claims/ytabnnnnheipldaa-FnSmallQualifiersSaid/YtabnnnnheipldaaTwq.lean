/- TypeWithQualifiers: its print method, impl.words and impl.PrintQualifiers; conditions: a million qualifiers and fewer than 2^47 bytes. -/
import Derived.Test.YtabnnnnheipldaaInner
import Derived.Test.YtabnnnnheipldaaQual
namespace Go.Proofs.Ytabnnnnheipldaa
open Go.ChangeShapes Go.WideShapes Go.ChangeAt Go.RowKit

set_option maxRecDepth 100000 in
set_option maxHeartbeats 2000000 in
theorem twqDoes (W : World) (p b : Nat) (base quals : Value) (st st2 st4 : St) (l2 l4 : List Value) (x2 x4 : Value) (h0 : W.cell? ⟨b, 0, none⟩ = some base) (h1 : W.cell? ⟨b, 1, none⟩ = some quals) (hb : b < p)
    (hB : Prints p W base { st with inn := st.inn ++ [.iface 55 (.pointer (some ⟨b, 0, none⟩))] } st2) (e2 : st2.inn = l2 ++ [x2]) (hQ : Prints p W quals (st2.wb 32) st4) (e4 : st4.inn = l4 ++ [x4])
    (hlen : st.inn.length ≤ 1000000) (hl : st2.txt.length + 1 ≤ 140737488355328) :
    Does p W 88 (.pointer (some ⟨b, 0, none⟩)) st { st4 with inn := l4 } := by
  intro w sl hlo h
  have c0 := (hlo.cell (o := 0) hb).trans h0
  have c8 := h.c8
  have H := Lib.hid h
  have L := Lib.hid hlo
  have HB := Lib.hid hB
  have HQ := Lib.hid hQ
  have W1 := Lib.hid h1
  have E2 := Lib.hid e2
  have E4 := Lib.hid e4
  clear h hlo hB hQ h0 h1 e2 e4
  go_enter Try.func88, Try.ntmps88
  go_wp2_with (first | (at_builtin; refine wpList_pushInn rfl (.tmp 8) (.tmp 11) rfl H.out 55 b rfl rfl hlen ?_; intro gg cap w2 d8 e8 hP2; have d0 := ((hP2.2.lo H.out L.out).cell (o := 0) hb).trans ((L.out.cell (o := 0) hb).symm.trans c0); have P2 := Lib.hid hP2; clear hP2))
  refine (HB.out _ _ (P2.out.2.lo H.out L.out) P2.out.1).mono ?_
  rintro e w3 ⟨rfl, sl3, h3, f3⟩
  have l3 := f3.lo P2.out.1 (P2.out.2.lo H.out L.out)
  obtain ⟨ia, ic, ei, q1, q2, -, -⟩ := h3.popInn E2.out
  have g8 := h3.c8
  rw [ei] at g8
  have g1 := (l3.cell (o := 1) hb).trans W1.out
  have H3 := Lib.hid h3
  have F3 := Lib.hid f3
  have L3 := Lib.hid l3
  clear h3 f3 l3 ei
  go_wp2_with fail
  refine (writeByteC w3 p st2 sl3 32 H3.out hl).mono ?_
  rintro e w4 ⟨rfl, sl4, h4, f4⟩
  have l4' := f4.lo H3.out L3.out
  have k1 := (l4'.cell (o := 1) hb).trans W1.out
  have H4 := Lib.hid h4
  have F4 := Lib.hid f4
  have L4 := Lib.hid l4'
  clear h4 f4 l4'
  go_wp2_with fail
  refine (HQ.out w4 sl4 L4.out H4.out).mono ?_
  rintro e w5 ⟨rfl, sl5, h5, f5⟩
  obtain ⟨ja, jc, ej, r1, r2, -, hpop⟩ := h5.popInn E4.out
  have m8 := h5.c8
  have n8 := h5.free 8
  rw [ej] at m8
  have F5 := Lib.hid f5
  have PP := Lib.hid hpop
  clear h5 f5 ej hpop
  go_wp2_with fail
  go_region
  all_goals go_wp2
  all_goals go_end0
  all_goals exact ⟨rfl, _, PP.out.1.drew.1, P2.out.2.trans (F3.out.trans (F4.out.trans (F5.out.trans (PP.out.2.trans PP.out.1.drew.2))))⟩
end Go.Proofs.Ytabnnnnheipldaa
