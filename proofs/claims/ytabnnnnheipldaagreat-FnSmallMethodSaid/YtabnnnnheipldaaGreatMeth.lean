/- MethodWithQualifiers.print; conditions: fewer than 2^47 bytes, a million inner types at most. -/
import Derived.Test.YtabnnnnheipldaaGreatTyped
import Derived.Test.YtabnnnnheipldaaGreatQs
namespace Go.Proofs.YtabnnnnheipldaaGreat
open Go.ChangeShapes Go.WideShapes Go.ChangeAt Go.RowKit

theorem isMethod (b : Nat) : IsAst (.iface 44 (.pointer (some ⟨b, 0, none⟩))) 44 b 65 := ⟨rfl, fun _ _ => by kernel_rfl, fun _ _ => by kernel_rfl, fun _ _ _ => by kernel_rfl⟩

/-- The state behind a reference qualifier. -/
def St.ref (s : St) (r : ByteArray) : St := if r.size = 0 then s else (s.wb 32).wr r

set_option maxRecDepth 100000 in
set_option maxHeartbeats 4000000 in
theorem mwqDoes (W : World) (p b t tb tq bq : Nat) (r : ByteArray) (st st2 st3 : St) (h0 : W.cell? ⟨b, 0, none⟩ = some (.iface t (.pointer (some ⟨tb, 0, none⟩)))) (h1 : W.cell? ⟨b, 1, none⟩ = some (.iface tq (.pointer (some ⟨bq, 0, none⟩)))) (h2 : W.cell? ⟨b, 2, none⟩ = some (.string r)) (hb : b < p) (hr : r.size ≤ 100) (hlen : st.inn.length ≤ 1000000)
    (hM : Prints p W (.iface t (.pointer (some ⟨tb, 0, none⟩))) { st with inn := st.inn ++ [.iface 44 (.pointer (some ⟨b, 0, none⟩))] } st2) (e2 : st2.inn = st.inn ++ [.iface 44 (.pointer (some ⟨b, 0, none⟩))])
    (hQ : Prints p W (.iface tq (.pointer (some ⟨bq, 0, none⟩))) (st2.wb 32) st3) (e3 : st3.inn = st.inn ++ [.iface 44 (.pointer (some ⟨b, 0, none⟩))]) (hl2 : st2.txt.length + 1 ≤ 140737488355328) (hl3 : st3.txt.length + 200 ≤ 140737488355328) :
    Does p W 65 (.pointer (some ⟨b, 0, none⟩)) st { st3.ref r with inn := st.inn } := by
  intro w sl hlo h
  have c0 := (hlo.cell (o := 0) hb).trans h0
  have c8 := h.c8
  have H := Lib.hid h
  have L := Lib.hid hlo
  have M := Lib.hid hM
  have Q := Lib.hid hQ
  have W1 := Lib.hid h1
  have W2 := Lib.hid h2
  have E2 := Lib.hid e2
  have E3 := Lib.hid e3
  clear h hlo hM hQ h0 h1 h2 e2 e3
  go_enter Tryz.func65, Tryz.ntmps65
  go_wp2_with (first | (at_builtin; refine wpList_pushInn rfl (.tmp 8) (.tmp 11) rfl H.out 44 b rfl rfl hlen ?_; intro gg cap w2 d8 e8 hP2; have d0 := ((hP2.2.lo H.out L.out).cell (o := 0) hb).trans ((L.out.cell (o := 0) hb).symm.trans c0); have P2 := Lib.hid hP2; clear hP2))
  refine (M.out _ _ (P2.out.2.lo H.out L.out) P2.out.1).mono ?_
  rintro e w3 ⟨rfl, sl3, h3, f3⟩
  have l3 := f3.lo P2.out.1 (P2.out.2.lo H.out L.out)
  obtain ⟨ia, ic, ei, q1, q2, -, -⟩ := h3.popInn E2.out
  have g8 := h3.c8
  rw [ei] at g8
  have g1 := (l3.cell (o := 1) hb).trans W1.out
  have H3 := Lib.hid h3
  have F3 := Lib.hid f3
  have L3 := Lib.hid l3
  clear h3 f3 l3 ei
  go_wp2_with fail
  refine (writeByteC w3 p st2 sl3 32 H3.out hl2).mono ?_
  rintro e w4 ⟨rfl, sl4, h4, f4⟩
  have l4' := f4.lo H3.out L3.out
  have k1 := (l4'.cell (o := 1) hb).trans W1.out
  have H4 := Lib.hid h4
  have F4 := Lib.hid f4
  have L4 := Lib.hid l4'
  clear h4 f4 l4' g1 g8
  go_wp2_with fail
  refine (Q.out w4 sl4 L4.out H4.out).mono ?_
  rintro e w5 ⟨rfl, sl5, h5, f5⟩
  have L5 := Lib.hid (f5.lo H4.out L4.out)
  have k2 := (L5.out.cell (o := 2) hb).trans W2.out
  have H5 := Lib.hid h5
  have F5 := Lib.hid f5
  clear h5 f5 k1
  by_cases h0 : r.size = 0
  · have hre : r.toList.isEmpty = true := by
      rw [ByteArray.toList_eq]
      cases hr2 : r.data.toList with
      | nil => rfl
      | cons x y => have := congrArg List.length hr2; rw [size_list, h0] at this; simp at this
    have eref : st3.ref r = st3 := if_pos h0
    obtain ⟨ja, jc, ej, r1, r2, -, hpop⟩ := H5.out.popInn E3.out
    have m8 := H5.out.c8
    have n8 := H5.out.free 8
    rw [ej] at m8
    have PP := Lib.hid hpop
    have ER := Lib.hid eref
    clear ej hpop eref
    go_wp2_with fail
    go_region
    all_goals go_wp2
    all_goals go_end0
    all_goals rw [ER.out]
    all_goals exact ⟨rfl, _, PP.out.1.drew.1, P2.out.2.trans (F3.out.trans (F4.out.trans (F5.out.trans (PP.out.2.trans PP.out.1.drew.2))))⟩
  · have hre : r.toList.isEmpty = false := not_empty (by omega)
    have eref : st3.ref r = (st3.wb 32).wr r := if_neg h0
    have ER := Lib.hid eref
    clear eref h0
    go_wp2_with fail
    refine (writeByteC w5 p st3 sl5 32 H5.out (by omega)).mono ?_
    rintro e w6 ⟨rfl, sl6, h6, f6⟩
    have L6 := Lib.hid (f6.lo H5.out L5.out)
    have k3 := (L6.out.cell (o := 2) hb).trans W2.out
    have H6 := Lib.hid h6
    have F6 := Lib.hid f6
    clear h6 f6 k2
    go_wp2_with fail
    refine (writeStringC w6 p _ sl6 r H6.out (by simp; omega)).mono ?_
    rintro e w7 ⟨rfl, sl7, h7, f7⟩
    obtain ⟨ja, jc, ej, r1, r2, -, hpop⟩ := h7.popInn (l := st.inn) (x := .iface 44 (.pointer (some ⟨b, 0, none⟩))) E3.out
    have m8 := h7.c8
    have n8 := h7.free 8
    rw [ej] at m8
    have PP := Lib.hid hpop
    have F7 := Lib.hid f7
    clear ej hpop h7 f7 k3
    go_wp2_with fail
    go_region
    all_goals go_wp2
    all_goals go_end0
    all_goals rw [ER.out]
    all_goals exact ⟨rfl, _, PP.out.1.drew.1, P2.out.2.trans (F3.out.trans (F4.out.trans (F5.out.trans (F6.out.trans (F7.out.trans (PP.out.2.trans PP.out.1.drew.2))))))⟩
end Go.Proofs.YtabnnnnheipldaaGreat
