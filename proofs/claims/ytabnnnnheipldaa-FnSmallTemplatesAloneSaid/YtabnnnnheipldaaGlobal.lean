/- laws.FnSmallGlobal returns true, for every input; conditions: none. -/
import Derived.Test.YtabnnnnheipldaaPrint
import Derived.Test.YtabnnnnheipldaaName
namespace Go.Proofs.Ytabnnnnheipldaa
open Go.ChangeShapes Go.WideShapes Go.ChangeAt Go.RowKit

theorem wr_len (st : St) (s : ByteArray) : (st.wr s).txt.length = st.txt.length + s.size := text_len st.txt s

theorem fresh_nil (p : Nat) (W : World) (v : Value) : Fresh p W [] v := fun x h => by cases h

theorem printsName (W : World) (p b : Nat) (s : ByteArray) (st : St) (hb : W.cell? ⟨b, 0, none⟩ = some (.string s)) (hbp : b < p) (hl : st.txt.length + s.size ≤ 140737488355328) (hlen : st.prt.length ≤ 1000000)
    (hf : Fresh p W st.prt (.iface 79 (.pointer (some ⟨b, 0, none⟩)))) : Prints p W (.iface 79 (.pointer (some ⟨b, 0, none⟩))) st (st.wr s) :=
  prints_of W p _ _ b _ st (st.wr s) (isName b) hf hlen (nameDoes W p b s { st with prt := st.prt ++ [_] } hb hbp hl)

theorem isGlobal (b : Nat) : IsAst (.iface 49 (.pointer (some ⟨b, 0, none⟩))) 49 b 77 := ⟨rfl, fun _ _ => by kernel_rfl, fun _ _ => by kernel_rfl, fun _ _ _ => by kernel_rfl⟩

def kGlobal : ByteArray := ⟨#[103, 108, 111, 98, 97, 108, 32]⟩
def kCon : ByteArray := ⟨#[99, 111, 110, 115, 116, 114, 117, 99, 116, 111, 114, 115]⟩
def kDes : ByteArray := ⟨#[100, 101, 115, 116, 114, 117, 99, 116, 111, 114, 115]⟩
def kKeyed : ByteArray := ⟨#[32, 107, 101, 121, 101, 100, 32, 116, 111, 32]⟩
def kWhich (b : Bool) : ByteArray := if b then kCon else kDes

theorem kGlobal_size : kGlobal.size = 7 := rfl
theorem kKeyed_size : kKeyed.size = 10 := rfl
theorem kWhich_size (c : Bool) : (kWhich c).size ≤ 12 := by cases c <;> decide

set_option maxRecDepth 100000 in
set_option maxHeartbeats 1000000 in
theorem globalDoes (W : World) (p b bn : Nat) (c : Bool) (s : ByteArray) (st : St) (h0 : W.cell? ⟨b, 0, none⟩ = some (.bool c)) (h1 : W.cell? ⟨b, 1, none⟩ = some (.iface 79 (.pointer (some ⟨bn, 0, none⟩)))) (hn : W.cell? ⟨bn, 0, none⟩ = some (.string s))
    (hb : b < p) (hbn : bn < p) (hl : st.txt.length + s.size ≤ 140737488000000) (hprt : st.prt = []) :
    Does p W 77 (.pointer (some ⟨b, 0, none⟩)) st ((((st.wr kGlobal).wr (kWhich c)).wr kKeyed).wr s) := by
  intro w sl hlo h
  have c0 := (hlo.cell (o := 0) hb).trans h0
  have c1 := (hlo.cell (o := 1) hb).trans h1
  have z1 := kGlobal_size
  have z2 := kWhich_size c
  have z3 := kKeyed_size
  have e1 : st.txt.length + kGlobal.size ≤ 140737488355328 := by omega
  have e2 : (st.wr kGlobal).txt.length + (kWhich c).size ≤ 140737488355328 := by rw [wr_len]; omega
  have e3 : ((st.wr kGlobal).wr (kWhich c)).txt.length + kKeyed.size ≤ 140737488355328 := by rw [wr_len, wr_len]; omega
  have hp : (((st.wr kGlobal).wr (kWhich c)).wr kKeyed).prt = [] := hprt
  have hx := printsName W p bn s (((st.wr kGlobal).wr (kWhich c)).wr kKeyed) hn hbn (by rw [wr_len, wr_len, wr_len]; omega) (by rw [hp]; simp) (by rw [hp]; exact fresh_nil _ _ _)
  clear z1 z2 z3 hp
  have X := Lib.hid hx
  have H := Lib.hid h
  have L := Lib.hid hlo
  clear h hlo hx h0 h1 hprt hl
  cases c
  all_goals
    go_enter Try.func77, Try.ntmps77
    go_wp2_with fail
    refine (writeStringC w p st sl kGlobal H.out e1).mono ?_
    rintro e w1 ⟨rfl, sl1, h1, f1⟩
    have l1 := f1.lo H.out L.out
    have d0 := (l1.cell (o := 0) hb).trans ((L.out.cell (o := 0) hb).symm.trans c0)
    have d1 := (l1.cell (o := 1) hb).trans ((L.out.cell (o := 1) hb).symm.trans c1)
    have H1 := Lib.hid h1
    have F1 := Lib.hid f1
    have L1 := Lib.hid l1
    clear h1 f1 l1
    go_wp2_with fail
    refine (writeStringC w1 p _ sl1 (kWhich _) H1.out e2).mono ?_
    rintro e w2 ⟨rfl, sl2, h2, f2⟩
    have l2 := f2.lo H1.out L1.out
    have H2 := Lib.hid h2
    have F2 := Lib.hid f2
    have L2 := Lib.hid l2
    clear h2 f2 l2
    go_wp2_with fail
    refine (writeStringC w2 p _ sl2 kKeyed H2.out e3).mono ?_
    rintro e w3 ⟨rfl, sl3, h3, f3⟩
    have l3 := f3.lo H2.out L2.out
    have g1 := (l3.cell (o := 1) hb).trans ((L1.out.cell (o := 1) hb).symm.trans d1)
    have H3 := Lib.hid h3
    have F3 := Lib.hid f3
    have L3 := Lib.hid l3
    clear h3 f3 l3
    go_wp2_with fail
    refine (X.out w3 sl3 L3.out H3.out).mono ?_
    rintro e w4 ⟨rfl, sl4, h4, f4⟩
    have H4 := Lib.hid h4
    have F4 := Lib.hid f4
    clear h4 f4
    go_wp2_with fail
    go_end0
    exact ⟨rfl, sl4, H4.out, F1.out.trans (F2.out.trans (F3.out.trans F4.out))⟩

/-- Texts as byte arrays. -/
def ofL (l : List UInt8) : ByteArray := ⟨l.toArray⟩

set_option maxRecDepth 100000 in
set_option maxHeartbeats 1000000 in
theorem printGlobalC (s : ByteArray) (c : Bool) (w : World) (hs : s.size ≤ 2147483647) :
    Calls Try.prog 14 #[.string s, .bool c] w (Says (ofL ((((st0.wr kGlobal).wr (kWhich c)).wr kKeyed).wr s).txt) w) := by
  have key := toStringC ((w.alloc (.cells #[.string s] 81)).alloc (.cells #[.bool c, .iface 79 (.pointer (some ⟨w.heap.size, 0, none⟩))] 51)) _ _ (w.heap.size + 1) _ _ (isGlobal _)
    (globalDoes _ _ (w.heap.size + 1) w.heap.size c s st0 ((World.cell?_alloc_at (w := w.alloc _) _ _ _ _ (by simp)).trans (by simp)) ((World.cell?_alloc_at (w := w.alloc _) _ _ _ _ (by simp)).trans (by simp))
      ((World.cell?_alloc_past (w := w.alloc _) _ _ _ (by simp)).trans ((World.cell?_alloc_at (w := w) _ _ _ _ rfl).trans (by simp))) (by simp) (by simp; omega) (by simp [st0]; omega) rfl)
  have K := Lib.hid key
  clear key
  go_enter Try.func14, Try.ntmps14
  go_wp2_with (first | (go_at_call 29; refine (nameC _ _).mono ?_; rintro e w' ⟨rfl, rfl⟩) | (go_at_call 28; refine K.out.mono ?_; rintro e w2 ⟨rfl, hb⟩; have B := Lib.hid hb; clear hb))
  go_ret
  exact ⟨rfl, (((Below.refl _ _).alloc (Nat.le_refl _) _).alloc (by simp) _).trans (B.out.mono (by simp; omega))⟩

theorem gl_true (s : ByteArray) : ofL ((((st0.wr kGlobal).wr (kWhich true)).wr kKeyed).wr s).txt = (⟨#[103, 108, 111, 98, 97, 108, 32, 99, 111, 110, 115, 116, 114, 117, 99, 116, 111, 114, 115, 32, 107, 101, 121, 101, 100, 32, 116, 111, 32]⟩ : ByteArray) ++ s := by
  apply ByteArray.ext
  rw [ByteArray.data_append]
  apply Array.ext'
  simp [ofL, St.wr, st0, kGlobal, kWhich, kCon, kKeyed]
theorem gl_false (s : ByteArray) : ofL ((((st0.wr kGlobal).wr (kWhich false)).wr kKeyed).wr s).txt = (⟨#[103, 108, 111, 98, 97, 108, 32, 100, 101, 115, 116, 114, 117, 99, 116, 111, 114, 115, 32, 107, 101, 121, 101, 100, 32, 116, 111, 32]⟩ : ByteArray) ++ s := by
  apply ByteArray.ext
  rw [ByteArray.data_append]
  apply Array.ext'
  simp [ofL, St.wr, st0, kGlobal, kWhich, kDes, kKeyed]

theorem printGlobalT (s : ByteArray) (w : World) (hs : s.size ≤ 2147483647) :
    Calls Try.prog 14 #[.string s, .bool true] w (Says ((⟨#[103, 108, 111, 98, 97, 108, 32, 99, 111, 110, 115, 116, 114, 117, 99, 116, 111, 114, 115, 32, 107, 101, 121, 101, 100, 32, 116, 111, 32]⟩ : ByteArray) ++ s) w) := by
  have := printGlobalC s true w hs
  rwa [gl_true] at this
theorem printGlobalF (s : ByteArray) (w : World) (hs : s.size ≤ 2147483647) :
    Calls Try.prog 14 #[.string s, .bool false] w (Says ((⟨#[103, 108, 111, 98, 97, 108, 32, 100, 101, 115, 116, 114, 117, 99, 116, 111, 114, 115, 32, 107, 101, 121, 101, 100, 32, 116, 111, 32]⟩ : ByteArray) ++ s) w) := by
  have := printGlobalC s false w hs
  rwa [gl_false] at this

set_option maxRecDepth 100000 in
set_option maxHeartbeats 1000000 in
theorem law_global (s : ByteArray) (hs : s.size ≤ maxLen) {w : World} : Calls Try.prog 4 #[.string s] w (True1 w) := by
  unfold maxLen at hs
  by_cases h1 : 2147483647 < s.size
  · go_enter Try.func4, Try.ntmps4
    go_wp2_with fail
    go_ret
    exact ⟨rfl, Below.refl _ _⟩
  · have hle : s.size ≤ 2147483647 := by omega
    go_enter Try.func4, Try.ntmps4
    go_wp2_with fail
    refine (printGlobalT s _ hle).mono ?_
    rintro e w1 ⟨rfl, hb1⟩
    have B1 := Lib.hid hb1
    clear hb1
    go_wp2_with fail
    refine (printGlobalF s _ hle).mono ?_
    rintro e w2 ⟨rfl, hb2⟩
    have B2 := Lib.hid hb2
    clear hb2
    go_wp2_with fail
    go_ret
    exact ⟨rfl, B1.out.trans (B2.out.mono B1.out.size)⟩
end Go.Proofs.Ytabnnnnheipldaa
