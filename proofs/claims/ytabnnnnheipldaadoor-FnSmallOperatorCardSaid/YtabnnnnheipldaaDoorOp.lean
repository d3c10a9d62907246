/- laws.FnSmallOperator returns true; conditions: the table of the operators holds what the program lays. -/
import Derived.Test.YtabnnnnheipldaaDoorStr
import Derived.Test.YtabnnnnheipldaaDoorBase
import Derived.Lib.Strings
namespace Go.Proofs.YtabnnnnheipldaaDoor
open Go.ChangeShapes Go.WideShapes Go.ChangeAt Go.RowKit

/-- Texts that the law's table may hold. -/
def FineOp (s : ByteArray) : Prop := 0 < s.size ∧ s.size ≤ 1000 ∧ (s.extract (s.size - 1) s.size).toList ≠ [32]

/-- The table of the operators in memory. -/
def Tab (w : World) : Prop := ∀ r : Nat, r < 42 → ∃ s, w.cell? ⟨0, r * 2 + 1, none⟩ = some (.string s) ∧ FineOp s

theorem trimNo (s : ByteArray) (w : World) (h : FineOp s) : Calls Tryd.prog 31 #[.string s, .string ⟨#[32]⟩] w fun e w' => e = .returned (.string s) ∧ w = w' := by
  obtain ⟨h0, h1, h2⟩ := h
  have h3 : ((s.extract (s.size - 1) s.size).toList == [32]) = false := by simpa using h2
  clear h2
  go_enter Tryd.func31, Tryd.ntmps31
  go_wp2
  go_ret
  exact ⟨rfl, rfl⟩

def lowB (c : UInt8) : Bool := decide (97 ≤ (c.toNat : Int) ∧ (c.toNat : Int) ≤ 122)

theorem isLowerC (c : UInt8) (w : World) : Calls Tryd.prog 29 #[.int .u8 c.toNat] w fun e w' => e = .returned (.bool (lowB c)) ∧ w = w' := by
  by_cases h1 : 97 ≤ (c.toNat : Int)
  · by_cases h2 : (c.toNat : Int) ≤ 122
    · go_enter Tryd.func29, Tryd.ntmps29
      go_wp2
      go_ret
      exact ⟨by simp [lowB, h1, h2], rfl⟩
    · go_enter Tryd.func29, Tryd.ntmps29
      go_wp2
      go_ret
      exact ⟨by simp [lowB]; intro h; omega, rfl⟩
  · go_enter Tryd.func29, Tryd.ntmps29
    go_wp2
    go_ret
    exact ⟨by simp [lowB]; intro h; omega, rfl⟩

theorem opAt (n : Nat) (hn : n < 42) (s : ByteArray) (w : World) (hc : w.cell? ⟨0, n * 2 + 1, none⟩ = some (.string s)) :
    Calls Tryd.prog 4 #[.int .i64 n] w fun e w' => e = .returned (.tuple #[.string s, .int .i64 42]) ∧ w = w' := by
  have e1 : ((n : Int) % 42) = (n : Int) := by omega
  have e2 : ((n : Int) * 2 + 1).toNat = n * 2 + 1 := by omega
  go_enter Tryd.func4, Tryd.ntmps4
  go_wp2
  go_ret2
  exact ⟨rfl, rfl⟩

theorem isOperator (b : Nat) : IsAst (.iface 29 (.pointer (some ⟨b, 0, none⟩))) 29 b 27 := ⟨rfl, fun _ _ => by kernel_rfl, fun _ _ => by kernel_rfl, fun _ _ _ => by kernel_rfl⟩

def kOp : ByteArray := ⟨#[111, 112, 101, 114, 97, 116, 111, 114]⟩

/-- The state behind a byte that is written. -/
def St.wb (st : St) (b : UInt8) : St := { st with txt := st.txt ++ [b], last := b }

set_option maxRecDepth 100000 in
set_option maxHeartbeats 1000000 in
theorem opDoes (W : World) (p b : Nat) (s : ByteArray) (st : St) (hf : FineOp s) (hb : W.cell? ⟨b, 0, none⟩ = some (.string s)) (hbp : b < p) (hl : st.txt.length + s.size ≤ 140737488000000) (h0 : 0 < s.size) (hlow : lowB (s[0]'h0) = true) :
    Does p W 27 (.pointer (some ⟨b, 0, none⟩)) st (((st.wr kOp).wb 32).wr s) := by
  intro w sl hlo h
  have hc := (hlo.cell (o := 0) hbp).trans hb
  have z : kOp.size = 8 := rfl
  have e1 : st.txt.length + kOp.size ≤ 140737488355328 := by omega
  have e2 : (st.wr kOp).txt.length + 1 ≤ 140737488355328 := by show (st.txt ++ _).length + 1 ≤ _; rw [text_len]; omega
  have e3 : ((st.wr kOp).wb 32).txt.length + s.size ≤ 140737488355328 := by show ((st.txt ++ kOp.data.toList) ++ [32]).length + _ ≤ _; rw [List.length_append, text_len]; simp; omega
  have H := Lib.hid h
  have HF := Lib.hid hf
  clear h hb z hf
  have L := Lib.hid hlo
  clear hlo
  go_enter Tryd.func27, Tryd.ntmps27
  go_wp2_with fail
  refine (writeStringC w p st sl kOp H.out e1).mono ?_
  rintro e w1 ⟨rfl, sl1, h1, f1⟩
  have l1 := f1.lo H.out L.out
  have c1 := (l1.cell (o := 0) hbp).trans ((L.out.cell (o := 0) hbp).symm.trans hc)
  have H1 := Lib.hid h1
  have F1 := Lib.hid f1
  have L1 := Lib.hid l1
  clear h1 f1 l1
  go_wp2_with fail
  refine (isLowerC _ _).mono ?_
  rintro e w2 ⟨rfl, rfl⟩
  go_wp2_with fail
  refine (writeByteC w1 p _ sl1 32 H1.out e2).mono ?_
  rintro e w2 ⟨rfl, sl2, h2, f2⟩
  have l2 := f2.lo H1.out L1.out
  have c2 := (l2.cell (o := 0) hbp).trans ((L1.out.cell (o := 0) hbp).symm.trans c1)
  have H2 := Lib.hid h2
  have F2 := Lib.hid f2
  have L2 := Lib.hid l2
  clear h2 f2 l2
  go_wp2_with fail
  refine (trimNo s w2 HF.out).mono ?_
  rintro e w3 ⟨rfl, rfl⟩
  go_wp2_with fail
  refine (writeStringC w2 p _ sl2 s H2.out e3).mono ?_
  rintro e w3 ⟨rfl, sl3, h3, f3⟩
  have H3 := Lib.hid h3
  have F3 := Lib.hid f3
  clear h3 f3
  go_wp2_with fail
  go_end0
  exact ⟨rfl, sl3, H3.out, F1.out.trans (F2.out.trans F3.out)⟩

set_option maxRecDepth 100000 in
set_option maxHeartbeats 1000000 in
theorem opDoesNot (W : World) (p b : Nat) (s : ByteArray) (st : St) (hf : FineOp s) (hb : W.cell? ⟨b, 0, none⟩ = some (.string s)) (hbp : b < p) (hl : st.txt.length + s.size ≤ 140737488000000) (h0 : 0 < s.size) (hlow : lowB (s[0]'h0) = false) :
    Does p W 27 (.pointer (some ⟨b, 0, none⟩)) st ((st.wr kOp).wr s) := by
  intro w sl hlo h
  have hc := (hlo.cell (o := 0) hbp).trans hb
  have z : kOp.size = 8 := rfl
  have e1 : st.txt.length + kOp.size ≤ 140737488355328 := by omega
  have e3 : (st.wr kOp).txt.length + s.size ≤ 140737488355328 := by show (st.txt ++ _).length + _ ≤ _; rw [text_len]; omega
  have H := Lib.hid h
  have HF := Lib.hid hf
  clear h hb z hf
  have L := Lib.hid hlo
  clear hlo
  go_enter Tryd.func27, Tryd.ntmps27
  go_wp2_with fail
  refine (writeStringC w p st sl kOp H.out e1).mono ?_
  rintro e w1 ⟨rfl, sl1, h1, f1⟩
  have l1 := f1.lo H.out L.out
  have c1 := (l1.cell (o := 0) hbp).trans ((L.out.cell (o := 0) hbp).symm.trans hc)
  have H1 := Lib.hid h1
  have F1 := Lib.hid f1
  have L1 := Lib.hid l1
  clear h1 f1 l1
  go_wp2_with fail
  refine (isLowerC _ _).mono ?_
  rintro e w2 ⟨rfl, rfl⟩
  go_wp2_with fail
  refine (trimNo s w1 HF.out).mono ?_
  rintro e w3 ⟨rfl, rfl⟩
  go_wp2_with fail
  refine (writeStringC w1 p _ sl1 s H1.out e3).mono ?_
  rintro e w3 ⟨rfl, sl3, h3, f3⟩
  have H3 := Lib.hid h3
  have F3 := Lib.hid f3
  clear h3 f3
  go_wp2_with fail
  go_end0
  exact ⟨rfl, sl3, H3.out, F1.out.trans F3.out⟩

/-- What PrintOperator says. -/
def opText (s : ByteArray) (low : Bool) : ByteArray := if low then (⟨#[111, 112, 101, 114, 97, 116, 111, 114, 32]⟩ : ByteArray) ++ s else (⟨#[111, 112, 101, 114, 97, 116, 111, 114]⟩ : ByteArray) ++ s

theorem ofTxt_low (s : ByteArray) : (⟨(((st0.wr kOp).wb 32).wr s).txt.toArray⟩ : ByteArray) = opText s true := by
  apply ByteArray.ext
  unfold opText
  rw [if_pos rfl, ByteArray.data_append]
  apply Array.ext'
  simp [St.wr, St.wb, st0, kOp]
theorem ofTxt_not (s : ByteArray) : (⟨((st0.wr kOp).wr s).txt.toArray⟩ : ByteArray) = opText s false := by
  apply ByteArray.ext
  unfold opText
  rw [if_neg (by decide), ByteArray.data_append]
  apply Array.ext'
  simp [St.wr, st0, kOp]

def OpSaid (s : ByteArray) (w : World) (e : Ending) (w' : World) : Prop := e = .returned (.string s) ∧ Below w.heap.size w w'

theorem opKey (s : ByteArray) (w : World) (low : Bool) (hf : FineOp s) (h0 : 0 < s.size) (hlow : lowB (s[0]'h0) = low) :
    Calls Tryd.prog 7 #[.iface 29 (.pointer (some ⟨w.heap.size, 0, none⟩)), .slice none 0 0] (w.alloc (.cells #[.string s, .int .i64 0] 32)) (OpSaid (opText s low) (w.alloc (.cells #[.string s, .int .i64 0] 32))) := by
  have hc : (w.alloc (.cells #[.string s, .int .i64 0] 32)).cell? ⟨w.heap.size, 0, none⟩ = some (.string s) := (World.cell?_alloc_at (w := w) _ _ _ _ rfl).trans (by simp)
  cases low
  · rw [← ofTxt_not]
    exact toStringC _ _ _ w.heap.size _ _ (isOperator _) (opDoesNot _ _ w.heap.size s st0 hf hc (by simp) (by have := hf.2.1; simp [st0]; omega) h0 hlow)
  · rw [← ofTxt_low]
    exact toStringC _ _ _ w.heap.size _ _ (isOperator _) (opDoes _ _ w.heap.size s st0 hf hc (by simp) (by have := hf.2.1; simp [st0]; omega) h0 hlow)

set_option maxHeartbeats 1000000 in
theorem printOpC (s : ByteArray) (w : World) (low : Bool) (hf : FineOp s) (h0 : 0 < s.size) (hlow : lowB (s[0]'h0) = low) :
    Calls Tryd.prog 6 #[.string s] w (OpSaid (opText s low) w) := by
  have key := opKey s w low hf h0 hlow
  have K := Lib.hid key
  clear key hf hlow
  go_enter Tryd.func6, Tryd.ntmps6
  go_wp2_with fail
  refine K.out.mono ?_
  rintro e w1 ⟨rfl, hb⟩
  have B := Lib.hid hb
  clear hb
  go_wp2_with fail
  go_ret
  exact ⟨rfl, ((Below.refl _ _).alloc (Nat.le_refl _) _).trans (B.out.mono (by simp))⟩
end Go.Proofs.YtabnnnnheipldaaDoor
