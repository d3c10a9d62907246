/- Qualifiers: what impl.words makes, and what the print methods of Qualifier, Qualifiers and TypeWithQualifiers write; conditions: fewer than 2^47 bytes. -/
import Derived.Test.YtabnnnnheipldaaGreatGen
namespace Go.Proofs.YtabnnnnheipldaaGreat
open Go.ChangeShapes Go.WideShapes Go.ChangeAt Go.RowKit

/-- The state behind a byte that is written. -/
def St.wb (st : St) (b : UInt8) : St := { st with txt := st.txt ++ [b], last := b }
theorem wb_len (st : St) (b : UInt8) : (st.wb b).txt.length = st.txt.length + 1 := by simp [St.wb]

theorem isQualifier (b : Nat) : IsAst (.iface 73 (.pointer (some ⟨b, 0, none⟩))) 73 b 79 := ⟨rfl, fun _ _ => by kernel_rfl, fun _ _ => by kernel_rfl, fun _ _ _ => by kernel_rfl⟩
theorem isQualifiers (b : Nat) : IsAst (.iface 70 (.pointer (some ⟨b, 0, none⟩))) 70 b 76 := ⟨rfl, fun _ _ => by kernel_rfl, fun _ _ => by kernel_rfl, fun _ _ _ => by kernel_rfl⟩
theorem isTwq (b : Nat) : IsAst (.iface 104 (.pointer (some ⟨b, 0, none⟩))) 104 b 91 := ⟨rfl, fun _ _ => by kernel_rfl, fun _ _ => by kernel_rfl, fun _ _ _ => by kernel_rfl⟩

set_option maxRecDepth 100000 in
set_option maxHeartbeats 1000000 in
theorem qualifierDoes (W : World) (p b : Nat) (s : ByteArray) (st : St) (h0 : W.cell? ⟨b, 0, none⟩ = some (.string s)) (h1 : W.cell? ⟨b, 1, none⟩ = some (.slice none 0 0)) (hb : b < p) (hl : st.txt.length + s.size ≤ 140737488355328) :
    Does p W 79 (.pointer (some ⟨b, 0, none⟩)) st (st.wr s) := by
  intro w sl hlo h
  have c0 := (hlo.cell (o := 0) hb).trans h0
  have c1 := (hlo.cell (o := 1) hb).trans h1
  have H := Lib.hid h
  have L := Lib.hid hlo
  clear h hlo h0 h1
  go_enter Tryz.func79, Tryz.ntmps79
  go_wp2_with (first | (go_at_call 53; refine (writeStringC w p st sl s H.out hl).mono ?_; rintro e w1 ⟨rfl, sl1, h1, f1⟩; have d1 := ((f1.lo H.out L.out).cell (o := 1) hb).trans ((L.out.cell (o := 1) hb).symm.trans c1); have H1 := Lib.hid h1; have F1 := Lib.hid f1; clear h1 f1))
  go_end0
  exact ⟨rfl, sl1, H1.out, F1.out⟩

/-- The state behind qualifiers. -/
def St.qs (st : St) : List ByteArray → St
  | [] => st
  | s :: l => l.foldl (fun a x => (a.wb 32).wr x) (st.wr s)

theorem qs_snoc (st : St) (l : List ByteArray) (s : ByteArray) : st.qs (l ++ [s]) = if l = [] then st.wr s else ((st.qs l).wb 32).wr s := by
  cases l with
  | nil => rfl
  | cons x l => simp [St.qs, List.foldl_append]

def sumLen : List ByteArray → Nat
  | [] => 0
  | s :: l => s.size + 1 + sumLen l
theorem sumLen_append (l m : List ByteArray) : sumLen (l ++ m) = sumLen l + sumLen m := by
  induction l with
  | nil => simp [sumLen]
  | cons s l ih => simp only [List.cons_append, sumLen, ih]; omega
theorem sumLen_take (l : List ByteArray) (k : Nat) : sumLen (l.take k) ≤ sumLen l := by
  have := sumLen_append (l.take k) (l.drop k)
  rw [List.take_append_drop] at this
  omega
theorem fold_len (l : List ByteArray) : ∀ st : St, (l.foldl (fun a x => (a.wb 32).wr x) st).txt.length = st.txt.length + sumLen l := by
  induction l with
  | nil => intro st; simp [sumLen]
  | cons s l ih => intro st; simp only [List.foldl_cons, ih, wr_len, wb_len, sumLen]; omega
theorem qs_len (st : St) (l : List ByteArray) : (st.qs l).txt.length ≤ st.txt.length + sumLen l := by
  cases l with
  | nil => simp [St.qs]
  | cons s l => simp only [St.qs, fold_len, wr_len, sumLen]; omega
theorem qs_fold_prt (l : List ByteArray) : ∀ st : St, (l.foldl (fun a x => (a.wb 32).wr x) st).prt = st.prt ∧ (l.foldl (fun a x => (a.wb 32).wr x) st).inn = st.inn ∧ (l.foldl (fun a x => (a.wb 32).wr x) st).sc = st.sc := by
  induction l with
  | nil => intro st; exact ⟨rfl, rfl, rfl⟩
  | cons s l ih => intro st; exact ih _
theorem qs_prt (st : St) (l : List ByteArray) : (st.qs l).prt = st.prt ∧ (st.qs l).inn = st.inn ∧ (st.qs l).sc = st.sc := by
  cases l with
  | nil => exact ⟨rfl, rfl, rfl⟩
  | cons s l => exact qs_fold_prt l (st.wr s)

/-- Qualifiers, as they lie in memory. -/
def QualsAt (W : World) (p b : Nat) (l : List ByteArray) : Prop :=
  b < p ∧ ∃ a c, W.cell? ⟨b, 0, none⟩ = some (.slice a l.length c) ∧ l.length ≤ 1000000 ∧ ∀ i, i < l.length → ∃ g ci, a = some ⟨g, 0, none⟩ ∧ g < p ∧ ci < p ∧ W.cell? ⟨g, i, none⟩ = some (.iface 73 (.pointer (some ⟨ci, 0, none⟩))) ∧
    W.cell? ⟨ci, 0, none⟩ = some (.string (l.getD i ByteArray.empty)) ∧ W.cell? ⟨ci, 1, none⟩ = some (.slice none 0 0)

theorem take_snoc' {l : List ByteArray} {k : Nat} (h : k < l.length) : l.take (k + 1) = l.take k ++ [l.getD k ByteArray.empty] := by
  rw [List.take_succ_eq_append_getElem h]
  simp [List.getD_eq_getElem?_getD, List.getElem?_eq_getElem h]

set_option maxRecDepth 100000 in
set_option maxHeartbeats 2000000 in
theorem qualifiersDoes (W : World) (p b : Nat) (l : List ByteArray) (st : St) (hq : QualsAt W p b l) (hl : st.txt.length + sumLen l ≤ 140737488300000) :
    Does p W 76 (.pointer (some ⟨b, 0, none⟩)) st (st.qs l) := by
  intro w sl hlo h
  obtain ⟨hb, a, c, h0, hlm, hel⟩ := hq
  have c0 := (hlo.cell (o := 0) hb).trans h0
  have H := Lib.hid h
  have L := Lib.hid hlo
  have E := Lib.hid hel
  clear h hlo h0 hel
  go_enter Tryz.func76, Tryz.ntmps76
  go_wp2_with fail
  go_loopw [4, 12] (fun f i wr => ∃ (k : Nat) (slr : Sl), k ≤ l.length ∧ i = .int .i64 k ∧ f = .bool (decide (k = 0)) ∧ PsAt wr p (st.qs (l.take k)) slr ∧ Fr p sl slr w wr) (fun _ i _ => l.length - (intOf i).toNat)
  case atStart => exact ⟨0, sl, Nat.zero_le _, rfl, rfl, H.out, Fr.refl _ _ _⟩
  case round =>
    obtain ⟨k, slr, hk, rfl, rfl, hp, hf⟩ := hrel
    by_cases hlt : k < l.length
    · obtain ⟨g, ci, rfl, hg, hci, e1, e2, e3⟩ := E.out k hlt
      have lr := hf.lo H.out L.out
      have d1 := (lr.cell (o := k) hg).trans e1
      have hnext : sumLen (l.take k) + (l.getD k ByteArray.empty).size + 1 ≤ sumLen l := by
        have := sumLen_take l (k + 1)
        rw [take_snoc' hlt, sumLen_append] at this
        simp only [sumLen] at this
        omega
      have hql := qs_len st (l.take k)
      obtain ⟨-, hnil, hmet, hcf⟩ := isQualifier ci
      have P := Lib.hid hp
      have LR := Lib.hid lr
      have FR := Lib.hid hf
      by_cases h0 : k = 0
      · subst h0
        have q := qualifierDoes W p ci _ st e2 e3 hci (by omega)
        have Q := Lib.hid q
        clear q hp lr hf e1 e2 e3 hnext hql
        go_wp2_with fail
        refine (Q.out wr slr LR.out P.out).mono ?_
        rintro e w1 ⟨rfl, sl1, h1, f1⟩
        have H1 := Lib.hid h1
        have F1 := Lib.hid f1
        clear h1 f1
        go_wp2_with fail
        go_roundw
        case rel => exact ⟨1, sl1, by omega, by go_num, rfl, by rw [take_snoc' hlt, qs_snoc, if_pos (by simp)]; exact H1.out, FR.out.trans F1.out⟩
        case measure => simp [intOf]; omega
      · have hk0 : decide (k = 0) = false := by simp [h0]
        have q := qualifierDoes W p ci _ ((st.qs (l.take k)).wb 32) e2 e3 hci (by rw [wb_len]; omega)
        have Q := Lib.hid q
        have hb1 : (st.qs (l.take k)).txt.length + 1 ≤ 140737488355328 := by omega
        have K0 := Lib.hid h0
        rw [hk0]
        clear q hp lr hf e1 e2 e3 hnext hql h0 hk0
        go_wp2_with fail
        refine (writeByteC wr p _ slr 32 P.out hb1).mono ?_
        rintro e w1 ⟨rfl, sl1, h1, f1⟩
        have H1 := Lib.hid h1
        have F1 := Lib.hid f1
        clear h1 f1
        go_wp2_with fail
        refine (Q.out w1 sl1 (F1.out.lo P.out LR.out) H1.out).mono ?_
        rintro e w2 ⟨rfl, sl2, h2, f2⟩
        have H2 := Lib.hid h2
        have F2 := Lib.hid f2
        clear h2 f2
        go_wp2_with fail
        go_roundw
        case rel => exact ⟨k + 1, sl2, by omega, by go_num, by simp, by rw [take_snoc' hlt, qs_snoc, if_neg (by intro e; have e' := congrArg List.length e; simp at e'; rcases e' with e' | e'; exact K0.out e'; rw [e'] at hlt; simp at hlt)]; exact H2.out, FR.out.trans (F1.out.trans F2.out)⟩
        case measure => simp [intOf]; omega
    · have hk' : l.take k = l := List.take_of_length_le (by omega)
      rw [hk'] at hp
      have P := Lib.hid hp
      have FR := Lib.hid hf
      clear hp hf hk'
      go_wp2_with fail
      go_end0
      exact ⟨rfl, slr, P.out, FR.out⟩
end Go.Proofs.YtabnnnnheipldaaGreat
