/- Qualifiers: what impl.words makes, and what the print methods of Qualifier, Qualifiers and TypeWithQualifiers write; conditions: fewer than 2^47 bytes. -/
import Derived.Test.YtkofdhhkhcdeoaaGreatGen
namespace Go.Proofs.YtkofdhhkhcdeoaaGreat
open Go.ChangeShapes Go.WideShapes Go.ChangeAt Go.RowKit

/-- The state behind a byte that is written. -/
def St.wb (st : St) (b : UInt8) : St := { st with txt := st.txt ++ [b], last := b }
theorem wb_len (st : St) (b : UInt8) : (st.wb b).txt.length = st.txt.length + 1 := by simp [St.wb]

theorem isTwq (b : Nat) : IsAst (.iface 88 (.pointer (some ⟨b, 0, none⟩))) 88 b 71 := ⟨rfl, fun _ _ => by kernel_rfl, fun _ _ => by kernel_rfl, fun _ _ _ => by kernel_rfl⟩

/-- The state behind qualifiers. -/
def St.qs (st : St) : List ByteArray → St
  | [] => st
  | s :: l => l.foldl (fun a x => (a.wb 32).wr x) (st.wr s)

theorem qs_snoc (st : St) (l : List ByteArray) (s : ByteArray) : st.qs (l ++ [s]) = if l = [] then st.wr s else ((st.qs l).wb 32).wr s := by
  cases l with
  | nil => rfl
  | cons x l => simp [St.qs, List.foldl_append]

def sumLen : List ByteArray → Nat
  | [] => 0
  | s :: l => s.size + 1 + sumLen l
theorem sumLen_append (l m : List ByteArray) : sumLen (l ++ m) = sumLen l + sumLen m := by
  induction l with
  | nil => simp [sumLen]
  | cons s l ih => simp only [List.cons_append, sumLen, ih]; omega
theorem sumLen_take (l : List ByteArray) (k : Nat) : sumLen (l.take k) ≤ sumLen l := by
  have := sumLen_append (l.take k) (l.drop k)
  rw [List.take_append_drop] at this
  omega
theorem fold_len (l : List ByteArray) : ∀ st : St, (l.foldl (fun a x => (a.wb 32).wr x) st).txt.length = st.txt.length + sumLen l := by
  induction l with
  | nil => intro st; simp [sumLen]
  | cons s l ih => intro st; simp only [List.foldl_cons, ih, wr_len, wb_len, sumLen]; omega
theorem qs_len (st : St) (l : List ByteArray) : (st.qs l).txt.length ≤ st.txt.length + sumLen l := by
  cases l with
  | nil => simp [St.qs]
  | cons s l => simp only [St.qs, fold_len, wr_len, sumLen]; omega
theorem qs_fold_prt (l : List ByteArray) : ∀ st : St, (l.foldl (fun a x => (a.wb 32).wr x) st).prt = st.prt ∧ (l.foldl (fun a x => (a.wb 32).wr x) st).inn = st.inn ∧ (l.foldl (fun a x => (a.wb 32).wr x) st).sc = st.sc := by
  induction l with
  | nil => intro st; exact ⟨rfl, rfl, rfl⟩
  | cons s l ih => intro st; exact ih _
theorem qs_prt (st : St) (l : List ByteArray) : (st.qs l).prt = st.prt ∧ (st.qs l).inn = st.inn ∧ (st.qs l).sc = st.sc := by
  cases l with
  | nil => exact ⟨rfl, rfl, rfl⟩
  | cons s l => exact qs_fold_prt l (st.wr s)

theorem take_snoc' {l : List ByteArray} {k : Nat} (h : k < l.length) : l.take (k + 1) = l.take k ++ [l.getD k ByteArray.empty] := by
  rw [List.take_succ_eq_append_getElem h]
  simp [List.getD_eq_getElem?_getD, List.getElem?_eq_getElem h]

end Go.Proofs.YtkofdhhkhcdeoaaGreat
