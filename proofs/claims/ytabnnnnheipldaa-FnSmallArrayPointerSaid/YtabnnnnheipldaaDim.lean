/- ArrayType.printDimension, printInner and print, where a pointer to the arrays is being printed; conditions: fewer than 2^47 bytes, a million arrays at most. -/
import Derived.Test.YtabnnnnheipldaaArr
import Derived.Test.YtabnnnnheipldaaQual
namespace Go.Proofs.Ytabnnnnheipldaa
open Go.ChangeShapes Go.WideShapes Go.ChangeAt Go.RowKit

theorem innArray (b : Nat) : IsInn (.iface 90 (.pointer (some ⟨b, 0, none⟩))) 90 b 111 :=
  ⟨rfl, fun w => run_typeAssert_hasB Try.underlying146 (by kernel_rfl) _ _ w, fun _ => has_one Try.underlying146 (by kernel_rfl), fun _ _ => by kernel_rfl, fun _ _ => by kernel_rfl, fun _ _ _ => by kernel_rfl⟩
theorem mwqArray (b : Nat) : NoMwq (.iface 90 (.pointer (some ⟨b, 0, none⟩))) := fun _ => by kernel_rfl
theorem isArray (b : Nat) : IsAst (.iface 90 (.pointer (some ⟨b, 0, none⟩))) 90 b 110 := ⟨rfl, fun _ _ => by kernel_rfl, fun _ _ => by kernel_rfl, fun _ _ _ => by kernel_rfl⟩

theorem taq_p (p : Option Addr) (w : World) : (Instr.typeAssert (.iface 59 (.pointer p)) 45 55 true).run Try.prog w = .ok (.tuple #[.pointer none, .bool false]) w := by kernel_rfl
theorem taq_a (p : Option Addr) (w : World) : (Instr.typeAssert (.iface 90 (.pointer p)) 45 55 true).run Try.prog w = .ok (.tuple #[.pointer none, .bool false]) w := by kernel_rfl
theorem taa_p (p : Option Addr) (w : World) : (Instr.typeAssert (.iface 59 (.pointer p)) 45 90 true).run Try.prog w = .ok (.tuple #[.pointer none, .bool false]) w := by kernel_rfl
theorem taa_a (p : Option Addr) (w : World) : (Instr.typeAssert (.iface 90 (.pointer p)) 45 90 true).run Try.prog w = .ok (.tuple #[.pointer p, .bool true]) w := by kernel_rfl
attribute [local go_sem] taq_p taq_a taa_p taa_a

theorem infoArr : (Try.prog.info? 90).map (fun i => i.comparable) = some true := by kernel_rfl
theorem infoArrE : (Try.prog.info? 92).map (fun i => i.size) = some 2 := by kernel_rfl
theorem eql_arr (b : Nat) (w : World) : (binOp .eql 45 (.iface 90 (.pointer (some ⟨b, 0, none⟩))) (.iface 90 (.pointer (some ⟨b, 0, none⟩)))).run Try.prog w = .ok (.bool true) w := by
  obtain ⟨i, hi, hc⟩ := Option.map_eq_some_iff.1 infoArr
  obtain ⟨j, hj, _⟩ := Option.map_eq_some_iff.1 infoArrE
  exact run_eql_iface_ptr_same w _ Try.underlying45 Try.underlying90 hi hc hj
theorem eql_arr_other (b c : Nat) (w : World) (cb cc : Array Value) (tb tc : TypeId) (hne : b ≠ c) (hb : w.heap[b]? = some (.cells cb tb (0, 0))) (hc : w.heap[c]? = some (.cells cc tc (0, 0))) :
    (binOp .eql 45 (.iface 90 (.pointer (some ⟨b, 0, none⟩))) (.iface 90 (.pointer (some ⟨c, 0, none⟩)))).run Try.prog w = .ok (.bool false) w := by
  obtain ⟨i, hi, hcm⟩ := Option.map_eq_some_iff.1 infoArr
  obtain ⟨j, hj, hjs⟩ := Option.map_eq_some_iff.1 infoArrE
  exact run_eql_iface_ptr_other w Try.underlying45 Try.underlying90 hi hcm hj (by rw [hjs]; decide) (fun e => hne (by injection e)) hb hc
theorem fresh_type (p : Nat) (W : World) (l : List Value) (t b : Nat) (h : ∀ x, x ∈ l → ∃ t' b', x = .iface t' (.pointer (some ⟨b', 0, none⟩)) ∧ t' ≠ t) : Fresh p W l (.iface t (.pointer (some ⟨b, 0, none⟩))) := by
  intro x hx
  obtain ⟨t', b', rfl, hne⟩ := h x hx
  exact ⟨t', b', rfl, fun w _ => run_eql_iface_types t' t _ _ Try.underlying45 hne w⟩

/-- The text of dimensions. -/
def dl : List ByteArray → List UInt8
  | [] => []
  | s :: l => (91 :: s.data.toList ++ [93]) ++ dl l
theorem dl_append (l m : List ByteArray) : dl (l ++ m) = dl l ++ dl m := by
  induction l with
  | nil => rfl
  | cons s l ih => simp [dl, ih]
def dt (l : List ByteArray) (m : Nat) : List UInt8 := [32, 40, 42, 41, 32] ++ dl (l.take (m + 1))
theorem dt_succ (l : List ByteArray) (m : Nat) (h : m + 1 < l.length) : dt l (m + 1) = dt l m ++ (91 :: (l.getD (m + 1) ByteArray.empty).data.toList ++ [93]) := by
  unfold dt
  rw [take_snoc' h, dl_append]
  simp [dl]
theorem dt_len (l : List ByteArray) (m : Nat) : (dt l m).length ≤ 5 + (dl l).length := by
  have h := dl_append (l.take (m + 1)) (l.drop (m + 1))
  rw [List.take_append_drop] at h
  rw [dt, h]
  simp
  omega
def dimF (l : List ByteArray) (st : St) (m : Nat) : St := { st with inn := [], txt := st.txt ++ dt l m, last := 93 }

/-- The inner types ahead of the m-th array. -/
def il (bp B n m : Nat) : List Value := .iface 59 (.pointer (some ⟨bp, 0, none⟩)) :: (List.range m).map fun i => arrE B (n - i)
theorem il_succ (bp B n m : Nat) : il bp B n (m + 1) = il bp B n m ++ [arrE B (n - m)] := by simp [il, List.range_succ]

/-- Only arrays are being printed. -/
def OnlyArr (l : List Value) : Prop := ∀ x, x ∈ l → ∃ b', x = .iface 90 (.pointer (some ⟨b', 0, none⟩))

/-- The lengths of all that is written. -/
def Room (st : St) (l : List ByteArray) (base : ByteArray) : Prop := st.txt.length + base.size + (dl l).length + 100 ≤ 140737488000000 ∧ st.prt.length + l.length ≤ 100000 ∧ 0 ≤ st.sc ∧ st.sc ≤ 1000

theorem getD_size (l : List ByteArray) (i : Nat) (hi : i < l.length) : (l.getD i ByteArray.empty).size + 2 ≤ (dl l).length := by
  have h := dl_append (l.take i) (l.drop i)
  rw [List.take_append_drop] at h
  rw [h, List.length_append, List.drop_eq_getElem_cons hi]
  have e : l.getD i ByteArray.empty = l[i] := by simp [List.getD_eq_getElem?_getD, hi]
  have e2 : (l[i]).data.toList.length = (l[i]).size := by rw [Array.length_toList]; rfl
  rw [e]
  simp only [dl, List.length_append, List.length_cons, e2, List.length_nil]
  omega
theorem sz1 (b : UInt8) : (⟨#[b]⟩ : ByteArray).size = 1 := rfl
theorem wr_nil (st : St) : st.wr ⟨#[]⟩ = st := by simp [St.wr]

/-- One pointer as the only inner type. -/
theorem ptrAll (W : World) (p bp : Nat) (st : St) (pre : Bool) (w : World) (sl : Sl) (hlo : Lo p W w) (h : PsAt w p st sl) (hi : st.inn = [.iface 59 (.pointer (some ⟨bp, 0, none⟩))]) (hl : st.txt.length + 1 ≤ 140737488355328) :
    Calls Try.prog 94 #[.pointer (some ⟨p, 0, none⟩), .bool pre] w (Wr p sl w (({ st with inn := [] } : St).wr ⟨#[42]⟩) (.slice none 0 0)) := by
  refine printInnerC W p 1 st _ (fun q => ⟨_, by rw [hi]; simp, oneInnerC W p q _ _ bp _ st (({ st with inn := [] } : St).wr ⟨#[42]⟩) [] (innPointer bp) (mwqPointer bp) hi (by rw [hi]; simp) (ptrInnerDoes W p _ _ hl), rfl, rfl⟩) pre w sl hlo h

theorem arrInnerDoes (W : World) (p b : Nat) (st st' : St) (h : Does p W 112 (.pointer (some ⟨b, 0, none⟩)) st st') : Does p W 111 (.pointer (some ⟨b, 0, none⟩)) st st' := by
  intro w sl hlo hp
  have D := Lib.hid (h w sl hlo hp)
  clear h hlo hp
  go_enter Try.func111, Try.ntmps111
  go_wp2_with fail
  refine D.out.mono ?_
  rintro e w1 ⟨rfl, sl1, h1, f1⟩
  have H1 := Lib.hid h1
  have F1 := Lib.hid f1
  clear h1 f1
  go_wp2_with fail
  go_end0
  exact ⟨rfl, sl1, H1.out, F1.out⟩

/-- One dimension in brackets. -/
theorem br_eq (st : St) (s : ByteArray) : ((st.wb 91).wr s).wb 93 = { st with txt := st.txt ++ (91 :: s.data.toList ++ [93]), last := 93 } := by simp [St.wb, St.wr]

set_option maxRecDepth 100000 in
set_option maxHeartbeats 4000000 in
theorem dim0 (W : World) (p B bp : Nat) (base : ByteArray) (l : List ByteArray) (hA : ArrsAt W B base l l.length) (hB : B + 2 * l.length < p) (j : Nat) (hj : j + 1 = l.length) (st : St) (hi : st.inn = il bp B l.length 0) (ho : OnlyArr st.prt) (hr : Room st l base) :
    Does p W 112 (.pointer (some ⟨B + 2 * j + 2, 0, none⟩)) st (dimF l st 0) := by
  intro w sl hlo h
  have hi'' : st.inn = [.iface 59 (.pointer (some ⟨bp, 0, none⟩))] := hi
  have hi' : st.inn = [] ++ [.iface 59 (.pointer (some ⟨bp, 0, none⟩))] := hi
  obtain ⟨ia, ic, ei, q1, q2, ⟨g, rfl, hcell⟩, hp⟩ := h.popInn hi'
  have c8 := h.c8
  rw [ei] at c8
  have c8' : w.cell? ⟨p, 8, none⟩ = some (.slice (some ⟨g, 0, none⟩) 1 ic) := c8
  have hc' : w.cell? ⟨g, 0, none⟩ = some (.iface 59 (.pointer (some ⟨bp, 0, none⟩))) := hcell
  have H := Lib.hid h
  have L := Lib.hid hlo
  have ea : l.length - 1 - j = 0 := by omega
  have hA2 := hA.2 j (by omega)
  obtain ⟨s, es⟩ : ∃ s, s = l.getD 0 ByteArray.empty := ⟨_, rfl⟩
  rw [ea, ← es] at hA2
  have CA := Lib.hid (cell_of_row W _ 0 _ _ (0, 0) hA2.2)
  have CN := Lib.hid (cell_of_row W _ 0 _ _ (0, 0) hA2.1)
  have r5 := getD_size l 0 (by omega)
  rw [← es] at r5
  have ES := Lib.hid es
  clear c8 hcell h hlo hp ei hi hi' hA hA2 es
  go_enter Try.func112, Try.ntmps112
  go_wp2_with fail
  refine wp_loop_rounds 2 ?_
  rw [rounds_succ]
  go_wp2_with fail
  go_quiet (fail)
  obtain ⟨hq, fq⟩ := H.out.drewN nq
  have lq : Hid (Lo p W (w.drewN nq)) := L.out
  generalize w.drewN nq = wq at *
  have HQ := Lib.hid hq
  have FQ := Lib.hid fq
  have LQ := Lib.hid lq.out
  clear hq fq lq
  obtain ⟨r1, r2, r3, r4⟩ := hr
  go_wp2_with fail
  refine (writeByteC wq p st sl 32 HQ.out (by omega)).mono ?_
  rintro e w1 ⟨rfl, sl1, h1, f1⟩
  have H1 := Lib.hid h1
  have F1 := Lib.hid f1
  have L1 := Lib.hid (f1.lo HQ.out LQ.out)
  clear h1 f1
  go_wp2_with fail
  refine (startScopeC w1 p _ sl1 40 H1.out (by simp; omega) r3 (by show st.sc ≤ _; omega)).mono ?_
  rintro e w2 ⟨rfl, sl2, h2, f2⟩
  have H2 := Lib.hid h2
  have F2 := Lib.hid f2
  have L2 := Lib.hid (f2.lo H1.out L1.out)
  clear h2 f2
  go_wp2_with fail
  refine (ptrAll W p bp _ false _ sl2 L2.out H2.out hi'' (by simp; omega)).mono ?_
  rintro e w3 ⟨rfl, sl3, h3, f3⟩
  have H3 := Lib.hid h3
  have F3 := Lib.hid f3
  have L3 := Lib.hid (f3.lo H2.out L2.out)
  clear h3 f3
  go_wp2_with fail
  refine (endScopeC w3 p _ sl3 41 H3.out (by simp [wr_len, sz1]; omega) (by show 0 ≤ st.sc + 1; omega) (by show st.sc + 1 ≤ _; omega)).mono ?_
  rintro e w4 ⟨rfl, sl4, h4, f4⟩
  have L4 := Lib.hid (f4.lo H3.out L3.out)
  obtain ⟨ja, jc, ej⟩ := h4.innForm
  have d8 := h4.c8
  rw [ej] at d8
  have d8' : w4.cell? ⟨p, 8, none⟩ = some (.slice ja 0 jc) := d8
  have H4 := Lib.hid h4
  have F4 := Lib.hid f4
  clear h4 f4 d8 ej
  go_wp2_with fail
  rw [rounds_succ]
  go_wp2_with fail
  refine (writeStringC w4 p _ sl4 ⟨#[32]⟩ H4.out (by simp [wr_len, sz1]; omega)).mono ?_
  rintro e w5 ⟨rfl, sl5, h5, f5⟩
  have h5' : PsAt w5 p ⟨st.tp, st.ec, st.ll, st.sc, st.txt ++ [32, 40, 42, 41, 32], 32, [], st.prt⟩ sl5 := by simpa [St.wr] using h5
  have H5 := Lib.hid h5'
  have F5 := Lib.hid f5
  have L5 := Lib.hid (f5.lo H4.out L4)
  clear h5 f5 h5'
  go_wp2_with fail
  refine (writeByteC w5 p _ sl5 91 H5.out (by simp; omega)).mono ?_
  rintro e w6 ⟨rfl, sl6, h6, f6⟩
  have l6 := f6.lo H5.out L5.out
  have L6 := Lib.hid l6
  have cA := (l6.cell (o := 0) (b := B + 2 * j + 2) (by omega)).trans CA.out
  have h6' : PsAt w6 p ⟨st.tp, st.ec, st.ll, st.sc, st.txt ++ [32, 40, 42, 41, 32] ++ [91], 91, [], st.prt⟩ sl6 := by simpa using h6
  have H6 := Lib.hid h6'
  have F6 := Lib.hid f6
  clear h6 f6 l6 h6'
  go_wp2_with fail
  refine (printsName W p _ _ ⟨st.tp, st.ec, st.ll, st.sc, st.txt ++ [32, 40, 42, 41, 32] ++ [91], 91, [], st.prt⟩ CN.out (by omega) (by simp; omega) (by show st.prt.length ≤ _; omega) (fresh_type p W _ _ _ (fun x hx => (ho x hx).elim fun b' e => ⟨_, b', e, by decide⟩)) w6 sl6 L6.out H6.out).mono ?_
  rintro e w7 ⟨rfl, sl7, h7, f7⟩
  have H7 := Lib.hid h7
  have F7 := Lib.hid f7
  clear h7 f7
  go_wp2_with fail
  refine (writeByteC w7 p _ sl7 93 H7.out (by rw [wr_len]; simp; omega)).mono ?_
  rintro e w8 ⟨rfl, sl8, h8, f8⟩
  have H8 := Lib.hid h8
  have F8 := Lib.hid f8
  clear h8 f8
  go_wp2_with fail
  go_end0
  refine ⟨rfl, sl8, ?_, FQ.out.trans (F1.out.trans (F2.out.trans (F3.out.trans (F4.out.trans (F5.out.trans (F6.out.trans (F7.out.trans F8.out)))))))⟩
  have e : dimF l st 0 = { (⟨st.tp, st.ec, st.ll, st.sc, st.txt ++ [32, 40, 42, 41, 32] ++ [91], 91, [], st.prt⟩ : St).wr s with txt := ((⟨st.tp, st.ec, st.ll, st.sc, st.txt ++ [32, 40, 42, 41, 32] ++ [91], 91, [], st.prt⟩ : St).wr s).txt ++ [93], last := 93 } := by
    unfold dimF dt
    rw [take_snoc' (by omega), ← ES.out]
    simp [dl, St.wr]
  rw [e]
  exact H8.out

set_option maxRecDepth 100000 in
set_option maxHeartbeats 4000000 in
theorem dimS (W : World) (p B bp : Nat) (base : ByteArray) (l : List ByteArray) (hA : ArrsAt W B base l l.length) (hB : B + 2 * l.length < p) (m j : Nat) (hj : j + 1 + m + 1 = l.length)
    (ih : ∀ st : St, st.inn = il bp B l.length m → OnlyArr st.prt → Room st l base → Does p W 112 (.pointer (some ⟨B + 2 * (j + 1) + 2, 0, none⟩)) st (dimF l st m))
    (st : St) (hi : st.inn = il bp B l.length (m + 1)) (ho : OnlyArr st.prt) (hr : Room st l base) :
    Does p W 112 (.pointer (some ⟨B + 2 * j + 2, 0, none⟩)) st (dimF l st (m + 1)) := by
  intro w sl hlo h
  have hi' : st.inn = il bp B l.length m ++ [.iface 90 (.pointer (some ⟨B + 2 * (j + 1) + 2, 0, none⟩))] := by
    rw [hi, il_succ]
    have e : l.length - m = j + 1 + 1 := by omega
    rw [e]
    rfl
  have hil : (il bp B l.length m).length = m + 1 := by simp [il]
  obtain ⟨ia, ic, ei, q1, q2, ⟨g, rfl, hcell⟩, hp⟩ := h.popInn hi'
  have c8 := h.c8
  rw [ei] at c8
  rw [hil] at c8 hcell q1
  have hone := oneInnerC W p none _ _ _ _ st _ _ (innArray (B + 2 * (j + 1) + 2)) (mwqArray _) hi' (by rw [hi', List.length_append, hil]; have := hr.2.1; simp; omega) (arrInnerDoes W p _ _ _ (ih { st with inn := il bp B l.length m } rfl ho hr))
  have hs1 := eql_arr (B + 2 * (j + 1) + 2)
  have H := Lib.hid h
  have L := Lib.hid hlo
  have O := Lib.hid hone
  have ea : l.length - 1 - j = (m + 1) := by omega
  have hA2 := hA.2 j (by omega)
  obtain ⟨s, es⟩ : ∃ s, s = l.getD (m + 1) ByteArray.empty := ⟨_, rfl⟩
  rw [ea, ← es] at hA2
  have CA := Lib.hid (cell_of_row W _ 0 _ _ (0, 0) hA2.2)
  have CN := Lib.hid (cell_of_row W _ 0 _ _ (0, 0) hA2.1)
  have r5 := getD_size l (m + 1) (by omega)
  rw [← es] at r5
  have ES := Lib.hid es
  clear h hlo hp ei hi hi' hA hA2 es hone ih hil
  go_enter Try.func112, Try.ntmps112
  go_wp2_with fail
  refine wp_loop_rounds 2 ?_
  rw [rounds_succ]
  go_wp2_with fail
  go_quiet (fail)
  obtain ⟨hq, fq⟩ := H.out.drewN nq
  have lq : Hid (Lo p W (w.drewN nq)) := L.out
  have kc8 : (w.drewN nq).cell? ⟨p, 8, none⟩ = w.cell? ⟨p, 8, none⟩ := rfl
  have kcell : (w.drewN nq).cell? ⟨g, m + 1, none⟩ = w.cell? ⟨g, m + 1, none⟩ := rfl
  rw [c8] at kc8
  rw [hcell] at kcell
  clear c8 hcell
  generalize w.drewN nq = wq at *
  have HQ := Lib.hid hq
  have FQ := Lib.hid fq
  have LQ := Lib.hid lq.out
  clear hq fq lq
  obtain ⟨r1, r2, r3, r4⟩ := hr
  go_wp2_with fail
  go_quiet (fail)
  obtain ⟨hq, fq⟩ := HQ.out.drewN nq
  have lq : Hid (Lo p W (wq.drewN nq)) := LQ.out
  clear kc8 kcell
  generalize wq.drewN nq = wr at *
  have HR := Lib.hid hq
  have FR := Lib.hid fq
  have LR := Lib.hid lq.out
  clear hq fq lq
  go_wp2_with fail
  refine (O.out wr sl LR.out HR.out).mono ?_
  rintro e w4 ⟨rfl, sl4, h4, f4⟩
  have L4 := Lib.hid (f4.lo HR.out LR.out)
  obtain ⟨ja, jc, ej⟩ := h4.innForm
  have d8 := h4.c8
  rw [ej] at d8
  have d8' : w4.cell? ⟨p, 8, none⟩ = some (.slice ja 0 jc) := d8
  have r6 : (dt l m).length + s.size + 2 ≤ 5 + (dl l).length := by
    have h1 := dt_len l (m + 1)
    rw [dt_succ l m (by omega), ← ES.out] at h1
    have e2 : s.data.toList.length = s.size := by rw [Array.length_toList]; rfl
    simp only [List.length_append, List.length_cons, e2, List.length_nil] at h1
    omega
  have H4 := Lib.hid h4
  have F4 := Lib.hid f4
  clear h4 f4 d8 ej
  go_wp2_with fail
  rw [rounds_succ]
  go_wp2_with fail
  refine (writeStringC w4 p _ sl4 ⟨#[]⟩ H4.out (by show (st.txt ++ dt l m).length + 0 ≤ _; rw [List.length_append]; omega)).mono ?_
  rintro e w5 ⟨rfl, sl5, h5, f5⟩
  have h5' : PsAt w5 p ⟨st.tp, st.ec, st.ll, st.sc, st.txt ++ (dt l m), 93, [], st.prt⟩ sl5 := by simpa [St.wr, dimF] using h5
  have H5 := Lib.hid h5'
  have F5 := Lib.hid f5
  have L5 := Lib.hid (f5.lo H4.out L4)
  clear h5 f5 h5'
  go_wp2_with fail
  refine (writeByteC w5 p _ sl5 91 H5.out (by simp; omega)).mono ?_
  rintro e w6 ⟨rfl, sl6, h6, f6⟩
  have l6 := f6.lo H5.out L5.out
  have L6 := Lib.hid l6
  have cA := (l6.cell (o := 0) (b := B + 2 * j + 2) (by omega)).trans CA.out
  have h6' : PsAt w6 p ⟨st.tp, st.ec, st.ll, st.sc, st.txt ++ (dt l m) ++ [91], 91, [], st.prt⟩ sl6 := by simpa using h6
  have H6 := Lib.hid h6'
  have F6 := Lib.hid f6
  clear h6 f6 l6 h6'
  go_wp2_with fail
  refine (printsName W p _ _ ⟨st.tp, st.ec, st.ll, st.sc, st.txt ++ (dt l m) ++ [91], 91, [], st.prt⟩ CN.out (by omega) (by simp; omega) (by show st.prt.length ≤ _; omega) (fresh_type p W _ _ _ (fun x hx => (ho x hx).elim fun b' e => ⟨_, b', e, by decide⟩)) w6 sl6 L6.out H6.out).mono ?_
  rintro e w7 ⟨rfl, sl7, h7, f7⟩
  have H7 := Lib.hid h7
  have F7 := Lib.hid f7
  clear h7 f7
  go_wp2_with fail
  refine (writeByteC w7 p _ sl7 93 H7.out (by rw [wr_len]; simp; omega)).mono ?_
  rintro e w8 ⟨rfl, sl8, h8, f8⟩
  have H8 := Lib.hid h8
  have F8 := Lib.hid f8
  clear h8 f8
  go_wp2_with fail
  go_end0
  refine ⟨rfl, sl8, ?_, FQ.out.trans (FR.out.trans (F4.out.trans (F5.out.trans (F6.out.trans (F7.out.trans F8.out)))))⟩
  have e : dimF l st (m + 1) = { (⟨st.tp, st.ec, st.ll, st.sc, st.txt ++ (dt l m) ++ [91], 91, [], st.prt⟩ : St).wr s with txt := ((⟨st.tp, st.ec, st.ll, st.sc, st.txt ++ (dt l m) ++ [91], 91, [], st.prt⟩ : St).wr s).txt ++ [93], last := 93 } := by
    unfold dimF
    rw [dt_succ l m (by omega), ← ES.out]
    simp [St.wr]
  rw [e]
  exact H8.out

theorem dimAll (W : World) (p B bp : Nat) (base : ByteArray) (l : List ByteArray) (hA : ArrsAt W B base l l.length) (hB : B + 2 * l.length < p) (m : Nat) : ∀ (j : Nat), j + m + 1 = l.length → ∀ st : St, st.inn = il bp B l.length m → OnlyArr st.prt → Room st l base →
    Does p W 112 (.pointer (some ⟨B + 2 * j + 2, 0, none⟩)) st (dimF l st m) := by
  induction m with
  | zero => intro j hj st hi ho hr; exact dim0 W p B bp base l hA hB j (by omega) st hi ho hr
  | succ m ih => intro j hj st hi ho hr; exact dimS W p B bp base l hA hB m j (by omega) (ih (j + 1) (by omega)) st hi ho hr
end Go.Proofs.Ytabnnnnheipldaa
