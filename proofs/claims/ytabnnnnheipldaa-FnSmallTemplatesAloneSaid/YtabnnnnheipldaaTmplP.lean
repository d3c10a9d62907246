/- What Templates print: the text, and the print state behind it; conditions: no text is empty, fewer than 2^47 bytes. -/
import Derived.Test.YtabnnnnheipldaaTmplB
import Derived.Stop.Asserts
namespace Go.Proofs.Ytabnnnnheipldaa
open Go.ChangeShapes Go.WideShapes Go.ChangeAt Go.RowKit

/-- The state behind a text. -/
def wrL (st : St) (t : List UInt8) : St := { st with txt := st.txt ++ t, last := t.getLast?.getD st.last }
theorem wr_wrL (st : St) (s : ByteArray) : st.wr s = wrL st s.data.toList := rfl
theorem wb_wrL (st : St) (b : UInt8) : st.wb b = wrL st [b] := rfl
theorem wrL_app (st : St) (a b : List UInt8) : wrL (wrL st a) b = wrL st (a ++ b) := by
  cases b with
  | nil => simp [wrL]
  | cons x b => simp [wrL, List.getLast?_append]
theorem wrL_len (st : St) (t : List UInt8) : (wrL st t).txt.length = st.txt.length + t.length := by simp [wrL]
theorem wrL_inn (st : St) (t : List UInt8) (l : List Value) : wrL { st with inn := l } t = { wrL st t with inn := l } := rfl
theorem wrL_sc (st : St) (t : List UInt8) (n : Int) : wrL { st with sc := n } t = { wrL st t with sc := n } := rfl
theorem wrL_prt (st : St) (t : List UInt8) (l : List Value) : wrL { st with prt := l } t = { wrL st t with prt := l } := rfl
theorem wrL_last (st : St) (t : List UInt8) (h : t ≠ []) (b : UInt8) : (wrL st t).last = b ↔ t.getLast? = some b := by
  have : ∃ x, t.getLast? = some x := ⟨t.getLast h, List.getLast?_eq_some_getLast h⟩
  obtain ⟨x, hx⟩ := this
  simp [wrL, hx]

/-- A blank behind a text that ends with a byte. -/
def gap (b : UInt8) (t : List UInt8) : List UInt8 := if t.getLast? = some b then t ++ [32] else t
theorem ltb_gap (st : St) (t : List UInt8) (h : t ≠ []) : (wrL st t).ltb = wrL st (gap 60 t) := by
  unfold St.ltb gap
  by_cases e : t.getLast? = some 60
  · rw [if_pos ((wrL_last st t h 60).2 e), if_pos e, wb_wrL, wrL_app]
  · rw [if_neg (fun e' => e ((wrL_last st t h 60).1 e')), if_neg e]
theorem gtb_gap (st : St) (a t : List UInt8) (h : t ≠ []) : (wrL st (a ++ t)).gtb = wrL st (a ++ gap 62 t) := by
  have hl : (a ++ t).getLast? = t.getLast? := by
    obtain ⟨x, hx⟩ : ∃ x, t.getLast? = some x := ⟨t.getLast h, List.getLast?_eq_some_getLast h⟩
    rw [List.getLast?_append, hx]
    rfl
  have hne : a ++ t ≠ [] := fun e => h (List.append_eq_nil_iff.1 e).2
  unfold St.gtb gap
  by_cases e : t.getLast? = some 62
  · rw [if_pos ((wrL_last st _ hne 62).2 (hl.trans e)), if_pos e, wb_wrL, wrL_app, List.append_assoc]
  · rw [if_neg (fun e' => e (hl.symm.trans ((wrL_last st _ hne 62).1 e'))), if_neg e]
theorem gap_len (b : UInt8) (t : List UInt8) : (gap b t).length ≤ t.length + 1 := by
  unfold gap
  split <;> simp

/-- Texts with commas between. -/
def jt : List ByteArray → List UInt8
  | [] => []
  | s :: l => [44, 32] ++ s.data.toList ++ jt l
def jn : List ByteArray → List UInt8
  | [] => []
  | s :: l => s.data.toList ++ jt l
/-- The text of arguments: Names, or Templates within each other. -/
def cl (names : List ByteArray) : List ByteArray → List UInt8
  | [] => jn names
  | s :: rest => gap 60 s.data.toList ++ [60] ++ gap 62 (cl names rest) ++ [62]

theorem size_list (s : ByteArray) : s.data.toList.length = s.size := by rw [Array.length_toList]; rfl
theorem size_pos {s : ByteArray} (h : 0 < s.size) : s.data.toList ≠ [] := fun e => by
  have := congrArg List.length e
  rw [size_list] at this
  rw [this] at h
  exact absurd h (by decide)

theorem jt_len (l : List ByteArray) : (jt l).length ≤ 2 * sumLen l := by
  induction l with
  | nil => simp [jt]
  | cons s l ih => simp only [jt, List.length_append, List.length_cons, List.length_nil, size_list, sumLen]; omega
theorem jn_len (l : List ByteArray) : (jn l).length ≤ 2 * sumLen l := by
  cases l with
  | nil => simp [jn]
  | cons s l => have := jt_len l; simp only [jn, List.length_append, size_list, sumLen]; omega
theorem cl_len (names : List ByteArray) (l : List ByteArray) : (cl names l).length ≤ 2 * sumLen names + 5 * sumLen l := by
  induction l with
  | nil => have := jn_len names; simp only [cl, sumLen]; omega
  | cons s l ih =>
    have h1 := gap_len 60 s.data.toList
    have h2 := gap_len 62 (cl names l)
    rw [size_list] at h1
    simp only [cl, List.length_append, List.length_cons, List.length_nil, sumLen]
    omega
theorem cl_ne (names : List ByteArray) (l : List ByteArray) (h0 : 0 < names.length) (h : ∀ s ∈ names, 0 < s.size) : cl names l ≠ [] := by
  cases l with
  | nil =>
    cases names with
    | nil => simp at h0
    | cons s names => exact fun e => size_pos (h s (by simp)) (List.append_eq_nil_iff.1 e).1
  | cons s l => simp [cl]

theorem fresh_type' (p : Nat) (W : World) (l : List Value) (t b : Nat) (h : ∀ x, x ∈ l → ∃ t' b', x = .iface t' (.pointer (some ⟨b', 0, none⟩)) ∧ t' ≠ t) : Fresh p W l (.iface t (.pointer (some ⟨b, 0, none⟩))) := by
  intro x hx
  obtain ⟨t', b', rfl, hne⟩ := h x hx
  exact ⟨t', b', rfl, fun w _ => run_eql_iface_types t' t _ _ Try.underlying45 hne w⟩

theorem infoTpl : (Try.prog.info? 94).map (fun i => i.comparable) = some true := by kernel_rfl
theorem infoTplE : (Try.prog.info? 96).map (fun i => i.size) = some 2 := by kernel_rfl
theorem eql_tpl_other (b c : Nat) (w : World) (cb cc : Array Value) (tb tc : TypeId) (hne : b ≠ c) (hb : w.heap[b]? = some (.cells cb tb (0, 0))) (hc : w.heap[c]? = some (.cells cc tc (0, 0))) :
    (binOp .eql 45 (.iface 94 (.pointer (some ⟨b, 0, none⟩))) (.iface 94 (.pointer (some ⟨c, 0, none⟩)))).run Try.prog w = .ok (.bool false) w := by
  obtain ⟨i, hi, hcm⟩ := Option.map_eq_some_iff.1 infoTpl
  obtain ⟨j, hj, hjs⟩ := Option.map_eq_some_iff.1 infoTplE
  exact run_eql_iface_ptr_other w Try.underlying45 Try.underlying94 hi hcm hj (by rw [hjs]; decide) (fun e => hne (by injection e)) hb hc

/-- All that is being printed are Templates, in blocks from B on. -/
def PrtT (W : World) (p B : Nat) (l : List Value) : Prop := ∀ x, x ∈ l → ∃ b cs t, B ≤ b ∧ b < p ∧ x = .iface 94 (.pointer (some ⟨b, 0, none⟩)) ∧ W.heap[b]? = some (.cells cs t (0, 0))

theorem PrtT.name {W : World} {p B : Nat} {l : List Value} (h : PrtT W p B l) (b : Nat) : Fresh p W l (.iface 79 (.pointer (some ⟨b, 0, none⟩))) :=
  fresh_type' p W l _ b fun x hx => by obtain ⟨b', _, _, _, _, e, _⟩ := h x hx; exact ⟨_, b', e, by decide⟩
theorem PrtT.tpl {W : World} {p B : Nat} {l : List Value} (h : PrtT W p B l) {b : Nat} (hb : b < B) (hp : b < p) {cs : Array Value} {t : TypeId} (hc : W.heap[b]? = some (.cells cs t (0, 0))) : Fresh p W l (.iface 94 (.pointer (some ⟨b, 0, none⟩))) := by
  intro x hx
  obtain ⟨b', cs', t', h1, h2, rfl, h3⟩ := h x hx
  refine ⟨_, _, rfl, fun w hw => ?_⟩
  rw [← hw _ h2] at h3
  rw [← hw _ hp] at hc
  exact eql_tpl_other _ _ w _ _ _ _ (by omega) h3 hc

/-- Names in a list. -/
theorem namesList (W : World) (p B : Nat) (l : List ByteArray) : ∀ (f : Bool) (cs : List Nat) (st : St), cs.length = l.length → (∀ i c, cs[i]? = some c → c < p ∧ W.cell? ⟨c, 0, none⟩ = some (.string (l.getD i ByteArray.empty))) → PrtT W p B st.prt → st.prt.length ≤ 1000000 → st.ll = false →
    st.txt.length + 2 * sumLen l + 2 ≤ 140737488000000 → ListDoes p W f (cs.map fun c => .iface 79 (.pointer (some ⟨c, 0, none⟩))) st (wrL st (if f then jn l else jt l)) := by
  induction l with
  | nil =>
    intro f cs st hcl _ _ _ _ _
    have e : cs = [] := List.eq_nil_of_length_eq_zero hcl
    subst e
    cases f <;> simp [ListDoes, wrL, jn, jt]
  | cons s l ih =>
    intro f cs st hcl hcs hp hpl hll hl
    cases cs with
    | nil => simp at hcl
    | cons c cs =>
      obtain ⟨h1, h2⟩ := hcs 0 c rfl
      have h2' : W.cell? ⟨c, 0, none⟩ = some (.string s) := h2
      simp only [sumLen] at hl
      have ec : comma.data.toList = [44, 32] := rfl
      have hln : (if f then st else st.wr comma).txt.length ≤ st.txt.length + 2 := by cases f <;> simp [wr_len, comma_size]
      have hpr : (if f then st else st.wr comma).prt = st.prt := by cases f <;> rfl
      have hrest := ih false cs ((if f then st else st.wr comma).wr s) (by simpa using hcl) (fun i c' hi => hcs (i + 1) c' (by simpa using hi)) (by show PrtT W p B (if f then st else st.wr comma).prt; rw [hpr]; exact hp) (by show (if f then st else st.wr comma).prt.length ≤ _; rw [hpr]; exact hpl) (by cases f <;> exact hll) (by rw [wr_len]; omega)
      refine ⟨_, fullName c, by omega, hll, printsName W p c s _ h2' h1 (by omega) (by rw [hpr]; exact hpl) (by rw [hpr]; exact hp.name c), ?_⟩
      have e : wrL ((if f then st else st.wr comma).wr s) (if false = true then jn l else jt l) = wrL st (if f then jn (s :: l) else jt (s :: l)) := by
        cases f
        · show wrL ((st.wr comma).wr s) (jt l) = wrL st (jt (s :: l))
          rw [wr_wrL, wr_wrL, wrL_app, wrL_app, ec]
          rfl
        · show wrL (st.wr s) (jt l) = wrL st (jn (s :: l))
          rw [wr_wrL, wrL_app]
          rfl
      rw [e] at hrest
      exact hrest

set_option maxHeartbeats 1000000 in
/-- A Template's whole text. -/
theorem tplDoes (W : World) (p b nb : Nat) (names rest : List ByteArray) (s : ByteArray) (v : Value) (vs : List Value) (st : St) (hb : b < p) (hnb : nb < p) (hblk : W.heap[b]? = some (.cells #[.iface 79 (.pointer (some ⟨nb, 0, none⟩)), v] 96 (0, 0)))
    (hn : W.cell? ⟨nb, 0, none⟩ = some (.string s)) (hs : 0 < s.size) (hne : cl names rest ≠ []) (hE : ElemsAt W p v vs) (htp : st.tp = true) (hll : st.ll = false) (hl : st.txt.length + s.size + (cl names rest).length + 10 ≤ 140737488000000) (hp : PrtT W p b st.prt) (hpl : st.prt.length ≤ 1000000)
    (hL : ListDoes p W true vs (wrL { st with inn := [], sc := 0 } (gap 60 s.data.toList ++ [60])) (wrL (wrL { st with inn := [], sc := 0 } (gap 60 s.data.toList ++ [60])) (cl names rest))) :
    Does p W 115 (.pointer (some ⟨b, 0, none⟩)) st (wrL st (cl names (s :: rest))) := by
  have c0 : W.cell? ⟨b, 0, none⟩ = some (.iface 79 (.pointer (some ⟨nb, 0, none⟩))) := by rw [cell_of_row W b 0 _ _ (0, 0) hblk]; rfl
  have c1 : W.cell? ⟨b, 1, none⟩ = some v := by rw [cell_of_row W b 1 _ _ (0, 0) hblk]; rfl
  have hsn := size_pos hs
  have g1 := gap_len 60 s.data.toList
  rw [size_list] at g1
  have e1 : ({ (({ st with inn := [] } : St).wr s).ltb with sc := 0 } : St).wb 60 = wrL { st with inn := [], sc := 0 } (gap 60 s.data.toList ++ [60]) := by
    rw [wr_wrL, ltb_gap _ _ hsn, wb_wrL]
    rw [← wrL_app]
    rfl
  have hL2 : ListDoes p W true vs (({ (({ st with inn := [] } : St).wr s).ltb with sc := 0 } : St).wb 60) (wrL (wrL { st with inn := [], sc := 0 } (gap 60 s.data.toList ++ [60])) (cl names rest)) := by rw [e1]; exact hL
  have h := templateDoes W p b _ v vs st (({ st with inn := [] } : St).wr s) (wrL (wrL { st with inn := [], sc := 0 } (gap 60 s.data.toList ++ [60])) (cl names rest)) c0 c1 hb hE (printsName W p nb s { st with inn := [] } hn hnb (by show st.txt.length + _ ≤ _; omega) hpl (hp.name nb)) htp hll
    (by rw [wr_len]; show st.txt.length + _ + _ ≤ _; omega) (by rw [wrL_len, wrL_len, List.length_append]; show st.txt.length + _ + _ + _ ≤ _; simp only [List.length_cons, List.length_nil]; omega) hL2
  have e2 : wrL st (cl names (s :: rest)) = { (St.gtb (wrL (wrL { st with inn := [], sc := 0 } (gap 60 s.data.toList ++ [60])) (cl names rest))).wb 62 with sc := (({ st with inn := [] } : St).wr s).sc, inn := st.inn } := by
    rw [wrL_app, gtb_gap _ _ _ hne, wb_wrL, wrL_app]
    rfl
  rw [e2]
  exact h

theorem elems_names {W : World} {v : Value} {l : List ByteArray} (h : NamesV W v l) (hm : l.length ≤ 1000000) : ∃ cs : List Nat, cs.length = l.length ∧ (∀ i c, cs[i]? = some c → c < W.heap.size ∧ W.cell? ⟨c, 0, none⟩ = some (.string (l.getD i ByteArray.empty))) ∧
    ElemsAt W W.heap.size v (cs.map fun c => .iface 79 (.pointer (some ⟨c, 0, none⟩))) := by
  obtain ⟨a, c, cs, rfl, hcl, h3⟩ := h
  refine ⟨cs, hcl, fun i cb hi => ?_, a, c, by simp [hcl], by simpa [hcl] using hm, fun i x hx => ?_⟩
  · obtain ⟨g, _, _, h2⟩ := h3 i cb hi
    exact ⟨World.block_lt_of_cell? W _ h2, h2⟩
  · rw [List.getElem?_map] at hx
    obtain ⟨cb, hi, rfl⟩ := Option.map_eq_some_iff.1 hx
    obtain ⟨g, e, h1, _⟩ := h3 i cb hi
    exact ⟨g, e, World.block_lt_of_cell? W _ h1, h1⟩

/-- The arguments of a Template: what they print. -/
theorem argsList (W : World) (names : List ByteArray) (hn0 : 0 < names.length) (hnm : names.length ≤ 1000000) (hne : ∀ s ∈ names, 0 < s.size) (l : List ByteArray) : (∀ s ∈ l, 0 < s.size) → ∀ (B : Nat) (v : Value) (st : St), TArgs W names B l v → PrtT W W.heap.size B st.prt → st.prt.length + l.length ≤ 1000000 → st.tp = true → st.ll = false →
    st.txt.length + 2 * sumLen names + 10 * sumLen l + 20 ≤ 140737488000000 → ∃ vs, ElemsAt W W.heap.size v vs ∧ ListDoes W.heap.size W true vs st (wrL st (cl names l)) := by
  induction l with
  | nil =>
    intro _ B v st hT hp hpl htp hll hl
    obtain ⟨cs, h1, h2, h3⟩ := elems_names hT hnm
    exact ⟨_, h3, namesList W W.heap.size B names true cs st h1 h2 hp (by simpa using hpl) hll (by omega)⟩
  | cons s l ih =>
    intro hls B v st hT hp hpl htp hll hl
    obtain ⟨b, nb, g, v', rfl, hbB, c0, hblk, cn, hT2⟩ := hT
    have hbp : b < W.heap.size := (Array.getElem?_eq_some_iff.1 hblk).1
    simp only [sumLen] at hl
    have hs := hls s (by simp)
    have hcl := cl_len names l
    have g1 := gap_len 60 s.data.toList
    rw [size_list] at g1
    simp only [List.length_cons] at hpl
    obtain ⟨vs, hE, hL⟩ := ih (fun x hx => hls x (by simp [hx])) b v' (wrL { st with prt := st.prt ++ [.iface 94 (.pointer (some ⟨b, 0, none⟩))], inn := [], sc := 0 } (gap 60 s.data.toList ++ [60])) hT2
      (fun x hx => by
        rcases List.mem_append.1 hx with hx | hx
        · obtain ⟨b', cs, t, h1, h2⟩ := hp x hx
          exact ⟨b', cs, t, by omega, h2⟩
        · exact ⟨b, _, _, Nat.le_refl _, hbp, List.mem_singleton.1 hx, hblk⟩)
      (by show (st.prt ++ [_]).length + _ ≤ _; simp; omega) htp hll (by rw [wrL_len, List.length_append]; show st.txt.length + _ + _ + _ + _ ≤ _; simp only [List.length_cons, List.length_nil]; omega)
    have hd := tplDoes W W.heap.size b nb names l s v' vs { st with prt := st.prt ++ [.iface 94 (.pointer (some ⟨b, 0, none⟩))] } hbp (World.block_lt_of_cell? W _ cn) hblk cn hs (cl_ne names l hn0 hne) hE htp hll (by show st.txt.length + _ + _ + _ ≤ _; omega)
      (fun x hx => by
        rcases List.mem_append.1 hx with hx | hx
        · obtain ⟨b', cs, t, h1, h2⟩ := hp x hx
          exact ⟨b', cs, t, by omega, h2⟩
        · exact ⟨b, _, _, Nat.le_refl _, hbp, List.mem_singleton.1 hx, hblk⟩) (by simp; omega) hL
    have hpr := prints_of W W.heap.size _ _ b _ st (wrL st (cl names (s :: l))) (isTemplate b) (hp.tpl hbB hbp hblk) (by omega) hd
    exact ⟨[.iface 94 (.pointer (some ⟨b, 0, none⟩))], ⟨some ⟨g, 0, none⟩, 1, rfl, by simp, fun i x hi => by
      have hi0 : i = 0 := by have := (List.getElem?_eq_some_iff.1 hi).1; simp at this; omega
      subst hi0
      obtain rfl : Value.iface 94 (.pointer (some ⟨b, 0, none⟩)) = x := by simpa using hi
      exact ⟨g, rfl, World.block_lt_of_cell? W _ c0, c0⟩⟩, ⟨_, fullTemplate b, by omega, hll, hpr, rfl⟩⟩
end Go.Proofs.Ytabnnnnheipldaa
