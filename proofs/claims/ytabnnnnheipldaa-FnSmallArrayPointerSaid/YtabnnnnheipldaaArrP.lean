/- ArrayType.print, where a pointer to the arrays is being printed, and impl.PrintArrayPointer; conditions: fewer than 2^47 bytes, 1000 arrays at most. -/
import Derived.Test.YtabnnnnheipldaaDim
namespace Go.Proofs.Ytabnnnnheipldaa
open Go.ChangeShapes Go.WideShapes Go.ChangeAt Go.RowKit

theorem printsBase (W : World) (p b : Nat) (s : ByteArray) (st : St) (hb : W.cell? ⟨b, 0, none⟩ = some (.string s)) (hbp : b < p) (hll : st.ll = false) (hl : st.txt.length + s.size ≤ 140737488355328) (hlen : st.prt.length ≤ 1000000)
    (hf : Fresh p W st.prt (.iface 82 (.pointer (some ⟨b, 0, none⟩)))) : Prints p W (.iface 82 (.pointer (some ⟨b, 0, none⟩))) st (st.wr s) :=
  prints_of W p _ _ b _ st (st.wr s) (isBuiltin b) hf hlen (builtinDoes W p b s { st with prt := st.prt ++ [_] } hb hbp hll hl)

/-- An array whose element prints all inner types. -/
theorem arrAll (W : World) (p b : Nat) (el : Value) (st st2 : St) (h1 : W.cell? ⟨b, 1, none⟩ = some el) (hb : b < p) (hlen : st.inn.length ≤ 1000000)
    (hE : Prints p W el { st with inn := st.inn ++ [.iface 90 (.pointer (some ⟨b, 0, none⟩))] } st2) (e2 : st2.inn = []) :
    Does p W 110 (.pointer (some ⟨b, 0, none⟩)) st st2 := by
  intro w sl hlo h
  have c1 := (hlo.cell (o := 1) hb).trans h1
  have c8 := h.c8
  have H := Lib.hid h
  have L := Lib.hid hlo
  have HE := Lib.hid hE
  have E2 := Lib.hid e2
  clear h hlo hE h1 e2
  go_enter Try.func110, Try.ntmps110
  go_wp2_with (first | (at_builtin; refine wpList_pushInn rfl (.tmp 9) (.tmp 12) rfl H.out 90 b rfl rfl hlen ?_; intro gg cap w2 d8 e8 hP2; have d1 := ((hP2.2.lo H.out L.out).cell (o := 1) hb).trans ((L.out.cell (o := 1) hb).symm.trans c1); have P2 := Lib.hid hP2; clear hP2))
  refine (HE.out _ _ (P2.out.2.lo H.out L.out) P2.out.1).mono ?_
  rintro e w3 ⟨rfl, sl3, h3, f3⟩
  obtain ⟨ia, ic, ei⟩ := h3.innForm
  have g8 := h3.c8
  rw [ei, E2.out] at g8
  have H3 := Lib.hid h3
  have F3 := Lib.hid f3
  clear h3 f3 ei
  go_wp2_with fail
  go_end0
  exact ⟨rfl, sl3, H3.out, P2.out.2.trans F3.out⟩

set_option maxRecDepth 100000 in
set_option maxHeartbeats 2000000 in
/-- An array whose element leaves the inner types. -/
theorem arrLast (W : World) (p b : Nat) (el : Value) (st st2 st3 : St) (h1 : W.cell? ⟨b, 1, none⟩ = some el) (hb : b < p) (hlen : st.inn.length ≤ 1000000)
    (hE : Prints p W el { st with inn := st.inn ++ [.iface 90 (.pointer (some ⟨b, 0, none⟩))] } st2) (e2 : st2.inn = st.inn ++ [.iface 90 (.pointer (some ⟨b, 0, none⟩))])
    (hD : Does p W 112 (.pointer (some ⟨b, 0, none⟩)) { st2 with inn := st.inn } st3) :
    Does p W 110 (.pointer (some ⟨b, 0, none⟩)) st st3 := by
  intro w sl hlo h
  have c1 := (hlo.cell (o := 1) hb).trans h1
  have c8 := h.c8
  have H := Lib.hid h
  have L := Lib.hid hlo
  have HE := Lib.hid hE
  have HD := Lib.hid hD
  have E2 := Lib.hid e2
  clear h hlo hE h1 e2 hD
  go_enter Try.func110, Try.ntmps110
  go_wp2_with (first | (at_builtin; refine wpList_pushInn rfl (.tmp 9) (.tmp 12) rfl H.out 90 b rfl rfl hlen ?_; intro gg cap w2 d8 e8 hP2; have d1 := ((hP2.2.lo H.out L.out).cell (o := 1) hb).trans ((L.out.cell (o := 1) hb).symm.trans c1); have P2 := Lib.hid hP2; clear hP2))
  refine (HE.out _ _ (P2.out.2.lo H.out L.out) P2.out.1).mono ?_
  rintro e w3 ⟨rfl, sl3, h3, f3⟩
  have l3 := f3.lo P2.out.1 (P2.out.2.lo H.out L.out)
  obtain ⟨ja, jc, ej, r1, r2, -, hpop⟩ := h3.popInn E2.out
  have m8 := h3.c8
  have n8 := h3.free 8
  rw [ej] at m8
  have H3 := Lib.hid h3
  have F3 := Lib.hid f3
  have L3 := Lib.hid l3
  have PP := Lib.hid hpop
  clear h3 f3 ej hpop l3
  go_wp2_with fail
  refine (HD.out _ _ (PP.out.2.lo H3.out L3.out) PP.out.1).mono ?_
  rintro e w4 ⟨rfl, sl4, h4, f4⟩
  have H4 := Lib.hid h4
  have F4 := Lib.hid f4
  clear h4 f4
  go_wp2_with fail
  go_end0
  exact ⟨rfl, sl4, H4.out, P2.out.2.trans (F3.out.trans (PP.out.2.trans F4.out))⟩

/-- All that is being printed are arrays from an index on. -/
def PrtGe (B n j : Nat) (l : List Value) : Prop := ∀ x, x ∈ l → ∃ i, j ≤ i ∧ i < n ∧ x = .iface 90 (.pointer (some ⟨B + 2 * i + 2, 0, none⟩))

def fin (l : List ByteArray) (base : ByteArray) (st : St) : St := { st with inn := [], txt := st.txt ++ base.data.toList ++ dt l (l.length - 1), last := 93 }

structure Fits (l : List ByteArray) (base : ByteArray) (j : Nat) (st : St) : Prop where
  txt : st.txt.length + 2 * base.size + (dl l).length + 100 ≤ 140737488000000
  prt : st.prt.length + j ≤ 50000
  len : l.length ≤ 50000
  lo : 0 ≤ st.sc
  hi : st.sc ≤ 1000
  ll : st.ll = false

theorem arrDoes (W : World) (p B bp : Nat) (base : ByteArray) (l : List ByteArray) (hA : ArrsAt W B base l l.length) (hB : B + 2 * l.length < p) (j : Nat) : ∀ (m : Nat), j + m + 1 = l.length → ∀ st : St, st.inn = il bp B l.length m → PrtGe B l.length j st.prt → Fits l base j st →
    Does p W 110 (.pointer (some ⟨B + 2 * j + 2, 0, none⟩)) st (fin l base st) := by
  induction j with
  | zero =>
    intro m hm st hi hp hf
    have hlen : st.inn.length = m + 1 := by rw [hi]; simp [il]
    have hf2 := hf.len
    have hf3 := hf.prt
    have hf1 := hf.txt
    have e : m = l.length - 1 := by omega
    have hd := dimAll W p B bp base l hA hB m 0 hm { ({ st with inn := st.inn ++ [.iface 90 (.pointer (some ⟨B + 2 * 0 + 2, 0, none⟩))] } : St).wr base with inn := st.inn } hi
      (fun x hx => (hp x hx).elim fun i h => ⟨_, h.2.2⟩) ⟨by show (st.wr base).txt.length + _ + _ + _ ≤ _; rw [wr_len]; omega, by show st.prt.length + _ ≤ _; omega, hf.lo, hf.hi⟩
    have h := arrLast W p (B + 2 * 0 + 2) _ st _ _ (cell_of_row W _ 1 _ _ (0, 0) (hA.2 0 (by omega)).2) (by omega) (by omega)
      (printsBase W p B base _ (cell_of_row W _ 0 _ _ (0, 0) hA.1) (by omega) hf.ll (by show st.txt.length + _ ≤ _; omega) (by show st.prt.length ≤ _; omega) (fresh_type p W _ _ _ (fun x hx => (hp x hx).elim fun i h => ⟨_, _, h.2.2, by decide⟩))) rfl hd
    rw [e] at h
    exact h
  | succ j ih =>
    intro m hm st hi hp hf
    have hlen : st.inn.length = m + 1 := by rw [hi]; simp [il]
    have hf2 := hf.len
    have hf3 := hf.prt
    have hf1 := hf.txt
    have hin : st.inn ++ [.iface 90 (.pointer (some ⟨B + 2 * (j + 1) + 2, 0, none⟩))] = il bp B l.length (m + 1) := by
      rw [hi, il_succ]
      have e : l.length - m = j + 1 + 1 := by omega
      rw [e]
      rfl
    have hpr := prints_of W p _ _ (B + 2 * j + 2) _ { st with inn := st.inn ++ [.iface 90 (.pointer (some ⟨B + 2 * (j + 1) + 2, 0, none⟩))] } (fin l base st) (isArray _) (fun x hx => by
        obtain ⟨i, hi1, hi2, rfl⟩ := hp x hx
        refine ⟨_, _, rfl, fun w hw => ?_⟩
        have k1 := (hA.2 i (by omega)).2
        have k2 := (hA.2 j (by omega)).2
        rw [← hw _ (by omega)] at k1 k2
        exact eql_arr_other _ _ w _ _ _ _ (by omega) k1 k2) (by show st.prt.length ≤ _; omega)
      (ih (m + 1) (by omega) { st with inn := st.inn ++ [.iface 90 (.pointer (some ⟨B + 2 * (j + 1) + 2, 0, none⟩))], prt := st.prt ++ [.iface 90 (.pointer (some ⟨B + 2 * j + 2, 0, none⟩))] } hin (fun x hx => by
        rcases List.mem_append.1 hx with hx | hx
        · obtain ⟨i, hi1, hi2, e⟩ := hp x hx
          exact ⟨i, by omega, hi2, e⟩
        · exact ⟨j, Nat.le_refl _, by omega, List.mem_singleton.1 hx⟩) ⟨hf.txt, by simp; omega, hf.len, hf.lo, hf.hi, hf.ll⟩)
    exact arrAll W p (B + 2 * (j + 1) + 2) _ st (fin l base st) (cell_of_row W _ 1 _ _ (0, 0) (hA.2 (j + 1) (by omega)).2) (by omega) (by omega) hpr rfl

/-- The whole print of a pointer to arrays, from the start. -/
theorem arrWhole (W : World) (p B bp : Nat) (base : ByteArray) (l : List ByteArray) (hA : ArrsAt W B base l l.length) (hB : B + 2 * l.length < p) (hbp : bp < p) (h0 : W.cell? ⟨bp, 0, none⟩ = some (arrE B l.length)) (hn : 0 < l.length) (hm : l.length ≤ 1000)
    (hs : 2 * base.size + (dl l).length + 100 ≤ 140737488000000) : Does p W 91 (.pointer (some ⟨bp, 0, none⟩)) st0 (fin l base st0) := by
  obtain ⟨j, hj⟩ : ∃ j, l.length = j + 1 := ⟨l.length - 1, by omega⟩
  have hd := arrDoes W p B bp base l hA hB j 0 (by omega) { st0 with inn := st0.inn ++ [.iface 59 (.pointer (some ⟨bp, 0, none⟩))], prt := st0.prt ++ [.iface 90 (.pointer (some ⟨B + 2 * j + 2, 0, none⟩))] } rfl
    (fun x hx => ⟨j, Nat.le_refl _, by omega, List.mem_singleton.1 hx⟩) ⟨by show 0 + _ + _ + _ ≤ _; omega, by show 1 + j ≤ _; omega, by omega, (by show (0 : Int) ≤ 1; decide), (by show (1 : Int) ≤ 1000; decide), rfl⟩
  have hp := prints_of W p _ _ (B + 2 * j + 2) _ { st0 with inn := st0.inn ++ [.iface 59 (.pointer (some ⟨bp, 0, none⟩))] } (fin l base st0) (isArray _) (fresh_nil _ _ _) (by show 0 ≤ _; omega) hd
  rw [hj] at h0
  exact pointerDoes W p bp _ st0 (fin l base st0) h0 hbp (by show 0 ≤ _; omega) hp rfl

/-- The text of lengths in brackets. -/
def lens (l : List ByteArray) : ByteArray := l.foldl (fun a s => a ++ (((⟨#[91]⟩ : ByteArray) ++ s) ++ ⟨#[93]⟩)) ⟨#[]⟩
theorem lens_snoc (l : List ByteArray) (s : ByteArray) : lens (l ++ [s]) = lens l ++ (((⟨#[91]⟩ : ByteArray) ++ s) ++ ⟨#[93]⟩) := by simp [lens, List.foldl_append]
theorem lens_fold (l : List ByteArray) : ∀ a : ByteArray, (l.foldl (fun a s => a ++ (((⟨#[91]⟩ : ByteArray) ++ s) ++ ⟨#[93]⟩)) a).data.toList = a.data.toList ++ dl l := by
  induction l with
  | nil => intro a; simp [dl]
  | cons s l ih => intro a; simp [ih, dl, ByteArray.data_append]
theorem lens_data (l : List ByteArray) : (lens l).data.toList = dl l := by simp [lens, lens_fold]
theorem lens_size (l : List ByteArray) : (lens l).size = (dl l).length := by rw [← lens_data, Array.length_toList]; rfl
theorem dl_len (l : List ByteArray) : (dl l).length = sumLen l + l.length := by
  induction l with
  | nil => rfl
  | cons s l ih =>
    have e2 : s.data.toList.length = s.size := by rw [Array.length_toList]; rfl
    simp only [dl, List.length_append, List.length_cons, e2, ih, sumLen, List.length_nil]
    omega

theorem fin_text (base : ByteArray) (l : List ByteArray) : (⟨(fin l base st0).txt.toArray⟩ : ByteArray) = (base ++ (⟨#[32, 40, 42, 41, 32]⟩ : ByteArray)) ++ lens l := by
  apply ByteArray.ext
  rw [ByteArray.data_append, ByteArray.data_append]
  apply Array.ext'
  rw [Array.toList_append, Array.toList_append, lens_data]
  cases l with
  | nil => simp [fin, st0, dt, dl]
  | cons s l => simp [fin, st0, dt]

set_option maxRecDepth 100000 in
set_option maxHeartbeats 1000000 in
theorem printArrayPointerC (base : ByteArray) (v : Value) (l : List ByteArray) (w : World) (h : Strs w v l) (hs : 2 * base.size + (dl l).length + 100 ≤ 140737488000000) (hn : 0 < l.length) (hm : l.length ≤ 1000) :
    Calls Try.prog 22 #[.string base, v] w (Says ((base ++ (⟨#[32, 40, 42, 41, 32]⟩ : ByteArray)) ++ lens l) w) := by
  have ha := Lib.hid (arraysC base v l w h (by omega))
  have T := Lib.hid (fin_text base l)
  obtain ⟨j, hj⟩ : ∃ j, l.length = j + 1 := ⟨l.length - 1, by omega⟩
  clear h
  go_enter Try.func22, Try.ntmps22
  go_wp2_with fail
  refine ha.out.mono ?_
  rintro e w1 ⟨rfl, hA, hb, hsz⟩
  have hA' : ArrsAt (w1.alloc (.cells #[arrE w.heap.size l.length] 62)) w.heap.size base l l.length := hA.below ((Below.refl _ _).alloc (Nat.le_refl _) _)
  have K := Lib.hid (toStringC _ _ _ w1.heap.size _ _ (isPointer w1.heap.size) (arrWhole _ _ w.heap.size w1.heap.size base l hA' (by simp; omega) (by simp) ((World.cell?_alloc_at (w := w1) _ _ _ _ rfl).trans (by simp)) hn hm hs))
  have B1 := Lib.hid hb
  have HZ := Lib.hid hsz
  clear hA hb hA' ha hsz
  have eA : arrE w.heap.size l.length = .iface 90 (.pointer (some ⟨w.heap.size + 2 * (j + 1), 0, none⟩)) := by rw [hj]; rfl
  rw [eA] at K ⊢
  clear eA
  go_wp2_with fail
  refine K.out.mono ?_
  rintro e w2 ⟨rfl, hb2⟩
  have B2 := Lib.hid hb2
  clear hb2 K
  go_wp2_with fail
  go_ret
  refine ⟨?_, (B1.out.alloc (by have := HZ.out; omega) _).trans (B2.out.mono (by have := HZ.out; simp; omega))⟩
  rw [← T.out]
  rfl
end Go.Proofs.Ytabnnnnheipldaa
