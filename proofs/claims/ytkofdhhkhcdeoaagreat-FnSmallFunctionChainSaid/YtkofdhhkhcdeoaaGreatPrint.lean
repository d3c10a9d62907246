/- printState.print: the element is noted, printed by its method, and struck off again; conditions: the element is none of those that are being printed, and these are a million at most. -/
import Derived.Test.YtkofdhhkhcdeoaaGreatStr
import Derived.Deep.QuietTactic
import Derived.BigQuiet
import Derived.LaidEql
namespace Go.Proofs.YtkofdhhkhcdeoaaGreat
open Go.ChangeShapes Go.WideShapes Go.ChangeAt Go.RowKit

/-- What a call of printState.print does with an element. -/
def Prints (p : Nat) (W : World) (v : Value) (st st' : St) : Prop :=
  ∀ w sl, Lo p W w → PsAt w p st sl → Calls Tryz.prog 35 #[.pointer (some ⟨p, 0, none⟩), v] w (Wr p sl w st' (.tuple #[]))

/-- No element of a list is the one. -/
def Fresh (p : Nat) (W : World) (l : List Value) (v : Value) : Prop :=
  ∀ x, x ∈ l → ∃ t' b', x = .iface t' (.pointer (some ⟨b', 0, none⟩)) ∧ ∀ w, Lo p W w → (binOp .eql 30 x v).run Tryz.prog w = .ok (.bool false) w

theorem PsAt.drewN {w : World} {p : Nat} {st : St} {sl : Sl} (h : PsAt w p st sl) (n : Nat) : PsAt (w.drewN n) p st sl ∧ Fr p sl sl w (w.drewN n) := ⟨h, rfl, rfl, rfl, Nat.le_refl _, fun _ _ _ _ _ _ => rfl, fun _ e => .inl e, fun _ e => .inl e, fun _ e => .inl e⟩

/-- The element with an index of the list that is being printed. -/
theorem PsAt.prtCell {w : World} {p : Nat} {st : St} {sl : Sl} (h : PsAt w p st sl) {a : Option Addr} {c : Nat} (e : sl.prt = .slice a st.prt.length c) (k : Nat) (hk : k < st.prt.length) :
    ∃ g, a = some ⟨g, 0, none⟩ ∧ w.cell? ⟨g, k, none⟩ = some (st.prt[k]) := by
  obtain ⟨ad, _, hb, o1, o2, o3, _⟩ := h
  rcases o3.2 with ⟨_, e0⟩ | ⟨g, cap, cur, e1, _, hg, _, _, _, ht⟩
  · omega
  · rw [e1] at e
    simp at e
    refine ⟨g, e.1.symm, ?_⟩
    rw [cell_of_row w g k cur _ (0, 0) hg]
    have : (cur.toList.take (st.prt.length * 1))[k]? = some st.prt[k] := by rw [ht, List.getElem?_eq_getElem hk]
    rw [List.getElem?_take_of_lt (by omega)] at this
    simpa using this
theorem PsAt.innCell {w : World} {p : Nat} {st : St} {sl : Sl} (h : PsAt w p st sl) {a : Option Addr} {c : Nat} (e : sl.inn = .slice a st.inn.length c) (k : Nat) (hk : k < st.inn.length) :
    ∃ g, a = some ⟨g, 0, none⟩ ∧ w.cell? ⟨g, k, none⟩ = some (st.inn[k]) := by
  obtain ⟨ad, _, hb, o1, o2, o3, _⟩ := h
  rcases o2.2 with ⟨_, e0⟩ | ⟨g, cap, cur, e1, _, hg, _, _, _, ht⟩
  · omega
  · rw [e1] at e
    simp at e
    refine ⟨g, e.1.symm, ?_⟩
    rw [cell_of_row w g k cur _ (0, 0) hg]
    have : (cur.toList.take (st.inn.length * 1))[k]? = some st.inn[k] := by rw [ht, List.getElem?_eq_getElem hk]
    rw [List.getElem?_take_of_lt (by omega)] at this
    simpa using this

/-! ### The two lists of the state: an element more, one less -/
theorem PsAt.setPrt {w : World} {p : Nat} {st : St} {sl : Sl} (h : PsAt w p st sl) {v' : Value} {l' : List Value} (hown : w.ownsRow (p + 1) 30 1 v' l'.length l') (hsep : ∀ k, sl.inn.ownBlock = some k → v'.ownBlock ≠ some k) :
    PsAt (w.setCell ⟨p, 9, none⟩ v') p { st with prt := l' } { sl with prt := v' } := by
  obtain ⟨ad, ha, hb, o1, o2, o3, hne⟩ := h
  exact ⟨ad, ha, heap_set hb, own_set (by omega) o1, own_set (by omega) o2, own_set (by omega) hown, hsep⟩
theorem PsAt.setInn {w : World} {p : Nat} {st : St} {sl : Sl} (h : PsAt w p st sl) {v' : Value} {l' : List Value} (hown : w.ownsRow (p + 1) 30 1 v' l'.length l') (hsep : ∀ k, v'.ownBlock = some k → sl.prt.ownBlock ≠ some k) :
    PsAt (w.setCell ⟨p, 8, none⟩ v') p { st with inn := l' } { sl with inn := v' } := by
  obtain ⟨ad, ha, hb, o1, o2, o3, hne⟩ := h
  exact ⟨ad, ha, heap_set hb, own_set (by omega) o1, own_set (by omega) hown, own_set (by omega) o3, hsep⟩

theorem kept_row {w w2 : World} {B e s n : Nat} {v : Value} {row : Option Nat} {xs : List Value} (h : w.ownsRow B e s v n xs) (hg : w.grownBy w2 row) (hne : ∀ k, v.ownBlock = some k → row ≠ some k) : w2.ownsRow B e s v n xs := by
  refine h.kept hg ?_
  cases hv : v.ownBlock with
  | none => exact .inl rfl
  | some k => exact .inr fun e => hne k hv e.symm

theorem PsAt.sep {w : World} {p : Nat} {st : St} {sl : Sl} (h : PsAt w p st sl) : ∀ k, sl.inn.ownBlock = some k → sl.prt.ownBlock ≠ some k := by obtain ⟨ad, _, hb, o1, o2, o3, hne⟩ := h; exact hne

theorem buf_sep {w : World} {p : Nat} {st : St} {sl : Sl} (h : PsAt w p st sl) {v : Value} {n : Nat} {xs : List Value} (o : w.ownsRow (p + 1) 30 1 v n xs) : ∀ k, sl.buf.ownBlock = some k → v.ownBlock ≠ some k := by
  intro k hk hv
  have o1 := h.ownBuf
  rcases o.2 with ⟨e1, _⟩ | ⟨g, cap, cur, e1, _, hg, _⟩
  · rw [e1] at hv; cases hv
  · rcases o1.2 with ⟨e2, _⟩ | ⟨g2, cap2, cur2, e2, _, hg2, _⟩
    · rw [e2] at hk; cases hk
    · rw [e1] at hv
      rw [e2] at hk
      simp [Value.ownBlock] at hv hk
      subst hv hk
      rw [hg2] at hg
      simp at hg

/-- Behind an append to one of the two lists' rows the state lies as it did, and the other rows. -/
theorem PsAt.grewPrt {w w2 : World} {p : Nat} {st : St} {sl : Sl} (h : PsAt w p st sl) (hgrow : w.grownBy w2 sl.prt.ownBlock) {v' : Value} {l' : List Value} (hown : w2.ownsRow (p + 1) 30 1 v' l'.length l')
    (hat : ∀ k, v'.ownBlock = some k → sl.prt.ownBlock = some k ∨ w.heap.size ≤ k) :
    PsAt (w2.setCell ⟨p, 9, none⟩ v') p { st with prt := l' } { sl with prt := v' } ∧ Fr p sl { sl with prt := v' } w (w2.setCell ⟨p, 9, none⟩ v') := by
  have hrow := h.rowPrt
  have hlt := h.lt
  have bs := buf_sep h h.ownPrt
  obtain ⟨ad, ha, hb, o1, o2, o3, hne⟩ := h
  have hb2 := (hgrow.block p hlt (fun e => hrow e.symm)).trans hb
  refine ⟨⟨ad, ha, heap_set hb2, own_set (by omega) (kept_row o1 hgrow bs), own_set (by omega) (kept_row o2 hgrow hne), own_set (by omega) hown, ?_⟩, ?_⟩
  · intro k hk hv
    rcases hat k hv with e | e
    · exact hne k hk e
    · have := (o2.lt k hk).2; omega
  · refine ⟨hgrow.os, hgrow.tape, hgrow.output, by simpa [World.setCell] using hgrow.size, ?_, fun _ e => .inl e, fun _ e => .inl e, hat⟩
    intro k hk hp _ _ hr
    rw [Below.heap_setCell _ _ _ _ hp, hgrow.block k hk (fun e => hr e.symm)]
theorem PsAt.grewInn {w w2 : World} {p : Nat} {st : St} {sl : Sl} (h : PsAt w p st sl) (hgrow : w.grownBy w2 sl.inn.ownBlock) {v' : Value} {l' : List Value} (hown : w2.ownsRow (p + 1) 30 1 v' l'.length l')
    (hat : ∀ k, v'.ownBlock = some k → sl.inn.ownBlock = some k ∨ w.heap.size ≤ k) :
    PsAt (w2.setCell ⟨p, 8, none⟩ v') p { st with inn := l' } { sl with inn := v' } ∧ Fr p sl { sl with inn := v' } w (w2.setCell ⟨p, 8, none⟩ v') := by
  have hrow := h.rowInn
  have hlt := h.lt
  have bs := buf_sep h h.ownInn
  obtain ⟨ad, ha, hb, o1, o2, o3, hne⟩ := h
  have hb2 := (hgrow.block p hlt (fun e => hrow e.symm)).trans hb
  refine ⟨⟨ad, ha, heap_set hb2, own_set (by omega) (kept_row o1 hgrow bs), own_set (by omega) hown, own_set (by omega) (kept_row o3 hgrow (fun k hk e => hne k e hk)), ?_⟩, ?_⟩
  · intro k hk hv
    rcases hat k hk with e | e
    · exact hne k e hv
    · have := (o3.lt k hv).2; omega
  · refine ⟨hgrow.os, hgrow.tape, hgrow.output, by simpa [World.setCell] using hgrow.size, ?_, fun _ e => .inl e, hat, fun _ e => .inl e⟩
    intro k hk hp _ hr _
    rw [Below.heap_setCell _ _ _ _ hp, hgrow.block k hk (fun e => hr e.symm)]

theorem own_len (a : Option Addr) (n m : Nat) {c d : Nat} : (Value.slice a n c).ownBlock = (Value.slice a m d).ownBlock := by cases a <;> rfl

/-- A row without its last elements. -/
theorem own_cut {w : World} {B e n m c : Nat} {a : Option Addr} {xs : List Value} (h : w.ownsRow B e 1 (.slice a n c) n xs) (hm : m ≤ n) (hn : 0 < n) : w.ownsRow B e 1 (.slice a m c) m (xs.take m) := by
  have hx : xs.length = n := by simpa using h.1
  refine ⟨by simp; omega, ?_⟩
  rcases h.2 with ⟨e1, e2⟩ | ⟨g, cap, cur, e1, h1, h2, h3, h4, h5, h6⟩
  · omega
  · simp at e1
    obtain ⟨rfl, rfl⟩ := e1
    refine .inr ⟨g, c, cur, rfl, h1, h2, by omega, h4, h5, ?_⟩
    rw [← h6, List.take_take]
    congr 1
    omega

set_option maxRecDepth 100000 in
set_option maxHeartbeats 2000000 in
theorem prints_of (W : World) (p : Nat) (v : Value) (t b k : Nat) (st st' : St) (ha : IsAst v t b k) (hf : Fresh p W st.prt v) (hlen : st.prt.length ≤ 1000000)
    (hd : Does p W k (.pointer (some ⟨b, 0, none⟩)) { st with prt := st.prt ++ [v] } { st' with prt := st.prt ++ [v] }) : Prints p W v st { st' with prt := st.prt } := by
  intro w sl hlo h
  obtain ⟨rfl, hnil, hmet, hcf⟩ := ha
  obtain ⟨i0, hi0, hz0, hz1, hz2⟩ := info_parts infoA
  have c3 := h.c3
  have H := Lib.hid h
  have L := Lib.hid hlo
  have F := Lib.hid hf
  have D := Lib.hid hd
  clear h hlo hf hd
  go_enter Tryz.func35, Tryz.ntmps35
  go_wp2_with fail
  go_quiet (fail)
  obtain ⟨hq, fq⟩ := H.out.drewN nq
  have lq : Hid (Lo p W (w.drewN nq)) := L.out
  have FQ := Lib.hid fq
  generalize w.drewN nq = wq at *
  obtain ⟨pa, pc, ep⟩ := hq.prtForm
  have c9 := hq.c9
  have hlt := hq.lt
  rw [ep] at c9
  have HQ := Lib.hid hq
  have EP := Lib.hid ep
  clear hq ep fq
  go_wp2_with fail
  go_loop [4, 28] (fun c i => ∃ j : Nat, j ≤ st.prt.length ∧ c = .int .i64 0 ∧ i = .int .i64 j) (fun _ i => st.prt.length - (intOf i).toNat)
  case atStart => exact ⟨0, Nat.zero_le _, rfl, rfl⟩
  case round =>
    obtain ⟨j, hj, rfl, rfl⟩ := hrel
    by_cases hjl : j < st.prt.length
    · obtain ⟨g, rfl, hcell⟩ := HQ.out.prtCell EP.out j hjl
      obtain ⟨t', b', ex, hne'⟩ := F.out (st.prt[j]) (List.getElem_mem hjl)
      have hne := hne' wq lq.out
      rw [ex] at hcell hne
      clear ex hne'
      go_wp2_with fail
      go_round
      case rel => exact ⟨j + 1, by omega, rfl, by go_num⟩
      case measure => simp [intOf]; omega
    · have hown := HQ.out.ownPrt
      rw [EP.out] at hown
      have O := Lib.hid hown
      clear hown
      go_wp2_with (first | (at_builtin; refine wpList_append_lies _ rfl (.tmp 44) (.tmp 46) 41 rfl (p + 1) 30 i0 _ 1 16 Tryz.underlying41 hi0 hz0 hz1 hz2 rfl (by decide) (.slice pa st.prt.length pc) st.prt.length st.prt rfl (O.out.alloc _) ⟨wq.heap.size, 0, none⟩ 1 1 [.iface t (.pointer (some ⟨b, 0, none⟩))] rfl rfl (World.news_of_block (cs := #[.iface t (.pointer (some ⟨b, 0, none⟩))]) (t := 30) (fr := (0, 0)) (heap_alloc_new wq _)) (by simp [Value.oneCell']) (by omega) (by unfold maxLen; omega) (by omega) (by simp; omega) (wq.heap.size + 1) (by simp) ?_; intro gg cap w2 hown hgrow hat hl2; have A := HQ.out.alloc (.cells #[.iface t (.pointer (some ⟨b, 0, none⟩))] 30); have hg2 := hgrow; rw [← EP.out] at hg2 hat; have d9 := (A.1.mid hg2 A.1.rowPrt 9).1.trans A.1.c9; have e9 := (A.1.mid hg2 A.1.rowPrt 9).2; have P2 := Lib.hid (A.1.grewPrt (l' := st.prt ++ [.iface t (.pointer (some ⟨b, 0, none⟩))]) hg2 (by simpa using hown) (by simpa using lies_at hat)); have A2 := Lib.hid A.2; clear hown hgrow hat hl2 hg2 A))
      refine (D.out _ _ ((A2.out.trans P2.out.2).lo HQ.out lq.out) P2.out.1).mono ?_
      rintro e w3 ⟨rfl, sl3, h3, f3⟩
      obtain ⟨qa, qc, eq⟩ := h3.prtForm
      have eq' : sl3.prt = .slice qa (st.prt.length + 1) qc := by simpa using eq
      have d3 := h3.c9
      have e3 := h3.free 9
      rw [eq'] at d3
      have own3 := h3.ownPrt
      rw [eq'] at own3
      have own4 : w3.ownsRow (p + 1) 30 1 (.slice qa st.prt.length qc) st.prt.length st.prt := by
        have h6 := own_cut (m := st.prt.length) (by simpa using own3) (by omega) (by omega)
        simpa using h6
      have hqc : st.prt.length + 1 ≤ qc := by
        rcases own3.2 with ⟨e4, e5⟩ | ⟨g4, c4, cur4, e4, _, _, h4, _⟩
        · simp at e5
        · simp at e4 h4; omega
      have hqc2 : qc ≤ 9223372036854775807 := by
        rcases own3.2 with ⟨e4, e5⟩ | ⟨g4, c4, cur4, e4, _, _, _, h4, _⟩
        · simp at e5
        · simp at e4; unfold maxLen at h4; omega
      have H3 := Lib.hid h3
      have F3 := Lib.hid f3
      have O4 := Lib.hid own4
      have E3 := Lib.hid eq'
      clear h3 f3 own3 own4 eq eq'
      go_wp2_with fail
      go_region
      all_goals go_wp2
      all_goals go_end0
      all_goals refine ⟨rfl, _, ((H3.out.setPrt (l' := st.prt) O4.out ?_).drew).1, FQ.out.trans (A2.out.trans (P2.out.2.trans (F3.out.trans ((fr_set (sl := sl3) 9 _ { sl3 with prt := .slice qa st.prt.length qc } rfl (fun _ e => .inl e) ?_).trans ((H3.out.setPrt (l' := st.prt) O4.out ?_).drew).2))))⟩
      · intro k hk
        have := H3.out.sep k hk
        rw [E3.out, own_len qa _ st.prt.length] at this
        exact this
      · intro k hk
        rw [E3.out, own_len qa _ st.prt.length]
        exact .inl hk
      · intro k hk
        have := H3.out.sep k hk
        rw [E3.out, own_len qa _ st.prt.length] at this
        exact this
end Go.Proofs.YtkofdhhkhcdeoaaGreat
