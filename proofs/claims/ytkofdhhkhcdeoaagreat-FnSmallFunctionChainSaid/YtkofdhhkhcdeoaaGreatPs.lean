/- The print state in memory, and the contracts of what writes to it: strings.Builder's methods on its field, writeByte, writeString, startScope, endScope; conditions: no limit on the text, and fewer than 2^47 bytes. -/
import Derived.Test.YtkofdhhkhcdeoaaGreatRows
import Derived.WalkKit
import Derived.WalkSpells
import Derived.ProofKit
import Derived.OneCell
import Derived.WalkSmall
import Derived.Deep.AppendLies
import Derived.Lib.Hide
import Derived.Lib.Builder
import Derived.Lib.AppendStr
import Derived.Lib.UnsafeStr
import Derived.Laws.Externs
namespace Go.Proofs.YtkofdhhkhcdeoaaGreat
open Go.ChangeShapes Go.WideShapes Go.ChangeAt Go.RowKit

theorem infoU8 : (Tryz.prog.info? 5).map (fun i => (i.zero, i.size, i.bytes)) = some (some (.int .u8 0), 1, 1) := by kernel_rfl
theorem infoA : (Tryz.prog.info? 30).map (fun i => (i.zero, i.size, i.bytes)) = some (some .nilIface, 1, 16) := by kernel_rfl
theorem infoB : (Tryz.prog.info? 52).map (fun i => (i.size)) = some 2 := by kernel_rfl
theorem liesB : liesAt Tryz.prog Tryz.prog.depth 54 (10 / Tryz.prog.cellsOf 54) 5 52 1 = true := by kernel_rfl

/-- What a print state says. -/
structure St where
  tp : Bool
  ec : Bool
  ll : Bool
  sc : Int
  txt : List UInt8
  last : UInt8
  inn : List Value
  prt : List Value

/-- Its three slices. -/
structure Sl where
  buf : Value
  inn : Value
  prt : Value

/-- The print state lies in block p; its slices are rows of blocks behind it. -/
def PsAt (w : World) (p : Nat) (st : St) (sl : Sl) : Prop :=
  ∃ ad, (ad = none ∨ ad = some ⟨p, 5, none⟩) ∧
    w.heap[p]? = some (.cells #[.bool st.tp, .bool st.ec, .bool st.ll, .int .i64 0, .int .i64 st.sc, .pointer ad, sl.buf, .int .u8 st.last.toNat, sl.inn, sl.prt] 54 (0, 0)) ∧
    w.ownsRow (p + 1) 5 1 sl.buf st.txt.length (Lib.byteCells st.txt) ∧ w.ownsRow (p + 1) 30 1 sl.inn st.inn.length st.inn ∧ w.ownsRow (p + 1) 30 1 sl.prt st.prt.length st.prt ∧
    ∀ k, sl.inn.ownBlock = some k → sl.prt.ownBlock ≠ some k

/-- What a call leaves alone: all blocks but the state and the rows of its slices; these are the old ones, or new. -/
structure Fr (p : Nat) (sl sl' : Sl) (w w' : World) : Prop where
  os : w'.os = w.os
  tape : w'.tape = w.tape
  output : w'.output = w.output
  size : w.heap.size ≤ w'.heap.size
  block : ∀ k, k < w.heap.size → k ≠ p → sl.buf.ownBlock ≠ some k → sl.inn.ownBlock ≠ some k → sl.prt.ownBlock ≠ some k → w'.heap[k]? = w.heap[k]?
  buf : ∀ k, sl'.buf.ownBlock = some k → sl.buf.ownBlock = some k ∨ w.heap.size ≤ k
  inn : ∀ k, sl'.inn.ownBlock = some k → sl.inn.ownBlock = some k ∨ w.heap.size ≤ k
  prt : ∀ k, sl'.prt.ownBlock = some k → sl.prt.ownBlock = some k ∨ w.heap.size ≤ k

theorem Fr.refl (p : Nat) (sl : Sl) (w : World) : Fr p sl sl w w := ⟨rfl, rfl, rfl, Nat.le_refl _, fun _ _ _ _ _ _ => rfl, fun _ h => .inl h, fun _ h => .inl h, fun _ h => .inl h⟩

theorem Fr.trans {p : Nat} {sl sl1 sl2 : Sl} {w w1 w2 : World} (h : Fr p sl sl1 w w1) (k : Fr p sl1 sl2 w1 w2) : Fr p sl sl2 w w2 := by
  refine ⟨k.os.trans h.os, k.tape.trans h.tape, k.output.trans h.output, Nat.le_trans h.size k.size, ?_, ?_, ?_, ?_⟩
  · intro i hi hp hb hn hr
    rw [k.block i (Nat.lt_of_lt_of_le hi h.size) hp ?_ ?_ ?_, h.block i hi hp hb hn hr]
    · intro e; rcases h.buf i e with e | e
      · exact hb e
      · omega
    · intro e; rcases h.inn i e with e | e
      · exact hn e
      · omega
    · intro e; rcases h.prt i e with e | e
      · exact hr e
      · omega
  · intro i e
    rcases k.buf i e with e | e
    · exact h.buf i e
    · exact .inr (Nat.le_trans h.size e)
  · intro i e
    rcases k.inn i e with e | e
    · exact h.inn i e
    · exact .inr (Nat.le_trans h.size e)
  · intro i e
    rcases k.prt i e with e | e
    · exact h.prt i e
    · exact .inr (Nat.le_trans h.size e)

/-- Below the state's block nothing has turned. -/
def Lo (p : Nat) (W w : World) : Prop := ∀ k, k < p → w.heap[k]? = W.heap[k]?

theorem Lo.cell {p : Nat} {W w : World} (h : Lo p W w) {b o : Nat} (hb : b < p) : w.cell? ⟨b, o, none⟩ = W.cell? ⟨b, o, none⟩ := World.cell?_of_block (w := W) (h b hb)

theorem own_low {w : World} {B e s n : Nat} {v : Value} {xs : List Value} (h : w.ownsRow B e s v n xs) {k : Nat} (hk : k < B) : v.ownBlock ≠ some k := fun e => by have := (h.lt k e).1; omega

theorem Fr.lo {p : Nat} {st : St} {sl sl' : Sl} {W w w' : World} (hp : PsAt w p st sl) (h : Fr p sl sl' w w') (hl : Lo p W w) : Lo p W w' := by
  obtain ⟨ad, _, hb, o1, o2, o3, _⟩ := hp
  have hlt := (Array.getElem?_eq_some_iff.1 hb).1
  intro k hk
  rw [h.block k (by omega) (by omega) (own_low o1 (by omega)) (own_low o2 (by omega)) (own_low o3 (by omega))]
  exact hl k hk

/-! ### The state's cells -/
theorem heap_set {w : World} {p i : Nat} {cs : Array Value} {t : TypeId} {fr : Nat × Nat} {v : Value} (h : w.heap[p]? = some (.cells cs t fr)) : (w.setCell ⟨p, i, none⟩ v).heap[p]? = some (.cells (cs.setIfInBounds i v) t fr) := by
  simp [World.setCell, Array.getElem?_modify, h]

section
variable {w : World} {p : Nat} {st : St} {sl : Sl}
theorem PsAt.lt (h : PsAt w p st sl) : p < w.heap.size := by obtain ⟨ad, _, hb, _⟩ := h; exact (Array.getElem?_eq_some_iff.1 hb).1
theorem PsAt.c0 (h : PsAt w p st sl) : w.cell? ⟨p, 0, none⟩ = some (.bool st.tp) := by obtain ⟨ad, _, hb, _⟩ := h; simp [World.cell?, hb]
theorem PsAt.c1 (h : PsAt w p st sl) : w.cell? ⟨p, 1, none⟩ = some (.bool st.ec) := by obtain ⟨ad, _, hb, _⟩ := h; simp [World.cell?, hb]
theorem PsAt.c2 (h : PsAt w p st sl) : w.cell? ⟨p, 2, none⟩ = some (.bool st.ll) := by obtain ⟨ad, _, hb, _⟩ := h; simp [World.cell?, hb]
theorem PsAt.c3 (h : PsAt w p st sl) : w.cell? ⟨p, 3, none⟩ = some (.int .i64 0) := by obtain ⟨ad, _, hb, _⟩ := h; simp [World.cell?, hb]
theorem PsAt.c4 (h : PsAt w p st sl) : w.cell? ⟨p, 4, none⟩ = some (.int .i64 st.sc) := by obtain ⟨ad, _, hb, _⟩ := h; simp [World.cell?, hb]
theorem PsAt.c6 (h : PsAt w p st sl) : w.cell? ⟨p, 6, none⟩ = some sl.buf := by obtain ⟨ad, _, hb, _⟩ := h; simp [World.cell?, hb]
theorem PsAt.c7 (h : PsAt w p st sl) : w.cell? ⟨p, 7, none⟩ = some (.int .u8 st.last.toNat) := by obtain ⟨ad, _, hb, _⟩ := h; simp [World.cell?, hb]
theorem PsAt.c8 (h : PsAt w p st sl) : w.cell? ⟨p, 8, none⟩ = some sl.inn := by obtain ⟨ad, _, hb, _⟩ := h; simp [World.cell?, hb]
theorem PsAt.c9 (h : PsAt w p st sl) : w.cell? ⟨p, 9, none⟩ = some sl.prt := by obtain ⟨ad, _, hb, _⟩ := h; simp [World.cell?, hb]
theorem PsAt.free (h : PsAt w p st sl) (i : Nat) : w.frozen? ⟨p, i, none⟩ = false := by obtain ⟨ad, _, hb, _⟩ := h; simp [World.frozen?, hb]
theorem PsAt.bufForm (h : PsAt w p st sl) : ∃ a c, sl.buf = .slice a st.txt.length c := by
  obtain ⟨ad, _, hb, o1, o2, o3, _⟩ := h
  rcases o1.2 with ⟨e, e0⟩ | ⟨g, cap, cur, e, _⟩
  · exact ⟨none, 0, by rw [e, e0]⟩
  · exact ⟨_, _, e⟩
theorem PsAt.innForm (h : PsAt w p st sl) : ∃ a c, sl.inn = .slice a st.inn.length c := by
  obtain ⟨ad, _, hb, o1, o2, o3, _⟩ := h
  rcases o2.2 with ⟨e, e0⟩ | ⟨g, cap, cur, e, _⟩
  · exact ⟨none, 0, by rw [e, e0]⟩
  · exact ⟨_, _, e⟩
theorem PsAt.prtForm (h : PsAt w p st sl) : ∃ a c, sl.prt = .slice a st.prt.length c := by
  obtain ⟨ad, _, hb, o1, o2, o3, _⟩ := h
  rcases o3.2 with ⟨e, e0⟩ | ⟨g, cap, cur, e, _⟩
  · exact ⟨none, 0, by rw [e, e0]⟩
  · exact ⟨_, _, e⟩

/-- A store into the state's own block lets its rows stand. -/
theorem own_set {B e s n i : Nat} {v u : Value} {xs : List Value} (hB : p < B) (h : w.ownsRow B e s v n xs) : (w.setCell ⟨p, i, none⟩ u).ownsRow B e s v n xs :=
  ownsRow_setCell_other h (own_low h hB) u

theorem fr_set (i : Nat) (u : Value) (sl' : Sl) (hb : sl'.buf = sl.buf) (hn : ∀ k, sl'.inn.ownBlock = some k → sl.inn.ownBlock = some k ∨ w.heap.size ≤ k) (hr : ∀ k, sl'.prt.ownBlock = some k → sl.prt.ownBlock = some k ∨ w.heap.size ≤ k) :
    Fr p sl sl' w (w.setCell ⟨p, i, none⟩ u) :=
  ⟨rfl, rfl, rfl, by simp [World.setCell], fun k _ hp _ _ _ => Below.heap_setCell _ _ _ _ hp, fun k e => .inl (by rw [← hb]; exact e), hn, hr⟩

theorem PsAt.setLast (h : PsAt w p st sl) (b : UInt8) : PsAt (w.setCell ⟨p, 7, none⟩ (.int .u8 b.toNat)) p { st with last := b } sl ∧ Fr p sl sl w (w.setCell ⟨p, 7, none⟩ (.int .u8 b.toNat)) := by
  obtain ⟨ad, ha, hb, o1, o2, o3, hne⟩ := h
  exact ⟨⟨ad, ha, heap_set hb, own_set (by omega) o1, own_set (by omega) o2, own_set (by omega) o3, hne⟩, fr_set _ _ _ rfl (fun _ e => .inl e) (fun _ e => .inl e)⟩
theorem PsAt.setSc (h : PsAt w p st sl) (n : Int) : PsAt (w.setCell ⟨p, 4, none⟩ (.int .i64 n)) p { st with sc := n } sl ∧ Fr p sl sl w (w.setCell ⟨p, 4, none⟩ (.int .i64 n)) := by
  obtain ⟨ad, ha, hb, o1, o2, o3, hne⟩ := h
  exact ⟨⟨ad, ha, heap_set hb, own_set (by omega) o1, own_set (by omega) o2, own_set (by omega) o3, hne⟩, fr_set _ _ _ rfl (fun _ e => .inl e) (fun _ e => .inl e)⟩
theorem PsAt.setAd (h : PsAt w p st sl) : PsAt (w.setCell ⟨p, 5, none⟩ (.pointer (some ⟨p, 5, none⟩))) p st sl ∧ Fr p sl sl w (w.setCell ⟨p, 5, none⟩ (.pointer (some ⟨p, 5, none⟩))) := by
  obtain ⟨ad, ha, hb, o1, o2, o3, hne⟩ := h
  exact ⟨⟨some ⟨p, 5, none⟩, .inr rfl, heap_set hb, own_set (by omega) o1, own_set (by omega) o2, own_set (by omega) o3, hne⟩, fr_set _ _ _ rfl (fun _ e => .inl e) (fun _ e => .inl e)⟩
end

/-! ### strings.Builder on the state's field -/
set_option maxRecDepth 100000 in
set_option maxHeartbeats 1000000 in
theorem copyCheckC (w : World) (p : Nat) (st : St) (sl : Sl) (h : PsAt w p st sl) :
    Calls Tryz.prog 49 #[.pointer (some ⟨p, 5, none⟩)] w fun e w' => e = .returned (.tuple #[]) ∧ PsAt w' p st sl ∧ Fr p sl sl w w' := by
  obtain ⟨j, hj, hjs⟩ := Option.map_eq_some_iff.1 infoB
  obtain ⟨ad, ha, hb, hx⟩ := id h
  have c5 : w.cell? ⟨p, 5, none⟩ = some (.pointer ad) := by simp [World.cell?, hb]
  have hfz := h.free 5
  have hsh : w.shape? p = some (54, 10) := by simp [World.shape?, hb]
  have H := Lib.hid h
  clear h hb hx
  rcases ha with rfl | rfl
  · go_enter Tryz.func49, Tryz.ntmps49
    go_wp2
    rw [Lib.run_to_unsafe w ⟨p, 5, none⟩ Tryz.underlying49 Tryz.underlying108 hj (by rw [hjs]; decide) hsh (show 5 < 10 by decide)]
    simp only [Result.andThen]
    rw [Oper.upon_value]
    go_wp2
    rw [run_callFunc_extern Tryz.func52 (by kernel_rfl) (by kernel_rfl) (by kernel_rfl) (e := Extern.AbiNoEscape.same) (by kernel_rfl)]
    rw [Lib.run_noEscape]
    simp only [Result.andThen]
    rw [Oper.upon_value]
    go_wp2
    rw [Lib.run_from_unsafe w ⟨p, 5, none⟩ Tryz.underlying108 Tryz.underlying49 hj hsh liesB]
    simp only [Result.andThen]
    rw [Oper.upon_value]
    go_wp2
    go_end0
    exact ⟨rfl, H.out.setAd⟩
  · go_enter Tryz.func49, Tryz.ntmps49
    go_wp2
    rw [Lib.run_neq_ptr_same w _ Tryz.underlying49 hj]
    go_wp2
    go_end0
    exact ⟨rfl, H.out, Fr.refl _ _ _⟩

/-- What an append to the text's row does to the state. -/
theorem PsAt.wrote {w w1 : World} {p : Nat} {st : St} {sl : Sl} {v' : Value} {l : List UInt8} (h : PsAt w p st sl) (hown : w1.ownsRow (p + 1) 5 1 v' (st.txt ++ l).length (Lib.byteCells (st.txt ++ l)))
    (hgrow : w.grownBy w1 sl.buf.ownBlock) (hat : ∀ k, v'.ownBlock = some k → sl.buf.ownBlock = some k ∨ w.heap.size ≤ k) :
    PsAt (w1.setCell ⟨p, 6, none⟩ v') p { st with txt := st.txt ++ l } { sl with buf := v' } ∧ Fr p sl { sl with buf := v' } w (w1.setCell ⟨p, 6, none⟩ v') := by
  obtain ⟨ad, ha, hb, o1, o2, o3, hne⟩ := h
  have hlt := (Array.getElem?_eq_some_iff.1 hb).1
  have hb1 : w1.heap[p]? = some (.cells #[.bool st.tp, .bool st.ec, .bool st.ll, .int .i64 0, .int .i64 st.sc, .pointer ad, sl.buf, .int .u8 st.last.toNat, sl.inn, sl.prt] 54 (0, 0)) := by
    rw [hgrow.block p hlt (fun e => own_low o1 (by omega) e.symm)]; exact hb
  have sep : ∀ {v : Value} {n : Nat} {xs : List Value}, w.ownsRow (p + 1) 30 1 v n xs → v.ownBlock = none ∨ v.ownBlock ≠ sl.buf.ownBlock := by
    intro v n xs o
    cases hv : v.ownBlock with
    | none => exact .inl rfl
    | some k =>
      refine .inr fun e => ?_
      rcases o.2 with ⟨e1, _⟩ | ⟨g, cap, cur, e1, _, hg, _⟩
      · rw [e1] at hv; cases hv
      · rcases o1.2 with ⟨e2, _⟩ | ⟨g2, cap2, cur2, e2, _, hg2, _⟩
        · rw [e2] at e; cases e
        · rw [e1] at hv
          rw [e2] at e
          simp [Value.ownBlock] at hv e
          subst hv e
          rw [hg2] at hg
          simp at hg
  refine ⟨⟨ad, ha, heap_set hb1, own_set (by omega) hown, own_set (by omega) (o2.kept hgrow (sep o2)), own_set (by omega) (o3.kept hgrow (sep o3)), hne⟩, ?_⟩
  refine ⟨hgrow.os, hgrow.tape, hgrow.output, by simpa [World.setCell] using hgrow.size, ?_, hat, fun _ e => .inl e, fun _ e => .inl e⟩
  intro k hk hp hbk _ _
  rw [Below.heap_setCell _ _ _ _ hp, hgrow.block k hk (fun e => hbk e.symm)]

theorem slice_form {w : World} {N e size n : Nat} {v : Value} {xs : List Value} (h : w.ownsRow N e size v n xs) : ∃ a c, v = .slice a n c := by
  rcases h.2 with ⟨rfl, rfl⟩ | ⟨g, cap, cur, rfl, _⟩
  · exact ⟨none, 0, rfl⟩
  · exact ⟨_, _, rfl⟩

/-- In the world behind an append to one of its rows the state's cells stand. -/
theorem PsAt.mid {w w1 : World} {p : Nat} {st : St} {sl : Sl} {row : Option Nat} (h : PsAt w p st sl) (hgrow : w.grownBy w1 row) (hrow : row ≠ some p) (i : Nat) :
    w1.cell? ⟨p, i, none⟩ = w.cell? ⟨p, i, none⟩ ∧ w1.frozen? ⟨p, i, none⟩ = false :=
  ⟨World.cell?_of_block (w := w) (hgrow.block p h.lt (fun e => hrow e.symm)), (World.frozen?_of_block (w := w) (a := ⟨p, i, none⟩) (hgrow.block p h.lt (fun e => hrow e.symm))).trans (h.free i)⟩
theorem PsAt.rowBuf {w : World} {p : Nat} {st : St} {sl : Sl} (h : PsAt w p st sl) : sl.buf.ownBlock ≠ some p := by obtain ⟨ad, _, hb, o1, o2, o3, _⟩ := h; exact own_low o1 (by omega)
theorem PsAt.rowInn {w : World} {p : Nat} {st : St} {sl : Sl} (h : PsAt w p st sl) : sl.inn.ownBlock ≠ some p := by obtain ⟨ad, _, hb, o1, o2, o3, _⟩ := h; exact own_low o2 (by omega)
theorem PsAt.rowPrt {w : World} {p : Nat} {st : St} {sl : Sl} (h : PsAt w p st sl) : sl.prt.ownBlock ≠ some p := by obtain ⟨ad, _, hb, o1, o2, o3, _⟩ := h; exact own_low o3 (by omega)
theorem PsAt.ownBuf {w : World} {p : Nat} {st : St} {sl : Sl} (h : PsAt w p st sl) : w.ownsRow (p + 1) 5 1 sl.buf st.txt.length (Lib.byteCells st.txt) := by obtain ⟨ad, _, hb, o1, o2, o3, _⟩ := h; exact o1
theorem PsAt.ownInn {w : World} {p : Nat} {st : St} {sl : Sl} (h : PsAt w p st sl) : w.ownsRow (p + 1) 30 1 sl.inn st.inn.length st.inn := by obtain ⟨ad, _, hb, o1, o2, o3, _⟩ := h; exact o2
theorem PsAt.ownPrt {w : World} {p : Nat} {st : St} {sl : Sl} (h : PsAt w p st sl) : w.ownsRow (p + 1) 30 1 sl.prt st.prt.length st.prt := by obtain ⟨ad, _, hb, o1, o2, o3, _⟩ := h; exact o3

/-- Where the row of an appended string lies: the old row, or a new block. -/
theorem str_at {w w' : World} {B n : Nat} {v v' : Value} {xs : List Value} {s : ByteArray} (h : w.ownsRow B 5 1 v n xs)
    (h63 : n + s.size ≤ 140737488355328) (hr : (Builtin.append_ #[50, 9] 50 #[v, .string s]).run Tryz.prog w = .ok v' w') : ∀ k, v'.ownBlock = some k → v.ownBlock = some k ∨ w.heap.size ≤ k := by
  obtain ⟨i0, hi0, hz0, hz1, hz2⟩ := info_parts infoU8
  intro k hk
  have hxl : xs.length = n := by simpa using h.1
  rcases h.2 with ⟨rfl, rfl⟩ | ⟨g, cap, cur, rfl, hbg, hg, hnc, hcm, hcs, ht⟩
  · by_cases hm : s.size = 0
    · have hf := Lib.run_firstCells_string (P := Tryz.prog) w 1 s
      rw [hm] at hf
      have hr2 : (Builtin.append_ #[50, 9] 50 #[.slice none 0 0, .string s]).run Tryz.prog w = .ok (.slice none 0 0) w := by
        simp [Builtin.append_, run_underlying Tryz.underlying50, run_underlying Tryz.underlying9, sizeOf, typeInfo, hi0, hz1, Builtin.lenOf, hm, hf]
      rw [hr2] at hr
      simp only [Result.ok.injEq] at hr
      rw [← hr.1] at hk
      cases hk
    · have hr2 := run_append_nil_string (P := Tryz.prog) w 50 9 50 5 i0 (.int .u8 0) Tryz.underlying50 Tryz.underlying9 hi0 hz0 s (by omega) (by omega) (by rw [hz2]; omega)
      rw [hr2] at hr
      simp only [Result.ok.injEq] at hr
      rw [← hr.1] at hk
      simp [Value.ownBlock] at hk
      exact .inr (by omega)
  · have hcs' : cur.size = cap := by simpa using hcs
    by_cases hroom : n + s.size ≤ cap
    · have hr2 := Lib.run_append_room_string (P := Tryz.prog) w 50 9 50 5 i0 Tryz.underlying50 Tryz.underlying9 hi0 hz1 g n cap cur hg s hroom (by omega)
      rw [hr2] at hr
      simp only [Result.ok.injEq] at hr
      rw [← hr.1] at hk
      exact .inl hk
    · have holds : ∀ j u, xs[j]? = some u → w.cell? ((⟨g, 0, none⟩ : Addr).add j) = some u := h.cells (g := g) rfl
      have hr2 := Lib.run_append_grow_string (P := Tryz.prog) w 50 9 50 5 i0 (.int .u8 0) Tryz.underlying50 Tryz.underlying9 hi0 hz0 ⟨g, 0, none⟩ n cap xs (by rw [hz1]; simpa using hxl) holds s (by omega) (by omega) (by rw [hz2]; exact growslice_fits (by omega) (by omega))
      rw [hr2] at hr
      simp only [Result.ok.injEq] at hr
      rw [← hr.1] at hk
      simp [Value.ownBlock] at hk
      exact .inr (by omega)

/-- append of a string to the text's row: the law at the operation, with the place. -/
theorem wpList_text {w : World} {ops : Array Oper} {rest : List Oper} {o : Oper} {a : Act} {Q : Exit → Act → World → Prop} (hgd : o.guard = none) (sl x : Operand)
    (ho : o.op = .call { callee := .builtin .append, args := #[sl, x], argTypes := #[50, 9] }) (hty : o.type = 50) (B : Nat) (v : Value) (n : Nat) (xs : List Value) (hs : a.eval sl = v) (hown : w.ownsRow B 5 1 v n xs)
    (s : ByteArray) (hx : a.eval x = .string s) (hbytes : n + s.size ≤ 140737488355328) (hbase : B ≤ w.heap.size)
    (h : ∀ v' w', w'.ownsRow B 5 1 v' (n + s.size) (xs ++ Lib.strCells s) → w.grownBy w' v.ownBlock → (∀ k, v'.ownBlock = some k → v.ownBlock = some k ∨ w.heap.size ≤ k) → wpList Tryz.prog ops Q rest (a.put o.dst v') w') : wpList Tryz.prog ops Q (o :: rest) a w := by
  obtain ⟨i0, hi0, hz0, hz1, hz2⟩ := info_parts infoU8
  refine wpList_plain hgd fun K hK => ?_
  obtain ⟨v', w', hr, h2, h3, _⟩ := Lib.run_append_own_string (P := Tryz.prog) w B 50 9 50 5 i0 Tryz.underlying50 Tryz.underlying9 hi0 hz0 hz1 hz2 v n xs hown s (by unfold maxLen; omega) hbytes hbase
  have h4 := str_at hown hbytes hr
  unfold Oper.wp execOp
  simp only [ho, hty, resolve, invoke, builtin, Sem.run_bind, Sem.run_pure, Result.andThen_ok, List.map_toArray, List.map_cons, List.map_nil, hs, hx, hr]
  exact hK _ _ (h v' w' h2 h3 h4)

theorem text_len (l : List UInt8) (s : ByteArray) : (l ++ s.data.toList).length = l.length + s.size := by
  rw [List.length_append, Array.length_toList]
  rfl

theorem PsAt.alloc {w : World} {p : Nat} {st : St} {sl : Sl} (h : PsAt w p st sl) (o : Obj) : PsAt (w.alloc o) p st sl ∧ Fr p sl sl w (w.alloc o) := by
  have hlt := h.lt
  obtain ⟨ad, ha, hb, o1, o2, o3, hne⟩ := h
  exact ⟨⟨ad, ha, (Below.heap_alloc w o p hlt).trans hb, o1.alloc o, o2.alloc o, o3.alloc o, hne⟩, rfl, rfl, rfl, by simp, fun k hk _ _ _ _ => Below.heap_alloc w o k hk, fun _ e => .inl e, fun _ e => .inl e, fun _ e => .inl e⟩
theorem PsAt.drew {w : World} {p : Nat} {st : St} {sl : Sl} (h : PsAt w p st sl) : PsAt w.drew p st sl ∧ Fr p sl sl w w.drew := ⟨h, rfl, rfl, rfl, Nat.le_refl _, fun _ _ _ _ _ _ => rfl, fun _ e => .inl e, fun _ e => .inl e, fun _ e => .inl e⟩

theorem lies_at {v : Value} {gg n cap H : Nat} (hat : v.ownBlock = some gg ∨ gg = H) : ∀ k, (Value.slice (some ⟨gg, 0, none⟩) n cap).ownBlock = some k → v.ownBlock = some k ∨ H ≤ k := by
  intro k hk
  obtain rfl : gg = k := by simpa [Value.ownBlock] using hk
  rcases hat with h | h
  · exact .inl h
  · exact .inr (by omega)

/-- What the contracts of the writers say: an ending, and the state behind it. -/
def Wr (p : Nat) (sl : Sl) (w : World) (st' : St) (v : Value) (e : Ending) (w' : World) : Prop := e = .returned v ∧ ∃ sl', PsAt w' p st' sl' ∧ Fr p sl sl' w w'

set_option maxRecDepth 100000 in
set_option maxHeartbeats 1000000 in
theorem bWriteString (w : World) (p : Nat) (st : St) (sl : Sl) (s : ByteArray) (h : PsAt w p st sl) (hl : st.txt.length + s.size ≤ 140737488355328) :
    Calls Tryz.prog 51 #[.pointer (some ⟨p, 5, none⟩), .string s] w (Wr p sl w { st with txt := st.txt ++ s.data.toList } (.tuple #[.int .i64 s.size, .nilIface])) := by
  have H := Lib.hid h
  clear h
  go_enter Tryz.func51, Tryz.ntmps51
  go_wp2_with (first | (go_at_call 49; refine (copyCheckC w p st sl H.out).mono ?_; rintro e w1 ⟨rfl, h1, f1⟩; have c6 := h1.c6; have hlt := h1.lt; have H1 := Lib.hid h1; have F1 := Lib.hid f1; clear h1 f1) | (at_builtin; refine wpList_text rfl (.tmp 12) (.tmp 13) rfl rfl (p + 1) sl.buf st.txt.length (Lib.byteCells st.txt) rfl H1.out.ownBuf s rfl hl (by omega) ?_; intro v2 w2 hown hgrow hat; obtain ⟨va, vc, rfl⟩ := slice_form hown; have d6 := (H1.out.mid hgrow H1.out.rowBuf 6).1.trans c6; have e6 := (H1.out.mid hgrow H1.out.rowBuf 6).2; have G1 := Lib.hid hown; have G2 := Lib.hid hgrow; have G3 := Lib.hid hat; clear hown hgrow hat))
  go_ret2
  have := PsAt.wrote (l := s.data.toList) H1.out (by rw [text_len, Lib.byteCells_append]; exact G1.out) G2.out G3.out
  exact ⟨rfl, _, this.1, F1.out.trans this.2⟩

set_option maxRecDepth 100000 in
set_option maxHeartbeats 1000000 in
theorem bWriteByte (w : World) (p : Nat) (st : St) (sl : Sl) (b : UInt8) (h : PsAt w p st sl) (hl : st.txt.length + 1 ≤ 140737488355328) :
    Calls Tryz.prog 43 #[.pointer (some ⟨p, 5, none⟩), .int .u8 b.toNat] w (Wr p sl w { st with txt := st.txt ++ [b] } .nilIface) := by
  obtain ⟨i0, hi0, hz0, hz1, hz2⟩ := info_parts infoU8
  have H := Lib.hid h
  clear h
  go_enter Tryz.func43, Tryz.ntmps43
  go_wp2_with (first | (go_at_call 49; refine (copyCheckC w p st sl H.out).mono ?_; rintro e w1 ⟨rfl, h1, f1⟩; have c6 := h1.c6; have hlt := h1.lt; have H1 := Lib.hid h1; have F1 := Lib.hid f1; clear h1 f1) | (at_builtin; refine wpList_append_lies _ rfl (.tmp 11) (.tmp 13) 50 rfl (p + 1) 5 i0 _ 1 1 Tryz.underlying50 hi0 hz0 hz1 hz2 rfl (by decide) sl.buf st.txt.length (Lib.byteCells st.txt) rfl (H1.out.alloc _).1.ownBuf ⟨w1.heap.size, 0, none⟩ 1 1 [.int .u8 b.toNat] rfl rfl (World.news_of_block (cs := #[.int .u8 b.toNat]) (t := 5) (fr := (0, 0)) (heap_alloc_new w1 _)) (by simp [Value.oneCell']) (by omega) (by unfold maxLen; omega) (by omega) (by simp; omega) (w1.heap.size + 1) (by simp) ?_; intro gg cap w2 hown hgrow hat hl2; have d6 := ((H1.out.alloc _).1.mid hgrow H1.out.rowBuf 6).1.trans (H1.out.alloc _).1.c6; have e6 := ((H1.out.alloc _).1.mid hgrow H1.out.rowBuf 6).2; have G1 := Lib.hid hown; have G2 := Lib.hid hgrow; have G3 := Lib.hid hat; clear hown hgrow hat))
  go_ret
  have A := H1.out.alloc (.cells #[.int .u8 b.toNat] 5)
  have := PsAt.wrote (l := [b]) A.1 (by rw [List.length_append, Lib.byteCells_append]; exact G1.out) G2.out (by simpa using lies_at G3.out)
  exact ⟨rfl, _, this.1, (F1.out.trans A.2).trans this.2⟩

/-! ### The print state's own methods -/
set_option maxRecDepth 100000 in
set_option maxHeartbeats 1000000 in
theorem writeByteC (w : World) (p : Nat) (st : St) (sl : Sl) (b : UInt8) (h : PsAt w p st sl) (hl : st.txt.length + 1 ≤ 140737488355328) :
    Calls Tryz.prog 41 #[.pointer (some ⟨p, 0, none⟩), .int .u8 b.toNat] w (Wr p sl w { st with txt := st.txt ++ [b], last := b } (.tuple #[])) := by
  have c7 := h.c7
  have f7 := h.free 7
  have H := Lib.hid h
  clear h
  go_enter Tryz.func41, Tryz.ntmps41
  go_wp2_with (first | (go_at_call 43; refine (bWriteByte _ p _ sl b (H.out.setLast b).1 hl).mono ?_; rintro e w1 ⟨rfl, sl1, h1, f1⟩; have H1 := Lib.hid h1; have F1 := Lib.hid f1; clear h1 f1))
  go_end0
  exact ⟨rfl, _, H1.out, (H.out.setLast b).2.trans F1.out⟩

theorem last_eq (s : ByteArray) (h : s.size - 1 < s.size) : s.data.toList.getLast? = some (s[s.size - 1]'h) := by
  rw [List.getLast?_eq_getElem?, Array.length_toList]
  have h2 : s.data.size - 1 < s.data.size := h
  rw [List.getElem?_eq_getElem (by simpa using h2)]
  simp
  rfl

/-- The state behind a string that is written. -/
def St.wr (st : St) (s : ByteArray) : St := { st with txt := st.txt ++ s.data.toList, last := (s.data.toList.getLast?).getD st.last }

set_option maxRecDepth 100000 in
set_option maxHeartbeats 1000000 in
theorem writeStringC (w : World) (p : Nat) (st : St) (sl : Sl) (s : ByteArray) (h : PsAt w p st sl) (hl : st.txt.length + s.size ≤ 140737488355328) :
    Calls Tryz.prog 48 #[.pointer (some ⟨p, 0, none⟩), .string s] w (Wr p sl w (st.wr s) (.tuple #[])) := by
  have c7 := h.c7
  have f7 := h.free 7
  have hs : s.size ≤ 140737488355328 := by omega
  by_cases h0 : s.size = 0
  · have e : st.wr s = { st with txt := st.txt ++ s.data.toList } := by
      have : s.data.toList = [] := List.eq_nil_of_length_eq_zero (by rw [Array.length_toList]; exact h0)
      simp [St.wr, this]
    rw [e]
    have H := Lib.hid h
    have h0' : ¬ 0 < s.size := by omega
    clear h h0
    go_enter Tryz.func48, Tryz.ntmps48
    go_wp2_with (first | (go_at_call 51; refine (bWriteString _ p _ sl s H.out hl).mono ?_; rintro e w1 ⟨rfl, sl1, h1, f1⟩; have H1 := Lib.hid h1; have F1 := Lib.hid f1; clear h1 f1))
    go_end0
    exact ⟨rfl, _, H1.out, F1.out⟩
  · have h0' : 0 < s.size := by omega
    have H := Lib.hid h
    clear h h0
    go_enter Tryz.func48, Tryz.ntmps48
    go_wp2_with fail
    refine (bWriteString _ p _ sl s (H.out.setLast (s[s.size - 1]'(by omega))).1 hl).mono ?_
    rintro e w1 ⟨rfl, sl1, h1, f1⟩
    have H1 := Lib.hid h1
    have F1 := Lib.hid f1
    clear h1 f1
    go_wp2_with fail
    go_end0
    refine ⟨rfl, _, ?_, (H.out.setLast (s[s.size - 1]'(by omega))).2.trans F1.out⟩
    have e : st.wr s = { st with txt := st.txt ++ s.data.toList, last := s[s.size - 1]'(by omega) } := by
      unfold St.wr
      rw [last_eq s (by omega)]
      rfl
    rw [e]
    exact H1.out

set_option maxRecDepth 100000 in
set_option maxHeartbeats 1000000 in
theorem startScopeC (w : World) (p : Nat) (st : St) (sl : Sl) (b : UInt8) (h : PsAt w p st sl) (hl : st.txt.length + 1 ≤ 140737488355328) (h0 : 0 ≤ st.sc) (h1 : st.sc ≤ 1000000000) :
    Calls Tryz.prog 44 #[.pointer (some ⟨p, 0, none⟩), .int .u8 b.toNat] w (Wr p sl w { st with sc := st.sc + 1, txt := st.txt ++ [b], last := b } (.tuple #[])) := by
  have c4 := h.c4
  have f4 := h.free 4
  have H := Lib.hid h
  clear h
  go_enter Tryz.func44, Tryz.ntmps44
  go_wp2_with (first | (go_at_call 41; refine (writeByteC _ p _ sl b (H.out.setSc (st.sc + 1)).1 hl).mono ?_; rintro e w1 ⟨rfl, sl1, h2, f1⟩; have H1 := Lib.hid h2; have F1 := Lib.hid f1; clear h2 f1))
  go_end0
  exact ⟨rfl, _, H1.out, (H.out.setSc (st.sc + 1)).2.trans F1.out⟩

set_option maxRecDepth 100000 in
set_option maxHeartbeats 1000000 in
theorem endScopeC (w : World) (p : Nat) (st : St) (sl : Sl) (b : UInt8) (h : PsAt w p st sl) (hl : st.txt.length + 1 ≤ 140737488355328) (h0 : 0 ≤ st.sc) (h1 : st.sc ≤ 1000000000) :
    Calls Tryz.prog 46 #[.pointer (some ⟨p, 0, none⟩), .int .u8 b.toNat] w (Wr p sl w { st with sc := st.sc - 1, txt := st.txt ++ [b], last := b } (.tuple #[])) := by
  have c4 := h.c4
  have f4 := h.free 4
  have H := Lib.hid h
  clear h
  go_enter Tryz.func46, Tryz.ntmps46
  go_wp2_with (first | (go_at_call 41; refine (writeByteC _ p _ sl b (H.out.setSc (st.sc - 1)).1 hl).mono ?_; rintro e w1 ⟨rfl, sl1, h2, f1⟩; have H1 := Lib.hid h2; have F1 := Lib.hid f1; clear h2 f1))
  go_end0
  exact ⟨rfl, _, H1.out, (H.out.setSc (st.sc - 1)).2.trans F1.out⟩
end Go.Proofs.YtkofdhhkhcdeoaaGreat
