/- impl.functionType and the chains of impl.PrintFunctionChain, as they lie in memory; conditions: the lists read as strings and hold a million at most. -/
import Derived.Test.YtkofdhhkhcdeoaaGreatFunP
namespace Go.Proofs.YtkofdhhkhcdeoaaGreat
open Go.ChangeShapes Go.WideShapes Go.ChangeAt Go.RowKit

/-- A slice of Names. -/
def NamesV (w : World) (v : Value) (l : List ByteArray) : Prop :=
  ∃ (a : Option Addr) (c : Nat) (cs : List Nat), v = .slice a l.length c ∧ cs.length = l.length ∧ ∀ i cb, cs[i]? = some cb → ∃ g, a = some ⟨g, 0, none⟩ ∧ w.cell? ⟨g, i, none⟩ = some (.iface 60 (.pointer (some ⟨cb, 0, none⟩))) ∧ w.cell? ⟨cb, 0, none⟩ = some (.string (l.getD i ByteArray.empty))

theorem NamesV.below {w w' : World} {v : Value} {l : List ByteArray} (h : NamesV w v l) (hb : Below w.heap.size w w') : NamesV w' v l := by
  obtain ⟨a, c, cs, e1, e2, e3⟩ := h
  refine ⟨a, c, cs, e1, e2, fun i cb hi => ?_⟩
  obtain ⟨g, ea, h1, h2⟩ := e3 i cb hi
  exact ⟨g, ea, (hb.cell (p := ⟨g, i, none⟩) (World.block_lt_of_cell? w _ h1)).trans h1, (hb.cell (p := ⟨cb, 0, none⟩) (World.block_lt_of_cell? w _ h2)).trans h2⟩

theorem own_cells {w : World} {N n : Nat} {e : TypeId} {a : Option Addr} {c : Nat} {xs : List Value} (h : w.ownsRow N e 1 (.slice a n c) n xs) : ∀ j u, xs[j]? = some u → ∃ b k, a = some ⟨b, k, none⟩ ∧ w.cell? ⟨b, k + j, none⟩ = some u := by
  intro j u hj
  have hlen := h.1
  have hjl := (List.getElem?_eq_some_iff.1 hj).1
  rcases h.2 with ⟨e1, e2⟩ | ⟨g, cap, cur, e1, _, hg, _, _, _, ht⟩
  · rw [e2] at hlen; omega
  · simp at e1
    refine ⟨g, 0, e1.1, ?_⟩
    rw [Nat.zero_add, cell_of_row w g j cur _ (0, 0) hg]
    have h1 : (cur.toList.take (n * 1))[j]? = xs[j]? := by rw [ht]
    rw [List.getElem?_take_of_lt (by omega), hj] at h1
    simpa using h1

theorem elems_names {W : World} {v : Value} {l : List ByteArray} (h : NamesV W v l) (hm : l.length ≤ 1000000) : ∃ cs : List Nat, cs.length = l.length ∧ (∀ i c, cs[i]? = some c → c < W.heap.size ∧ W.cell? ⟨c, 0, none⟩ = some (.string (l.getD i ByteArray.empty))) ∧
    ElemsAt W W.heap.size v (cs.map fun c => .iface 60 (.pointer (some ⟨c, 0, none⟩))) := by
  obtain ⟨a, c, cs, rfl, hcl, h3⟩ := h
  refine ⟨cs, hcl, fun i cb hi => ?_, a, c, by simp [hcl], by simpa [hcl] using hm, fun i x hx => ?_⟩
  · obtain ⟨g, _, _, h2⟩ := h3 i cb hi
    exact ⟨World.block_lt_of_cell? W _ h2, h2⟩
  · rw [List.getElem?_map] at hx
    obtain ⟨cb, hi, rfl⟩ := Option.map_eq_some_iff.1 hx
    obtain ⟨g, e, h1, _⟩ := h3 i cb hi
    exact ⟨g, e, World.block_lt_of_cell? W _ h1, h1⟩

/-- Names in a list. -/
theorem namesList (W : World) (p : Nat) (l : List ByteArray) : ∀ (f : Bool) (cs : List Nat) (st : St), cs.length = l.length → (∀ i c, cs[i]? = some c → c < p ∧ W.cell? ⟨c, 0, none⟩ = some (.string (l.getD i ByteArray.empty))) → (∀ b, Fresh p W st.prt (.iface 60 (.pointer (some ⟨b, 0, none⟩)))) → st.prt.length ≤ 1000000 → st.ll = false →
    st.txt.length + 2 * sumLen l + 2 ≤ 140737488000000 → ListDoes p W f (cs.map fun c => .iface 60 (.pointer (some ⟨c, 0, none⟩))) st (wrL st (if f then jn l else jt l)) := by
  induction l with
  | nil =>
    intro f cs st hcl _ _ _ _ _
    have e : cs = [] := List.eq_nil_of_length_eq_zero hcl
    subst e
    cases f <;> simp [ListDoes, wrL, jn, jt]
  | cons s l ih =>
    intro f cs st hcl hcs hp hpl hll hl
    cases cs with
    | nil => simp at hcl
    | cons c cs =>
      obtain ⟨h1, h2⟩ := hcs 0 c rfl
      have h2' : W.cell? ⟨c, 0, none⟩ = some (.string s) := h2
      simp only [sumLen] at hl
      have ec : comma.data.toList = [44, 32] := rfl
      have hln : (if f then st else st.wr comma).txt.length ≤ st.txt.length + 2 := by cases f <;> simp [wr_len, comma_size]
      have hpr : (if f then st else st.wr comma).prt = st.prt := by cases f <;> rfl
      have hrest := ih false cs ((if f then st else st.wr comma).wr s) (by simpa using hcl) (fun i c' hi => hcs (i + 1) c' (by simpa using hi)) (by show ∀ b, Fresh p W (if f then st else st.wr comma).prt _; rw [hpr]; exact hp) (by show (if f then st else st.wr comma).prt.length ≤ _; rw [hpr]; exact hpl) (by cases f <;> exact hll) (by rw [wr_len]; omega)
      refine ⟨_, fullName c, by omega, hll, printsName W p c s _ h2' h1 (by omega) (by rw [hpr]; exact hpl) (by rw [hpr]; exact hp c), ?_⟩
      have e : wrL ((if f then st else st.wr comma).wr s) (if false = true then jn l else jt l) = wrL st (if f then jn (s :: l) else jt (s :: l)) := by
        cases f
        · show wrL ((st.wr comma).wr s) (jt l) = wrL st (jt (s :: l))
          rw [wr_wrL, wr_wrL, wrL_app, wrL_app, ec]
          rfl
        · show wrL (st.wr s) (jt l) = wrL st (jn (s :: l))
          rw [wr_wrL, wrL_app]
          rfl
      rw [e] at hrest
      exact hrest

theorem strs_one {w : World} {g : Nat} {s : ByteArray} (h : w.heap[g]? = some (.cells #[.string s] 9 (0, 0))) : Strs w (.slice (some ⟨g, 0, none⟩) 1 1) [s] :=
  ⟨some ⟨g, 0, none⟩, 1, rfl, by simp, fun i hi => ⟨g, 0, rfl, by
    have e : i = 0 := by simp at hi; omega
    subst e
    exact cell_of_one h⟩⟩


theorem namesV_of {w : World} {N : Nat} {v : Value} {cs : List Nat} {l : List ByteArray} (h : NamesR w N v cs l) : NamesV w v l := by
  obtain ⟨a, c, rfl⟩ := h.form
  refine ⟨a, c, cs, rfl, h.1, fun i cb hi => ?_⟩
  have ho := h.2.1
  rw [h.1] at ho
  obtain ⟨b, k, e, hc⟩ := own_cells ho i (.iface 60 (.pointer (some ⟨cb, 0, none⟩))) (by rw [List.getElem?_map, hi]; rfl)
  rcases ho.2 with ⟨e1, e2⟩ | ⟨g, cap, cur, e1, _⟩
  · simp at e1; rw [e1.1] at e; cases e
  · simp at e1
    have e' := e
    rw [e1.1] at e'
    simp at e'
    obtain ⟨rfl, rfl⟩ := e'
    exact ⟨g, e, by simpa using hc, cell_of_one (h.2.2 i cb hi).1.1⟩

/-- A function type lies in a block: its result, its arguments. -/
def FunAt (w : World) (b : Nat) (ret : Value) (l : List ByteArray) : Prop := ∃ av, w.heap[b]? = some (.cells #[ret, av, .bool false] 44 (0, 0)) ∧ NamesV w av l

theorem FunAt.below {w w' : World} {b : Nat} {ret : Value} {l : List ByteArray} (h : FunAt w b ret l) (hb : Below w.heap.size w w') : FunAt w' b ret l := by
  obtain ⟨av, h1, h2⟩ := h
  exact ⟨av, (hb.block b (Array.getElem?_eq_some_iff.1 h1).1).trans h1, h2.below hb⟩

set_option maxHeartbeats 1000000 in
theorem functionTypeC (ret v : Value) (l : List ByteArray) (w : World) (hr : ret = .nilIface ∨ ∃ t b, ret = .iface t (.pointer (some ⟨b, 0, none⟩))) (h : Strs w v l) (hm : l.length ≤ 1000000) :
    Calls Tryz.prog 9 #[ret, v] w fun e w' => ∃ b, e = .returned (.pointer (some ⟨b, 0, none⟩)) ∧ w.heap.size ≤ b ∧ b < w'.heap.size ∧ FunAt w' b ret l ∧ Below w.heap.size w w' := by
  have hn := Lib.hid (namesC v l w h hm)
  clear h
  rcases hr with rfl | ⟨t, rb, rfl⟩
  all_goals
    go_enter Tryz.func9, Tryz.ntmps9
    go_wp2_with fail
    refine hn.out.mono ?_
    rintro e w1 ⟨v', cs, rfl, hN, hb⟩
    have hV := namesV_of hN
    obtain ⟨a, c, rfl⟩ := hN.form
    have HV := Lib.hid hV
    have HB := Lib.hid hb
    clear hN hV hb
    go_wp2_with fail
    go_ret
    exact ⟨w1.heap.size, rfl, HB.out.size, by simp, ⟨_, heap_alloc_new w1 _, HV.out.below ((Below.refl _ _).alloc (Nat.le_refl _) _)⟩, HB.out.alloc HB.out.size _⟩

/-- A chain of pointers to functions, the outermost first. -/
def ChainAt (w : World) (back : ByteArray) : Nat → List ByteArray → Value → Prop
  | B, [], v => ∃ bb, bb < B ∧ v = .iface 38 (.pointer (some ⟨bb, 0, none⟩)) ∧ w.heap[bb]? = some (.cells #[.string back] 40 (0, 0))
  | B, s :: rest, v => ∃ bp bf v', v = .iface 32 (.pointer (some ⟨bp, 0, none⟩)) ∧ bp < B ∧ bf < bp ∧ w.heap[bp]? = some (.cells #[.iface 33 (.pointer (some ⟨bf, 0, none⟩))] 36 (0, 0)) ∧ FunAt w bf v' [s] ∧ ChainAt w back bf rest v'

theorem ChainAt.below {w w' : World} {back : ByteArray} (hb : Below w.heap.size w w') (l : List ByteArray) : ∀ (B B' : Nat) (v : Value), B ≤ B' → ChainAt w back B l v → ChainAt w' back B' l v := by
  induction l with
  | nil =>
    intro B B' v hB h
    obtain ⟨bb, h1, h2, h3⟩ := h
    exact ⟨bb, by omega, h2, (hb.block bb (Array.getElem?_eq_some_iff.1 h3).1).trans h3⟩
  | cons s l ih =>
    intro B B' v hB h
    obtain ⟨bp, bf, v', e1, h1, h2, h3, h4, h5⟩ := h
    exact ⟨bp, bf, v', e1, by omega, h2, (hb.block bp (Array.getElem?_eq_some_iff.1 h3).1).trans h3, h4.below hb, ih bf bf v' (Nat.le_refl _) h5⟩
theorem ChainAt.form {w : World} {back : ByteArray} {B : Nat} {l : List ByteArray} {v : Value} (h : ChainAt w back B l v) : ∃ t b, v = .iface t (.pointer (some ⟨b, 0, none⟩)) := by
  cases l with
  | nil => obtain ⟨bb, _, h2, _⟩ := h; exact ⟨_, _, h2⟩
  | cons s l => obtain ⟨bp, bf, v', e1, _⟩ := h; exact ⟨_, _, e1⟩
end Go.Proofs.YtkofdhhkhcdeoaaGreat
