/- Regions as in Tab, with operations that make a slice; plain law over any program, no condition. -/
import Derived.Test.YtlfbmpenekiigaaGreatDoorTab
namespace Go.Proofs.YtlfbmpenekiigaaGreatDoor.T2
open Go.RowKit

section
variable {P : Program} {ops : Array Oper} {md : Region.Mode} {w0 : World} {T : FuncId → Array Value → Value → World → Prop}

/-- A pointer to a block, or the slice of all of it. -/
def made (c : Option Nat) (b : Nat) : Value := match c with
  | .none => .pointer (some ⟨b, 0, .none⟩)
  | .some n => .slice (some ⟨b, 0, .none⟩) n n
theorem made_inj {c c' : Option Nat} {b : Nat} (h : made c b = made c' b) : c = c' := by
  cases c <;> cases c' <;> simp [made] at h ⊢
  exact h
/-- A pointer to a block, or a slice of it, that is not in w0 and holds o. -/
def Boxed (w0 : World) (c : Option Nat) (o : Obj) (v : Value) (w : World) : Prop := ∃ b, v = made c b ∧ w0.heap.size ≤ b ∧ b < w.heap.size ∧ w.heap[b]? = some o

/-- V tells the values that an operation may leave, where it comes to this in the world w: a value, in this very world; a pointer to a new block; or a call, of whose answer the table T tells, behind which old memory stays. -/
def LeavesR (P : Program) (w0 : World) (T : FuncId → Array Value → Value → World → Prop) (w : World) (V : Value → World → Prop) : Result Next → Prop
  | .ok (.value u) w' => (w' = w ∧ V = fun v _ => v = u) ∨ ∃ o c, w' = w.alloc o ∧ u = made c w.heap.size ∧ V = Boxed w0 c o
  | .ok .skip w' => w' = w ∧ V = fun v _ => v = undef
  | .ok (.enter f args) w' => w' = w ∧ V = T f args ∧ Calls P f args w fun e w'' => ∃ v, T f args v w'' ∧ e = .returned v ∧ Ext w w''
  | _ => False

/-- So in every world behind w0. -/
def Leaves (P : Program) (w0 : World) (T : FuncId → Array Value → Value → World → Prop) (o : Oper) (a : Act) (V : Value → World → Prop) : Prop :=
  ∀ w, Ext w0 w → LeavesR P w0 T w V ((execOp a.eval o).run P w)

/-- What follows must serve in every later world, with every answer. -/
def stepT (P : Program) (ops : Array Oper) (w0 : World) (T : FuncId → Array Value → Value → World → Prop) (o : Oper) (K : Act → World → Prop) (a : Act) (w : World) : Prop :=
  if Region.wanted o (yielded ops a.tmps) then ∃ V, Leaves P w0 T o a V ∧ ∀ v w', Ext w w' → V v w' → K (a.put o.dst v) w' else ∀ w', Ext w w' → K (a.put o.dst undef) w'

/-- The walk in the order of the text. -/
def wpTab (P : Program) (ops : Array Oper) (w0 : World) (T : FuncId → Array Value → Value → World → Prop) (Q : Act → World → Prop) : List Oper → Act → World → Prop
  | [], a, w => ∀ w', Ext w w' → Q a w'
  | o :: rest, a, w => stepT P ops w0 T o (wpTab P ops w0 T Q rest) a w

/-- Whatever order is picked for so many operations of the first n. -/
def wpAnyT (P : Program) (md : Region.Mode) (ops : Array Oper) (w0 : World) (T : FuncId → Array Value → Value → World → Prop) (n : Nat) (L : Array Bool → Act → World → Prop) : Nat → Array Bool → Act → World → Prop
  | 0, listed, a, w => ∀ w', Ext w w' → L listed a w'
  | fuel + 1, listed, a, w => Region.ready md ops listed ≠ [] ∧
    ∀ i ∈ Region.ready md ops listed, i < n ∧ ∀ o, ops[i]? = some o → stepT P ops w0 T o (wpAnyT P md ops w0 T n L fuel (listed.setIfInBounds i true)) a w

theorem stepT_later {o : Oper} {K : Act → World → Prop} {a : Act} {w w' : World} (he : Ext w w') (h : stepT P ops w0 T o K a w) : stepT P ops w0 T o K a w' := by
  unfold stepT at *
  split
  · rename_i hw
    simp only [hw, if_true] at h
    obtain ⟨V, hV, hK⟩ := h
    exact ⟨V, hV, fun v w2 h2 => hK v w2 (he.trans h2)⟩
  · rename_i hw
    simp only [hw] at h
    exact fun w2 h2 => h w2 (he.trans h2)

theorem wpTab_later {Q : Act → World → Prop} {l : List Oper} {a : Act} {w w' : World} (he : Ext w w') (h : wpTab P ops w0 T Q l a w) : wpTab P ops w0 T Q l a w' := by
  cases l with
  | nil => exact fun w2 h2 => h w2 (he.trans h2)
  | cons o l => exact stepT_later he h

theorem alloc_ne {w : World} {o : Obj} (h : w.alloc o = w) : False := by
  have := congrArg (fun x => x.heap.size) h
  simp at this
theorem alloc_at (w : World) (o : Obj) : (w.alloc o).heap[w.heap.size]? = some o := heap_alloc_new w o
theorem alloc_inj {w : World} {o o' : Obj} (h : w.alloc o = w.alloc o') : o = o' := by
  have h1 := alloc_at w o
  rw [h, alloc_at w o'] at h1
  exact (Option.some.inj h1).symm
theorem Ext.alloc (w : World) (o : Obj) : Ext w (w.alloc o) := (Below.refl _ _).alloc (Nat.le_refl _) _
theorem Boxed.new {w0 w : World} (h : Ext w0 w) (c : Option Nat) (o : Obj) : Boxed w0 c o (made c w.heap.size) (w.alloc o) := ⟨_, rfl, h.size, by simp, alloc_at w o⟩
theorem Boxed.stable (w0 : World) (c : Option Nat) (o : Obj) : Stable (Boxed w0 c o) := fun _ _ _ he ⟨b, e, h1, h2, h3⟩ =>
  ⟨b, e, h1, Nat.lt_of_lt_of_le h2 he.size, (he.block b h2).trans h3⟩

theorem LeavesR.one {w : World} {V V' : Value → World → Prop} {r : Result Next} (h : LeavesR P w0 T w V r) (h' : LeavesR P w0 T w V' r) : V = V' := by
  cases r with
  | ok n w' =>
    cases n <;> simp only [LeavesR] at h h' <;> first | exact h.2.trans h'.2.symm | exact h.2.1.trans h'.2.1.symm | exact h.elim | skip
    rcases h with ⟨e, h⟩ | ⟨o, c, e, eu, h⟩
    · rcases h' with ⟨_, h'⟩ | ⟨o', c', e', _⟩
      · exact h.trans h'.symm
      · exact (alloc_ne (e'.symm.trans e)).elim
    · rcases h' with ⟨e', _⟩ | ⟨o', c', e', eu', h'⟩
      · exact (alloc_ne (e.symm.trans e')).elim
      · rw [h, h', alloc_inj (e.symm.trans e'), made_inj (eu.symm.trans eu')]
  | halt x w' => exact h.elim

theorem Calls.any {f : FuncId} {args : Array Value} {w : World} {R : Ending → World → Prop} (h : Calls P f args w R) : ∃ e w', R e w' :=
  let ⟨e, w', _, r, _⟩ := h []
  ⟨e, w', r⟩

/-- Some value is left, in some later world. -/
theorem LeavesR.some {w : World} (hw : Ext w0 w) {V : Value → World → Prop} {r : Result Next} (h : LeavesR P w0 T w V r) : ∃ v w', Ext w w' ∧ V v w' := by
  cases r with
  | ok n w' =>
    cases n <;> simp only [LeavesR] at h <;> first | exact h.elim | skip
    · rcases h with ⟨_, e⟩ | ⟨o, c, _, _, e⟩
      · exact ⟨_, w, Ext.refl w, by rw [e]⟩
      · exact ⟨_, _, Ext.alloc w o, by rw [e]; exact Boxed.new hw c o⟩
    · exact ⟨_, w, Ext.refl w, by rw [h.2]⟩
    · obtain ⟨_, e, hc⟩ := h
      obtain ⟨_, w', v, hv, _, hx⟩ := Calls.any hc
      exact ⟨v, w', hx, by rw [e]; exact hv⟩
  | halt x w' => exact h.elim

theorem LeavesR.stable (hT : ∀ f args, Stable (T f args)) {w : World} {V : Value → World → Prop} {r : Result Next} (h : LeavesR P w0 T w V r) : Stable V := by
  cases r with
  | ok n w' =>
    cases n <;> simp only [LeavesR] at h <;> first | exact h.elim | skip
    · rcases h with ⟨_, e⟩ | ⟨o, c, _, _, e⟩
      · rw [e]; exact fun v w w' _ e => e
      · rw [e]; exact Boxed.stable w0 c o
    · rw [h.2]; exact fun v w w' _ e => e
    · rw [h.2.1]; exact hT _ _
  | halt x w' => exact h.elim

/-- What operation o may leave in state a; undef where it isn't wanted. -/
def YieldsT (P : Program) (ops : Array Oper) (w0 : World) (T : FuncId → Array Value → Value → World → Prop) (o : Oper) (V : Value → World → Prop) (a : Act) : Prop :=
  (Region.wanted o (yielded ops a.tmps) = true ∧ Leaves P w0 T o a V) ∨ (Region.wanted o (yielded ops a.tmps) = false ∧ V = fun v _ => v = undef)

theorem YieldsT.of_same {o : Oper} {V : Value → World → Prop} {a a' : Act} (hy : YieldsT P ops w0 T o V a) (he : execOp a'.eval o = execOp a.eval o)
    (hw : Region.wanted o (yielded ops a'.tmps) = Region.wanted o (yielded ops a.tmps)) : YieldsT P ops w0 T o V a' := by
  unfold YieldsT Leaves at *
  rw [he, hw]
  exact hy

theorem YieldsT.some {o : Oper} {V : Value → World → Prop} {a : Act} {w : World} (hC : Ext w0 w) (h : YieldsT P ops w0 T o V a) : ∃ v w', Ext w w' ∧ V v w' := by
  rcases h with ⟨_, h⟩ | ⟨_, h⟩
  · exact (h w hC).some hC
  · exact ⟨undef, w, Ext.refl w, by rw [h]⟩

theorem YieldsT.stable (hT : ∀ f args, Stable (T f args)) {o : Oper} {V : Value → World → Prop} {a : Act} (h : YieldsT P ops w0 T o V a) : Stable V := by
  rcases h with ⟨_, h⟩ | ⟨_, h⟩
  · exact (h w0 (Ext.refl _)).stable hT
  · rw [h]; exact fun v w w' _ e => e

theorem YieldsT.one {o : Oper} {V V' : Value → World → Prop} {a : Act} (h : YieldsT P ops w0 T o V a) (h' : YieldsT P ops w0 T o V' a) : V = V' := by
  rcases h with ⟨e, h⟩ | ⟨e, h⟩
  · rcases h' with ⟨_, h'⟩ | ⟨e', _⟩
    · exact (h w0 (Ext.refl _)).one (h' w0 (Ext.refl _))
    · rw [e] at e'; cases e'
  · rcases h' with ⟨e', _⟩ | ⟨_, h'⟩
    · rw [e] at e'; cases e'
    · rw [h, h']

theorem stepT_iff {o : Oper} {K : Act → World → Prop} {a : Act} {w : World} : stepT P ops w0 T o K a w ↔ ∃ V, YieldsT P ops w0 T o V a ∧ ∀ v w', Ext w w' → V v w' → K (a.put o.dst v) w' := by
  unfold stepT YieldsT
  cases hw : Region.wanted o (yielded ops a.tmps)
  · simp only [Bool.false_eq_true, if_false, false_and, true_and, false_or]
    exact ⟨fun h => ⟨_, rfl, fun v w' he e => by rw [e]; exact h w' he⟩, fun ⟨V, e, h⟩ w' he => h undef w' he (by rw [e])⟩
  · simp

/-- An operation that may come up now may be taken first. -/
theorem wpAnyT_first (hT : ∀ f args, Stable (T f args)) {n i : Nat} {oi : Oper} {V : Value → World → Prop} {L : Array Bool → Act → World → Prop} (hi : ops[i]? = some oi) (hsel : ∀ (j : Nat) (o : Oper) cs b, ops[j]? = some o → o.op ≠ .select cs b)
    (hs : Region.sinkB md ops n = true) (hc : Region.chainB md ops n = true) (hn : n < ops.size) (hin : i < n)
    (hdone : ∀ listed a w, L listed a w → ∀ j ∈ Region.ready md ops listed, n ≤ j) :
    ∀ (fuel : Nat) (listed : Array Bool) (a : Act) (w : World), Ext w0 w → HeadInv md ops n listed →
      (∀ j oj, ops[j]? = some oj → j ≠ i → listed.getD j true = false → (∀ e ∈ oj.after, Region.binds md e = true → e.on ≠ i) → oi.apart ops oj = true) →
      i ∈ Region.ready md ops listed → YieldsT P ops w0 T oi V a →
      (∀ v w', Ext w w' → V v w' → wpAnyT P md ops w0 T n L fuel (listed.setIfInBounds i true) (a.put oi.dst v) w') → wpAnyT P md ops w0 T n L (fuel + 1) listed a w := by
  intro fuel
  induction fuel with
  | zero =>
    intro listed a w hC inv _ hr hy H
    have hun := (mem_ready.1 hr).1
    obtain ⟨v0, w1, he1, hv0⟩ := hy.some hC
    refine ⟨fun h => (by rw [h] at hr; cases hr), fun j hj => ?_⟩
    have hjn : j < n := by
      rcases Nat.lt_or_ge j n with h | h
      · exact h
      · exact absurd hj (tail_waits hs hc hn inv _ i rfl hin hun j h)
    refine ⟨hjn, fun oj hoj => ?_⟩
    by_cases hji : j = i
    · subst hji
      obtain rfl := Option.some.inj (hi.symm.trans hoj)
      exact stepT_iff.2 ⟨V, hy, H⟩
    · have := hdone _ _ _ (H v0 w1 he1 hv0 w1 (Ext.refl _)) j (ready_mono hj hji)
      omega
  | succ fuel ih =>
    intro listed a w hC inv hfree hr hy H
    have hun := (mem_ready.1 hr).1
    obtain ⟨v0, w1, he1, hv0⟩ := hy.some hC
    refine ⟨fun h => (by rw [h] at hr; cases hr), fun j hj => ?_⟩
    have hjn : j < n := by
      rcases Nat.lt_or_ge j n with h | h
      · exact h
      · exact absurd hj (tail_waits hs hc hn inv _ i rfl hin hun j h)
    refine ⟨hjn, fun oj hoj => ?_⟩
    by_cases hji : j = i
    · subst hji
      obtain rfl := Option.some.inj (hi.symm.trans hoj)
      exact stepT_iff.2 ⟨V, hy, H⟩
    · obtain ⟨hjun, oj', hoj', hall⟩ := mem_ready.1 hj
      obtain rfl := Option.some.inj (hoj.symm.trans hoj')
      have hnot : ∀ e ∈ oj.after, Region.binds md e = true → e.on ≠ i := fun e he hb heq => by
        have h1 := hall e he hb
        rw [heq, getD_both hun] at h1
        cases h1
      have hap := hfree j oj hoj hji hjun hnot
      obtain ⟨h1, h2, h3⟩ := Oper.apart_spec hap
      have hsi : ∀ cs b, oi.op ≠ .select cs b := fun cs b => hsel i oi cs b hi
      have hsj : ∀ cs b, oj.op ≠ .select cs b := fun cs b => hsel j oj cs b hoj
      have H' : ∀ v w', Ext w w' → V v w' → ∃ U, YieldsT P ops w0 T oj U a ∧ ∀ u w2, Ext w' w2 → U u w2 → wpAnyT P md ops w0 T n L fuel ((listed.setIfInBounds i true).setIfInBounds j true) ((a.put oi.dst v).put oj.dst u) w2 := fun v w' he hv => by
        obtain ⟨U, hU, hK⟩ := stepT_iff.1 (((H v w' he hv).2 j (ready_mono hj hji)).2 oj hoj)
        exact ⟨U, hU.of_same (execOp_put oj hsj a oi.dst v h1).symm (wanted_put oj a oi.dst v h1).symm, hK⟩
      obtain ⟨U, hU, _⟩ := H' v0 w1 he1 hv0
      refine stepT_iff.2 ⟨U, hU, fun u w2 he2 hu => ih (listed.setIfInBounds j true) (a.put oj.dst u) w2 (hC.trans he2) (inv.set hj hjn) ?_ (ready_mono hr (Ne.symm hji)) ?_ ?_⟩
      · intro k ok hk hki hun hno
        refine hfree k ok hk hki ?_ hno
        by_cases hjk : j = k
        · subst hjk; exact hjun
        · rw [getD_set_ne true hjk] at hun; exact hun
      · exact hy.of_same (execOp_put oi hsi a oj.dst u h3) (wanted_put oi a oj.dst u h3)
      · intro v w3 he3 hv
        obtain ⟨U', hU', hK⟩ := H' v w3 (he2.trans he3) hv
        obtain rfl := hU.one hU'
        rw [Array.setIfInBounds_comm _ _ hji, ← Act.put_comm a v u h2]
        exact hK u w3 (Ext.refl _) (hU.stable hT u w2 w3 he3 hu)

theorem wpAnyT_lex (hT : ∀ f args, Stable (T f args)) {n g : Nat} {Lq : Act → World → Prop} (hsel : Region.noSelect ops = true) (hs : Region.sinkB md ops n = true) (hc : Region.chainB md ops n = true) (hn : n < ops.size) :
    ∀ (l : List Oper) (k : Nat) (listed : Array Bool) (a : Act) (w : World), Ext w0 w → (∀ j, j < l.length → l[j]? = ops[k + j]?) → k + l.length = n → HeadInv md ops n listed →
    Region.lexHead md ops g l.length k listed = true → wpTab P ops w0 T Lq l a w →
    wpAnyT P md ops w0 T n (fun listed' a' w' => Region.seqB md ops g n listed' = true ∧ Lq a' w') l.length listed a w
  | [], k, listed, a, w, _, _, hk, _, hB, h => by
    have : k = n := by simpa using hk
    subst this
    exact fun w' he => ⟨by simpa [Region.lexHead] using hB, h w' he⟩
  | o :: l, k, listed, a, w, hC, hl, hk, inv, hB, h => by
    have h0 : ops[k]? = some o := by simpa using (hl 0 (by simp)).symm
    simp only [List.length_cons, Region.lexHead, Bool.and_eq_true] at hB
    obtain ⟨⟨hr, hf⟩, hB'⟩ := hB
    have hkn : k < n := by simp only [List.length_cons] at hk; omega
    have hr' : k ∈ Region.ready md ops listed := by simpa using hr
    obtain ⟨V, hV, hK⟩ := stepT_iff.1 h
    exact wpAnyT_first hT h0 (Region.noSelect_spec hsel) hs hc hn hkn (fun listed' a' w' hL => seqB_ready hL.1) l.length listed a w hC inv (Region.free_spec h0 hf) hr' hV
      (fun v w' he hv => wpAnyT_lex hT hsel hs hc hn l (k + 1) _ _ w' (hC.trans he) (fun j hj => by have := hl (j + 1) (by simp; omega); simpa [Nat.add_assoc, Nat.add_comm 1 j] using this) (by simp only [List.length_cons] at hk; omega) (inv.set hr' hkn) hB' (hK v w' he hv))

theorem wpAny_of_tab {n g : Nat} {L : Array Bool → Act → World → Prop} {Q' : Exit → Act → World → Prop} (hL : ∀ listed a w, L listed a w → wpAny P md ops Q' g listed a w) : ∀ (fuel : Nat) (listed : Array Bool) (a : Act) (w : World), Ext w0 w →
    wpAnyT P md ops w0 T n L fuel listed a w → wpAny P md ops Q' (fuel + g) listed a w
  | 0, _, _, w, _, h => by rw [Nat.zero_add]; exact hL _ _ _ (h w (Ext.refl _))
  | fuel + 1, listed, a, w, hw, h => by
    rw [show fuel + 1 + g = (fuel + g) + 1 by omega]
    refine ⟨fun h0 => absurd h0 h.1, fun i hi => ?_⟩
    obtain ⟨_, o, ho, _⟩ := mem_ready.1 hi
    have h1 := (h.2 i hi).2 o ho
    have K : ∀ a' w', Ext w w' → wpAnyT P md ops w0 T n L fuel (listed.setIfInBounds i true) a' w' → wpAny P md ops Q' (fuel + g) (listed.setIfInBounds i true) a' w' := fun a' w' he => wpAny_of_tab hL fuel _ a' w' (hw.trans he)
    unfold wpOp
    simp only [ho]
    unfold stepT at h1
    split
    · rename_i hwd
      simp only [hwd, if_true] at h1
      obtain ⟨V, hV, hn⟩ := h1
      refine .inl ?_
      have h3 := hV w hw
      unfold Oper.wp
      generalize (execOp a.eval o).run P w = r at *
      cases r with
      | ok n w' =>
        cases n <;> simp only [LeavesR] at h3 <;> simp only [Oper.upon]
        case value u =>
          rcases h3 with ⟨e1, e2⟩ | ⟨o', c', e1, e2, e3⟩
          · rw [e1]
            exact K _ _ (Ext.refl _) (hn _ _ (Ext.refl _) (by rw [e2]))
          · rw [e1]
            exact K _ _ (Ext.alloc w o') (hn _ _ (Ext.alloc w o') (by rw [e2, e3]; exact Boxed.new hw c' o'))
        case skip =>
          obtain ⟨e1, e2⟩ := h3
          rw [e1]
          exact K _ _ (Ext.refl _) (hn _ _ (Ext.refl _) (by rw [e2]))
        case enter f args =>
          obtain ⟨e1, e2, hc⟩ := h3
          rw [e1]
          exact hc.mono fun e w'' ⟨v, hv, he, hw''⟩ => by subst he; exact K _ _ hw'' (hn _ _ hw'' (by rw [e2]; exact hv))
      | halt x w' => exact h3.elim
    · rename_i hwd
      simp only [hwd] at h1
      exact K _ _ (Ext.refl _) (by simpa using h1 w (Ext.refl _))

/-- One walk in the order of the text serves every order: the first n operations by the table, those behind them, which wait for each other, as they come. -/
theorem wp_region_tab {id : Nat} {Q : Exit → Act → World → Prop} {a : Act} {w : World} {l : List Oper} (n : Nat) (T : FuncId → Array Value → Value → World → Prop) (hT : ∀ f args, Stable (T f args)) (hm : P.follows .mixedOrders = true) (hB : Region.lexTailB .any l.toArray n = true)
    (h : wpTab P l.toArray w.drew T (fun a' w' => wpList P l.toArray Q (l.drop n) a' w') (l.take n) a w.drew) : (Code.region id l.toArray true).wp P Q a w := by
  simp only [Region.lexTailB, Bool.and_eq_true, decide_eq_true_eq] at hB
  obtain ⟨⟨⟨⟨hsel, hn⟩, hs⟩, hc⟩, hlex⟩ := hB
  have hn' : n < l.length := by simpa using hn
  have htl : (l.take n).length = n := by simp; omega
  have hdl : (l.drop n).length = l.toArray.size - n := by simp
  have inv0 : HeadInv .any l.toArray n (Array.replicate l.toArray.size false) :=
    ⟨by simp, fun j oj _ hl => (by rw [getD_replicate_false] at hl; cases hl), fun t _ ht => getD_in (by simpa using ht) (getD_replicate_false _ _)⟩
  have H := wpAnyT_lex (md := .any) (w0 := w.drew) hT (g := l.toArray.size - n) hsel hs hc hn (l.take n) 0 _ a w.drew (Ext.refl _) (fun j hj => by
    have hj' : j < n := by rw [htl] at hj; exact hj
    simp [hj']) (by simpa using htl) inv0 (by rw [htl]; exact hlex) h
  refine wp_region_any hm ?_
  have := wpAny_of_tab (w0 := w.drew) (Q' := Q) (g := l.toArray.size - n) (fun listed a' w' hL => by
    have := wpAny_of_seq (md := .any) (Q' := Q) (l.drop n) n listed a' w' (fun j => by simp [List.getElem?_drop]) (by rw [hdl]; exact hL.1) hL.2
    rwa [hdl] at this) _ _ _ _ (Ext.refl _) H
  rw [htl, show n + (l.toArray.size - n) = l.toArray.size by omega] at this
  exact this

theorem wpTab_nil {Q : Act → World → Prop} {a : Act} {w : World} (h : ∀ w', Ext w w' → Q a w') : wpTab P ops w0 T Q [] a w := h

variable {Q : Act → World → Prop} {a : Act} {w : World} {o : Oper} {rest : List Oper}
/-- An operation that isn't wanted. -/
theorem tab_skip (hw : Region.wanted o (yielded ops a.tmps) = false) (h : wpTab P ops w0 T Q rest (a.put o.dst undef) w) : wpTab P ops w0 T Q (o :: rest) a w := by
  show stepT P ops w0 T o _ a w
  unfold stepT
  rw [hw]
  exact fun w' he => wpTab_later he h
/-- An operation that yields a value in the very world. -/
theorem tab_value (u : Value) (hw : Region.wanted o (yielded ops a.tmps) = true) (h : ∀ w, Ext w0 w → (execOp a.eval o).run P w = .ok (.value u) w) (hK : wpTab P ops w0 T Q rest (a.put o.dst u) w) : wpTab P ops w0 T Q (o :: rest) a w := by
  show stepT P ops w0 T o _ a w
  unfold stepT
  rw [hw]
  exact ⟨fun v _ => v = u, fun w hw => by rw [h w hw]; exact .inl ⟨rfl, rfl⟩, fun v w' he e => by rw [e]; exact wpTab_later he hK⟩
/-- An operation that makes a block. -/
theorem tab_box (ob : Obj) (hw : Region.wanted o (yielded ops a.tmps) = true) (h : ∀ w, Ext w0 w → (execOp a.eval o).run P w = .ok (.value (.pointer (some ⟨w.heap.size, 0, none⟩))) (w.alloc ob))
    (hK : ∀ b w', Ext w w' → w0.heap.size ≤ b → b < w'.heap.size → w'.heap[b]? = some ob → wpTab P ops w0 T Q rest (a.put o.dst (.pointer (some ⟨b, 0, none⟩))) w') : wpTab P ops w0 T Q (o :: rest) a w := by
  show stepT P ops w0 T o _ a w
  unfold stepT
  rw [hw]
  exact ⟨Boxed w0 .none ob, fun w hw => by rw [h w hw]; exact .inr ⟨ob, .none, rfl, rfl, rfl⟩, fun v w' he ⟨b, e, h1, h2, h3⟩ => by rw [e]; exact hK b w' he h1 h2 h3⟩
/-- An operation that makes a block, and a slice of all of it. -/
theorem tab_slice (n : Nat) (ob : Obj) (hw : Region.wanted o (yielded ops a.tmps) = true) (h : ∀ w, Ext w0 w → (execOp a.eval o).run P w = .ok (.value (.slice (some ⟨w.heap.size, 0, none⟩) n n)) (w.alloc ob))
    (hK : ∀ b w', Ext w w' → w0.heap.size ≤ b → b < w'.heap.size → w'.heap[b]? = some ob → wpTab P ops w0 T Q rest (a.put o.dst (.slice (some ⟨b, 0, none⟩) n n)) w') : wpTab P ops w0 T Q (o :: rest) a w := by
  show stepT P ops w0 T o _ a w
  unfold stepT
  rw [hw]
  exact ⟨Boxed w0 (.some n) ob, fun w hw => by rw [h w hw]; exact .inr ⟨ob, .some n, rfl, rfl, rfl⟩, fun v w' he ⟨b, e, h1, h2, h3⟩ => by rw [e]; exact hK b w' he h1 h2 h3⟩
/-- A call. -/
theorem tab_call (f : FuncId) (args : Array Value) (hw : Region.wanted o (yielded ops a.tmps) = true) (h : ∀ w, Ext w0 w → (execOp a.eval o).run P w = .ok (.enter f args) w)
    (hc : ∀ w, Ext w0 w → Calls P f args w fun e w'' => ∃ v, T f args v w'' ∧ e = .returned v ∧ Ext w w'') (hK : ∀ v w', Ext w w' → T f args v w' → wpTab P ops w0 T Q rest (a.put o.dst v) w') : wpTab P ops w0 T Q (o :: rest) a w := by
  show stepT P ops w0 T o _ a w
  unfold stepT
  rw [hw]
  exact ⟨T f args, fun w hw => by rw [h w hw]; exact ⟨rfl, rfl, hc w hw⟩, hK⟩
end
end Go.Proofs.YtlfbmpenekiigaaGreatDoor.T2
