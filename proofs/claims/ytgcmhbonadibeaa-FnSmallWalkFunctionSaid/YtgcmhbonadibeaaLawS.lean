/- laws.FnSmallWalkScopes returns true, for every input; conditions: none. -/
import Derived.Test.YtgcmhbonadibeaaWalkS
import Derived.Test.YtgcmhbonadibeaaOpen
import Derived.Laws.AppendOwnNone
namespace Go.Proofs.Ytgcmhbonadibeaa
open Go.ChangeShapes Go.WideShapes Go.ChangeAt Go.RowKit

def True1 (w : World) (e : Ending) (w' : World) : Prop := e = .returned (.bool true) ∧ Below w.heap.size w w'

theorem cxx_succ (n : Int) (L : Nat) (h : L ≤ 1000) (w : World) : Calls Try.prog 6 #[.int .i64 n, .int .i64 ((L : Int) + 1)] w (Below0 (L + 1) w) := by
  have := cxx_any n (L + 1) (by omega) (by omega) w
  rwa [show (((L + 1 : Nat) : Int)) = (L : Int) + 1 by omega] at this

/-- The plain law: what the walk gathers. -/
theorem trav_eq (f : ByteArray) : ∀ (R : List ByteArray) (r : Nat), r ≤ R.length → (trav f R r).1 = (if r = R.length then [f] else []) ++ (R.take r).reverse
  | [], r, h => by
    have : r = 0 := by simpa using h
    subst this
    simp [trav]
  | s :: R, 0, _ => by simp [trav]
  | s :: R, r + 1, h => by
    have ih := trav_eq f R r (by simpa using h)
    rw [trav_yes (by omega), show ((r + 1 : Nat) : Int) - 1 = (r : Int) by omega]
    simp only [ih]
    by_cases h2 : r = R.length
    · simp [h2]
    · simp [h2]

theorem want_alike (f : ByteArray) (l : List ByteArray) (r : Nat) (h : r ≤ l.length) :
    Alike2 (trav f l.reverse r).1 (l.drop (l.length - r) ++ (if r = l.length then [f] else [])) := by
  rw [trav_eq f l.reverse r (by simpa using h)]
  have e : (l.reverse.take r).reverse = l.drop (l.length - r) := by
    rw [List.take_reverse, List.reverse_reverse]
  rw [e, List.length_reverse]
  refine ⟨by simp only [List.length_append]; omega, fun s _ => ?_⟩
  unfold cnt
  rw [List.countP_append, List.countP_append]
  omega

/-- 'rest[len(rest)-k:]': its run, and the texts that lie there. -/
theorem cut_run {w : World} {a : Option Addr} {c : Nat} {l : List ByteArray} {r : Nat} (h : Strs w (.slice a l.length c) l) (hnil : a = none → c = 0) (hc : l.length ≤ c) (hr : r ≤ l.length) :
    ∃ A cc, (∀ W : World, (Instr.slice 22 (.slice a l.length c) (some (.int .i64 ((l.length : Int) - r))) none none).run Try.prog W = .ok (.slice A r cc) W) ∧
      ((A = none ∧ r = 0 ∧ cc = 0) ∨ ∃ ad, A = some ad ∧ ∀ j u, ((l.drop (l.length - r)).map Value.string)[j]? = some u → w.cell? (ad.add j) = some u) := by
  obtain ⟨i0, hi0, hz0, hz1, hz2⟩ := info_parts Try.info9
  obtain ⟨_, _, e, _, hcell⟩ := h
  obtain ⟨rfl, _, rfl⟩ : a = _ ∧ l.length = l.length ∧ c = _ := by simpa using e
  have hrun : ∀ W : World, (Instr.slice 22 (.slice a l.length c) (some (.int .i64 ((l.length : Int) - r))) none none).run Try.prog W =
      .ok (.slice (if c = l.length - r then a else a.map (·.add (l.length - r))) r (c - (l.length - r))) W := by
    intro W
    have hsz : (sizeOf 9).run Try.prog W = .ok 1 W := by simp [sizeOf, typeInfo, hi0, hz1]
    rw [run_slice_l (P := Try.prog) W 22 a l.length c (by kernel_rfl) .i64 _ (by omega) (by omega)]
    rw [show Try.prog.elem 22 = 9 by kernel_rfl, hsz]
    have e1 : ((l.length : Int) - r).toNat = l.length - r := by omega
    simp only [Result.andThen, sliced, e1, Nat.mul_one]
    rw [show l.length - (l.length - r) = r by omega]
  refine ⟨_, _, hrun, ?_⟩
  cases a with
  | none =>
    have h0 := hnil rfl
    left
    exact ⟨by split <;> rfl, by omega, by omega⟩
  | some ad =>
    right
    by_cases hz : c = l.length - r
    · refine ⟨ad, by simp [hz], ?_⟩
      have : r = 0 := by omega
      subst this
      intro j u hu
      simp at hu
    · refine ⟨ad.add (l.length - r), by simp [hz], ?_⟩
      intro j u hu
      have hj : j < r := by
        have := (List.getElem?_eq_some_iff.1 hu).1
        simp at this
        omega
      obtain ⟨b, o, eb, hb⟩ := hcell (l.length - r + j) (by omega)
      obtain rfl : ad = ⟨b, o, none⟩ := by simpa using eb
      have e2 : ((⟨b, o, none⟩ : Addr).add (l.length - r)).add j = ⟨b, o + (l.length - r + j), none⟩ := by
        unfold Addr.add
        split <;> split <;> simp_all <;> omega
      rw [e2, hb]
      rw [List.getElem?_map, List.getElem?_drop] at hu
      rw [List.getD_eq_getElem?_getD]
      cases hq : l[l.length - r + j]? with
      | none => rw [hq] at hu; cases hu
      | some q => rw [hq] at hu; simpa using hu


/-- A slice of strings that the call owns, a row of some blocks from a number on. -/
def Own (w : World) (B : Nat) (v : Value) (xs : List ByteArray) : Prop := w.ownsRow B 9 1 v xs.length (xs.map Value.string)

theorem Own.strs {w : World} {B : Nat} {v : Value} {xs : List ByteArray} (h : Own w B v xs) (hl : xs.length ≤ 9223372036854775807) : Strs w v xs := strs_of_own h hl

theorem own_empty (w : World) : Own (w.alloc (.cells #[] 9)) w.heap.size (.slice (some ⟨w.heap.size, 0, none⟩) 0 0) [] :=
  World.ownsRow_made w #[] 0 (Nat.le_refl _) (by unfold maxLen; omega) rfl

theorem grown_below {w0 w w' : World} {v : Value} {xs : List ByteArray} (h : Own w w0.heap.size v xs) (hb : Below w0.heap.size w0 w) (hg : w.grownBy w' v.ownBlock) : Below w0.heap.size w0 w' :=
  hb.grown hg hb.size (fun k hk => (h.lt k hk).1)

theorem drop_len (l : List ByteArray) (r : Nat) (h : r ≤ l.length) : ((l.drop (l.length - r)).map Value.string).length = r * 1 := by
  simp; omega
theorem strings_one (l : List ByteArray) : ∀ u ∈ l.map Value.string, u.oneCell' = true := by
  intro u hu
  obtain ⟨s, _, rfl⟩ := List.mem_map.1 hu
  rfl

/-- What is appended: nothing out of nil, or texts that lie in memory. -/
def Src (w : World) (A : Option Addr) (n cc : Nat) (ys : List ByteArray) : Prop :=
  ys.length = n ∧ ((A = none ∧ n = 0 ∧ cc = 0) ∨ ∃ ad, A = some ad ∧ ∀ j u, (ys.map Value.string)[j]? = some u → w.cell? (ad.add j) = some u)

theorem Src.later {w w' : World} {A : Option Addr} {n cc : Nat} {ys : List ByteArray} (h : Src w A n cc ys) (hb : Below w.heap.size w w') : Src w' A n cc ys := by
  refine ⟨h.1, ?_⟩
  rcases h.2 with h2 | ⟨ad, rfl, hc⟩
  · exact .inl h2
  · exact .inr ⟨ad, rfl, fun j u hu => (hb.cell (p := ad.add j) (World.block_lt_of_cell? w _ (hc j u hu))).trans (hc j u hu)⟩

theorem Src.block {w : World} {b n : Nat} {ys : List ByteArray} {t : TypeId} {fr : Nat × Nat} {cs : Array Value} (h : w.heap[b]? = some (.cells cs t fr)) (hc : cs.toList = ys.map Value.string) (hn : ys.length = n) : Src w (some ⟨b, 0, none⟩) n n ys :=
  ⟨hn, .inr ⟨_, rfl, by rw [← hc]; exact World.news_of_block h⟩⟩

/-- append of texts to a slice of the call's own, whatever the source: as a law of the walk. -/
theorem wpList_app {w : World} {ops : Array Oper} {rest : List Oper} {o : Oper} {a : Act} {Q : Exit → Act → World → Prop} (hgd : o.guard = none) (s x : Operand)
    (ho : o.op = .call { callee := .builtin .append, args := #[s, x], argTypes := #[22, 22] })
    (B : Nat) (v : Value) (xs : List ByteArray) (hs : a.eval s = v) (hown : Own w B v xs) (A : Option Addr) (n cc : Nat) (ys : List ByteArray) (hx : a.eval x = .slice A n cc) (hsrc : Src w A n cc ys)
    (hbound : xs.length + n ≤ 1000000) (hbase : B ≤ w.heap.size) (h : ∀ v' w', Own w' B v' (xs ++ ys) → w.grownBy w' v.ownBlock → wpList Try.prog ops Q rest (a.put o.dst v') w') : wpList Try.prog ops Q (o :: rest) a w := by
  obtain ⟨i0, hi0, hz0, hz1, hz2⟩ := info_parts Try.info9
  obtain ⟨hy, ⟨rfl, rfl, rfl⟩ | ⟨ad, rfl, hc⟩⟩ := hsrc
  · obtain rfl : ys = [] := List.eq_nil_of_length_eq_zero hy
    exact wpList_append_own_none hgd s x 22 ho B 9 i0 1 Try.underlying22 hi0 v xs.length _ hs hown hx (h v w (by simpa using hown) ⟨rfl, rfl, rfl, Nat.le_refl _, fun _ _ _ => rfl⟩)
  · refine wpList_append_own w hgd s x 22 ho B 9 i0 _ 1 16 Try.underlying22 hi0 hz0 hz1 hz2 rfl (by decide) v _ _ hs hown ad n cc (ys.map Value.string) hx (by simp [hy]) hc (strings_one ys) (by unfold maxLen; omega) (by omega) hbase ?_
    intro v' w' h1 h2 _
    refine h v' w' ?_ h2
    unfold Own
    rw [List.length_append, List.map_append, hy]
    exact h1

set_option maxRecDepth 100000 in
set_option maxHeartbeats 2000000 in
theorem law_scopes (f : ByteArray) (a : Option Addr) (c : Nat) (l : List ByteArray) (n : Int) (w : World) (hf : f.size ≤ 9223372036854775807) (h : Strs w (.slice a l.length c) l) (hnil : a = none → c = 0) (hc : l.length ≤ c) (hc2 : c ≤ 9223372036854775807) (hz : ∀ s ∈ l, s.size ≤ 9223372036854775807) :
    Calls Try.prog 3 #[.string f, .slice a l.length c, .int .i64 n] w (True1 w) := by
  have hl : l.length ≤ 9223372036854775807 := by omega
  have hz' := Lib.hid hz
  have hnil' := Lib.hid hnil
  clear hz hnil
  go_enter Try.func3, Try.ntmps3
  by_cases h1 : 2147483647 < f.size
  · go_wp2_with fail
    go_ret
    exact ⟨rfl, Below.refl _ _⟩
  · go_wp2_with (first | (go_at_call 5; refine (fits_any _ l _ h hz'.out).mono ?_; rintro e w' ⟨b, rfl, rfl⟩; cases b))
    · go_ret
      exact ⟨rfl, Below.refl _ _⟩
    · go_ret
      exact ⟨rfl, Below.refl _ _⟩
    · have hlen : l.length ≤ 1000 := by omega
      refine (cxx_succ n l.length hlen w).mono ?_
      rintro e w' ⟨r, hr, rfl, rfl⟩
      have hr' : r ≤ l.length := by omega
      obtain ⟨A, cc, hrun, hcells⟩ := cut_run h hnil'.out hc hr'
      have hsrc : Hid (Src w A r cc (l.drop (l.length - r))) := ⟨by simp; omega, hcells⟩
      have H := Lib.hid h
      clear h hcells
      have hb0 := Lib.hid ((Below.refl w.heap.size w).alloc (Nat.le_refl _) (.cells #[] 9))
      by_cases heq : r = l.length
      · have hte : ((r : Int) == (l.length : Int)) = true := by simp [heq]
        have HW := Lib.hid (want_alike f l r hr')
        rw [if_pos heq] at HW
        have HE := Lib.hid heq
        clear heq
        go_wp2_with (first | (at_builtin; refine wpList_app rfl (.tmp 25) (.tmp 31) rfl w.heap.size _ [] rfl (own_empty w) A r cc (l.drop (l.length - r)) rfl (hsrc.out.later hb0.out) (by simp; omega) (by simp) ?_; intro v1 w1 hown1 hgrow1; have hb1 := Lib.hid (grown_below (own_empty w) hb0.out hgrow1); have hO1 := Lib.hid hown1; have hs1 := hb1.out.size; clear hown1 hgrow1) | (at_builtin; refine wpList_app rfl (.tmp 37) (.tmp 39) rfl w.heap.size _ ([] ++ l.drop (l.length - r)) rfl (hO1.out.alloc _) (some ⟨w1.heap.size, 0, none⟩) 1 1 [f] rfl (Src.block (heap_alloc_new w1 _) rfl rfl) (by simp; omega) (by simp; omega) ?_; intro v2 w2 hown2 hgrow2; have hb2 := Lib.hid (grown_below (hO1.out.alloc _) (hb1.out.alloc hs1 _) hgrow2); have hO2 := Lib.hid hown2; clear hown2 hgrow2) | (go_at_call 8; refine (walk_any f _ l r _ (H.out.below hb2.out) hlen (by omega)).mono ?_; rintro e w3 ⟨v3, rfl, hs3, hb3⟩; have H3 := Lib.hid hs3; have B3 := Lib.hid hb3; clear hs3 hb3) | (go_at_call 7; refine (alike_any _ _ _ _ _ H3.out ((hO2.out.strs (by simp; omega)).below B3.out) HW.out).mono ?_; rintro e w4 ⟨rfl, rfl⟩))
        go_ret
        exact ⟨rfl, hb2.out.trans (B3.out.mono hb2.out.size)⟩
      · have hte : ((r : Int) == (l.length : Int)) = false := by simp; omega
        have HW := Lib.hid (want_alike f l r hr')
        rw [if_neg heq, List.append_nil] at HW
        have HE := Lib.hid heq
        clear heq
        go_wp2_with (first | (at_builtin; refine wpList_app rfl (.tmp 25) (.tmp 31) rfl w.heap.size _ [] rfl (own_empty w) A r cc (l.drop (l.length - r)) rfl (hsrc.out.later hb0.out) (by simp; omega) (by simp) ?_; intro v1 w1 hown1 hgrow1; have hb1 := Lib.hid (grown_below (own_empty w) hb0.out hgrow1); have hO1 := Lib.hid hown1; clear hown1 hgrow1) | (go_at_call 8; refine (walk_any f _ l r _ (H.out.below hb1.out) hlen (by omega)).mono ?_; rintro e w3 ⟨v3, rfl, hs3, hb3⟩; have H3 := Lib.hid hs3; have B3 := Lib.hid hb3; clear hs3 hb3) | (go_at_call 7; refine (alike_any _ _ _ _ _ H3.out ((hO1.out.strs (by simp; omega)).below B3.out) HW.out).mono ?_; rintro e w4 ⟨rfl, rfl⟩))
        go_ret
        exact ⟨rfl, hb1.out.trans (B3.out.mono hb1.out.size)⟩

theorem scopesW (f : ByteArray) (hf : f.size ≤ maxLen) (a : Option Addr) (c : Nat) (l : List ByteArray) {w : World} (h : Strs w (.slice a l.length c) l) (hnil : a = none → c = 0) (hc : l.length ≤ c) (hc2 : c ≤ 9223372036854775807) (hz : ∀ s ∈ l, s.size ≤ 9223372036854775807)
    (n : Int) (_wf : (Lit.int .i64 n).wf = true) : Calls Try.prog 3 #[.string f, .slice a l.length c, .int .i64 n] w (True1 w) :=
  law_scopes f a c l n w (by unfold maxLen at hf; exact hf) h hnil hc hc2 hz
end Go.Proofs.Ytgcmhbonadibeaa
