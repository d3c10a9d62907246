/- append of a whole slice to a slice of the call's own, whether the second is empty or not; conditions: a million elements at most. -/
import Derived.Test.YtabnnnnheipldaaTpl
import Derived.Test.YtabnnnnheipldaaNames
import Derived.Deep.Upon
namespace Go.Proofs.Ytabnnnnheipldaa
open Go.ChangeShapes Go.WideShapes Go.ChangeAt Go.RowKit

theorem wpList_cat {P : Program} {w : World} {ops : Array Oper} {rest : List Oper} {o : Oper} {a : Act} {Q : Exit → Act → World → Prop} (hgd : o.guard = none) (s x : Operand) (t : TypeId)
    (ho : o.op = .call { callee := .builtin .append, args := #[s, x], argTypes := #[t, t] })
    (base : Nat) (e : TypeId) (i : TypeInfo) (z : Value) (bytes : Nat) (ht : P.underlying t = some (.slice e)) (hi : P.info? e = some i) (hz : i.zero = some z) (hsize : i.size = 1) (hby : i.bytes = bytes) (hzs : z.cells.size = 1) (hbm : bytes ≤ 16)
    (v : Value) (n : Nat) (xs : List Value) (hs : a.eval s = v) (hown : w.ownsRow base e 1 v n xs) (ax : Option Addr) (m cx : Nat) (news : List Value) (hx : a.eval x = .slice ax m cx) (hl : news.length = m)
    (hnews : ∀ j u, news[j]? = some u → ∃ b k, ax = some ⟨b, k, none⟩ ∧ w.cell? ⟨b, k + j, none⟩ = some u) (h1 : ∀ u ∈ news, u.oneCell' = true) (hnm : n + m ≤ 5000000000) (hbase : base ≤ w.heap.size)
    (h : ∀ v' w', w'.ownsRow base e 1 v' (n + m) (xs ++ news) → w.grownBy w' v.ownBlock → (∀ k, v'.ownBlock = some k → v.ownBlock = some k ∨ w.heap.size ≤ k) → (∃ a' c', v' = .slice a' (n + m) c') → wpList P ops Q rest (a.put o.dst v') w') :
    wpList P ops Q (o :: rest) a w := by
  cases m with
  | zero =>
    have e0 : news = [] := List.eq_nil_of_length_eq_zero hl
    subst e0
    obtain ⟨va, vc, rfl⟩ := own_form hown
    have hle : n ≤ vc := by
      rcases hown.2 with ⟨e1, e2⟩ | ⟨g, cap, cur, e1, _, _, h4, _⟩
      · omega
      · simp at e1; omega
    refine wpList_plain hgd fun K hK => ?_
    have hsrc : Src P i.size t (.slice ax 0 cx) 0 [] w := by
      cases ax with
      | none => exact Src.ofNil w ht cx
      | some ad => exact Src.ofSlice w ht ad 0 cx [] (by simp) (fun j u hu => by simp at hu) (fun u hu => by cases hu)
    have hrun := run_append_nothing w t t o.type e i ht hi va n vc hle _ hsrc
    unfold Oper.wp
    simp [execOp, ho, resolve, invoke, builtin, hs, hx, hrun, Result.andThen]
    exact hK _ _ (h _ w (by simpa using hown) (World.grownBy.refl _ _) (fun k hk => .inl hk) ⟨_, _, rfl⟩)
  | succ m =>
    obtain ⟨u0, hu0⟩ : ∃ u, news[0]? = some u := ⟨_, List.getElem?_eq_getElem (by omega)⟩
    obtain ⟨b, k, rfl, _⟩ := hnews 0 u0 hu0
    have hn2 : ∀ j u, news[j]? = some u → w.cell? ((⟨b, k, none⟩ : Addr).add j) = some u := by
      intro j u hj
      obtain ⟨b', k', e', hc⟩ := hnews j u hj
      simp at e'
      obtain ⟨rfl, rfl⟩ := e'
      rw [Addr.add_lit]
      exact hc
    refine wpList_append_lies w hgd s x t ho base e i z 1 bytes ht hi hz hsize hby hzs (by decide) v n xs hs hown ⟨b, k, none⟩ (m + 1) cx news hx (by omega) hn2 h1 (by omega) (by unfold maxLen; omega) ?_ hbase w.heap.size rfl ?_
    · have := Nat.mul_le_mul hnm hbm
      omega
    · intro g cap w' h2 h3 h4 _
      exact h _ w' h2 h3 (lies_at h4) ⟨_, _, rfl⟩
end Go.Proofs.Ytabnnnnheipldaa
