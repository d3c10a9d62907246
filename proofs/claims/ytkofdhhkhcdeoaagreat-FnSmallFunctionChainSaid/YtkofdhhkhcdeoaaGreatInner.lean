/- The list of inner types in the print state: an element more at its end, and one less; conditions: a million elements at most. -/
import Derived.Test.YtkofdhhkhcdeoaaGreatPrint
namespace Go.Proofs.YtkofdhhkhcdeoaaGreat
open Go.ChangeShapes Go.WideShapes Go.ChangeAt Go.RowKit

/-- 'ps.inner = append(ps.inner, x)': the append, as a law of the walk; the store comes behind it. -/
theorem wpList_pushInn {w : World} {p : Nat} {st : St} {sl : Sl} {ops : Array Oper} {rest : List Oper} {o : Oper} {a : Act} {Q : Exit → Act → World → Prop} (hgd : o.guard = none) (s x : Operand)
    (ho : o.op = .call { callee := .builtin .append, args := #[s, x], argTypes := #[41, 41] }) (h : PsAt w p st sl) (t b : Nat) (hs : a.eval s = sl.inn) (hx : a.eval x = .slice (some ⟨w.heap.size, 0, none⟩) 1 1) (hlen : st.inn.length ≤ 1000000)
    (hk : ∀ gg cap w2, w2.cell? ⟨p, 8, none⟩ = some sl.inn → w2.frozen? ⟨p, 8, none⟩ = false →
      (PsAt (w2.setCell ⟨p, 8, none⟩ (.slice (some ⟨gg, 0, none⟩) (st.inn.length + 1) cap)) p { st with inn := st.inn ++ [.iface t (.pointer (some ⟨b, 0, none⟩))] } { sl with inn := .slice (some ⟨gg, 0, none⟩) (st.inn.length + 1) cap } ∧
        Fr p sl { sl with inn := .slice (some ⟨gg, 0, none⟩) (st.inn.length + 1) cap } w (w2.setCell ⟨p, 8, none⟩ (.slice (some ⟨gg, 0, none⟩) (st.inn.length + 1) cap))) →
      wpList Tryz.prog ops Q rest (a.put o.dst (.slice (some ⟨gg, 0, none⟩) (st.inn.length + 1) cap)) w2) : wpList Tryz.prog ops Q (o :: rest) a (w.alloc (.cells #[.iface t (.pointer (some ⟨b, 0, none⟩))] 30)) := by
  obtain ⟨i0, hi0, hz0, hz1, hz2⟩ := info_parts infoA
  have A := h.alloc (.cells #[.iface t (.pointer (some ⟨b, 0, none⟩))] 30)
  have hlt := h.lt
  refine wpList_append_lies _ hgd s x 41 ho (p + 1) 30 i0 _ 1 16 Tryz.underlying41 hi0 hz0 hz1 hz2 rfl (by decide) sl.inn st.inn.length st.inn hs A.1.ownInn ⟨w.heap.size, 0, none⟩ 1 1 [.iface t (.pointer (some ⟨b, 0, none⟩))] hx rfl (World.news_of_block (cs := #[.iface t (.pointer (some ⟨b, 0, none⟩))]) (t := 30) (fr := (0, 0)) (heap_alloc_new w _)) (by simp [Value.oneCell']) (by omega) (by unfold maxLen; omega) (by omega) (by simp; omega) (w.heap.size + 1) (by simp) ?_
  intro gg cap w2 hown hgrow hat _
  have P := A.1.grewInn (l' := st.inn ++ [.iface t (.pointer (some ⟨b, 0, none⟩))]) hgrow (by simpa using hown) (by simpa using lies_at hat)
  exact hk gg cap w2 ((A.1.mid hgrow A.1.rowInn 8).1.trans A.1.c8) (A.1.mid hgrow A.1.rowInn 8).2 ⟨P.1, A.2.trans P.2⟩

theorem PsAt.popInn {w : World} {p : Nat} {st : St} {sl : Sl} (h : PsAt w p st sl) {l : List Value} {x : Value} (e : st.inn = l ++ [x]) :
    ∃ ia ic, sl.inn = .slice ia (l.length + 1) ic ∧ l.length + 1 ≤ ic ∧ ic ≤ 9223372036854775807 ∧ (∃ g, ia = some ⟨g, 0, none⟩ ∧ w.cell? ⟨g, l.length, none⟩ = some x) ∧
      PsAt (w.setCell ⟨p, 8, none⟩ (.slice ia l.length ic)) p { st with inn := l } { sl with inn := .slice ia l.length ic } ∧ Fr p sl { sl with inn := .slice ia l.length ic } w (w.setCell ⟨p, 8, none⟩ (.slice ia l.length ic)) := by
  obtain ⟨ia, ic, ei⟩ := h.innForm
  have el : st.inn.length = l.length + 1 := by rw [e]; simp
  have hown := h.ownInn
  have hcell := h.innCell ei l.length (by omega)
  obtain ⟨g, eg, hg⟩ := hcell
  rw [ei, el] at hown
  have hsep := h.sep
  rw [ei] at hsep
  have own2 : w.ownsRow (p + 1) 30 1 (.slice ia l.length ic) l.length l := by
    have := own_cut (m := l.length) (by rw [e] at hown; exact hown) (by omega) (by omega)
    simpa using this
  have hc1 : l.length + 1 ≤ ic ∧ ic ≤ 9223372036854775807 := by
    rcases hown.2 with ⟨e4, e5⟩ | ⟨g4, c4, cur4, e4, _, _, h4, h5, _⟩
    · simp at e5
    · simp at e4; unfold maxLen at h5; omega
  refine ⟨ia, ic, by rw [ei, el], hc1.1, hc1.2, ⟨g, eg, ?_⟩, h.setInn own2 ?_, ?_⟩
  · rw [hg]
    have : st.inn[l.length]? = some x := by rw [e]; simp
    rw [List.getElem?_eq_getElem (by omega)] at this
    exact this
  · intro k hk
    exact hsep k (by rw [own_len ia _ l.length]; exact hk)
  · exact fr_set (sl := sl) 8 _ _ rfl (fun k hk => .inl (by rw [ei, own_len ia _ l.length]; exact hk)) (fun _ hk => .inl hk)
end Go.Proofs.YtkofdhhkhcdeoaaGreat
