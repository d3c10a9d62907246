/- A slice of strings among the arguments, opened: the list that it reads as; conditions: none. -/
import Derived.Test.YtgcmhbonadibeaaBase
import Derived.SliceStrings
namespace Go.Proofs.Ytgcmhbonadibeaa
open Go.ChangeShapes Go.WideShapes Go.ChangeAt Go.RowKit

theorem strs_open {H : Type} {enc : TypeId × Value → H} {W : World} {a : Option Addr} {len cap : Nat} {d : DataW H} {p : List MemPlace}
    (h : DataW.Trod enc Try.prog W 0 (fun _ => true) true 22 (.slice a len cap) d p) :
    ∃ l : List ByteArray, len = l.length ∧ Strs W (.slice a l.length cap) l ∧ (a = none → cap = 0) ∧ l.length ≤ cap ∧ cap ≤ 9223372036854775807 ∧ ∀ s ∈ l, s.size ≤ 9223372036854775807 := by
  obtain ⟨fuel, hf⟩ := h
  rcases open_strings Try.underlying22 Try.underlying9 (by kernel_rfl) hf with ⟨hcs, _⟩ | ⟨x, len', cap', ss, hcs, _, hl, hm, hz, _, hcell, hws⟩
  · simp [Value.cells] at hcs
    obtain ⟨rfl, rfl, rfl⟩ := hcs
    exact ⟨[], rfl, ⟨none, 0, rfl, by simp, fun i hi => by simp at hi⟩, fun _ => rfl, by simp, by omega, by simp⟩
  · simp [Value.cells] at hcs
    obtain ⟨rfl, rfl, rfl⟩ := hcs
    unfold maxLen at hm hws
    have hz' : ss.length = cap := by simpa using hz
    have hlen : (ss.take len).length = len := by simp; omega
    refine ⟨ss.take len, hlen.symm, ⟨some x, cap, rfl, by omega, ?_⟩, (by simp), by omega, by omega, fun s hs => hws s (List.mem_of_mem_take hs)⟩
    intro i hi
    have h0 := hcell 0 (by omega)
    have hsp : x.spot = none := by simpa [Addr.add] using World.cell?_spot h0
    obtain ⟨b, o, sp⟩ := x
    simp only at hsp
    subst hsp
    refine ⟨b, o, rfl, ?_⟩
    have hc := hcell i (by omega)
    have e : (⟨b, o, none⟩ : Addr).add i = ⟨b, o + i, none⟩ := by unfold Addr.add; split <;> simp_all
    rw [e] at hc
    rw [hc]
    have : i < len := by omega
    simp [List.getD_eq_getElem?_getD, this]
end Go.Proofs.Ytgcmhbonadibeaa
