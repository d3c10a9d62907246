/- Slices of strings among the arguments: what they read as, and the size test of the laws; conditions: none. -/
import Derived.Test.YtkofdhhkhcdeoaaGreatRows
import Derived.WalkKit
import Derived.ProofKit
import Derived.OpenShut
import Derived.SliceStrings
import Derived.Lib.Hide
namespace Go.Proofs.YtkofdhhkhcdeoaaGreat
open Go.ChangeShapes Go.WideShapes Go.ChangeAt Go.RowKit

/-- The strings of a slice, as they lie in memory. -/
def Strs (w : World) (v : Value) (l : List ByteArray) : Prop :=
  ∃ a c, v = .slice a l.length c ∧ l.length ≤ 9223372036854775807 ∧
    ∀ i, i < l.length → ∃ b o, a = some ⟨b, o, none⟩ ∧ w.cell? ⟨b, o + i, none⟩ = some (.string (l.getD i ByteArray.empty))

def True1 (w : World) (e : Ending) (w' : World) : Prop := e = .returned (.bool true) ∧ Below w.heap.size w w'

def SomeBool (w : World) (e : Ending) (w' : World) : Prop := ∃ b, e = .returned (.bool b) ∧ w = w'

set_option maxHeartbeats 400000 in
theorem fits_any (v : Value) (l : List ByteArray) (w : World) (h : Strs w v l) (hz : ∀ s ∈ l, s.size ≤ 9223372036854775807) : Calls Tryz.prog 4 #[v] w (SomeBool w) := by
  obtain ⟨a, c, rfl, hl, hc⟩ := h
  go_enter Tryz.func4, Tryz.ntmps4
  go_wp2
  · go_ret
    exact ⟨_, rfl, rfl⟩
  · go_loop [10] (fun i => ∃ k : Nat, k ≤ l.length ∧ i = .int .i64 k) (fun i => l.length - (intOf i).toNat)
    case atStart => exact ⟨0, Nat.zero_le _, rfl⟩
    case round =>
      obtain ⟨k, hk, rfl⟩ := hrel
      by_cases hlt : k < l.length
      · obtain ⟨b, o, rfl, hcell⟩ := hc k hlt
        have hs : (l.getD k ByteArray.empty).size ≤ 9223372036854775807 := hz _ (by rw [List.getD_eq_getElem?_getD, List.getElem?_eq_getElem hlt]; simp)
        clear hc hz
        go_wp2
        · go_ret
          exact ⟨_, rfl, rfl⟩
        · go_round
          case rel => exact ⟨k + 1, by omega, by go_num⟩
          case measure => simp [intOf]; omega
      · go_wp2
        go_ret
        exact ⟨_, rfl, rfl⟩

/-- The size test's yes tells that no text is longer than 2^31 - 1. -/
def FitsSaid (l : List ByteArray) (w : World) (e : Ending) (w' : World) : Prop := ∃ b, e = .returned (.bool b) ∧ (b = true → ∀ i, i < l.length → (l.getD i ByteArray.empty).size ≤ 2147483647) ∧ w = w'

set_option maxHeartbeats 400000 in
theorem fits_yes (v : Value) (l : List ByteArray) (w : World) (h : Strs w v l) (hz : ∀ s ∈ l, s.size ≤ 9223372036854775807) : Calls Tryz.prog 4 #[v] w (FitsSaid l w) := by
  obtain ⟨a, c, rfl, hl, hc⟩ := h
  go_enter Tryz.func4, Tryz.ntmps4
  go_wp2
  · go_ret
    exact ⟨false, rfl, fun e => (by cases e), rfl⟩
  · go_loop [10] (fun i => ∃ k : Nat, k ≤ l.length ∧ i = .int .i64 k ∧ ∀ j, j < k → (l.getD j ByteArray.empty).size ≤ 2147483647) (fun i => l.length - (intOf i).toNat)
    case atStart => exact ⟨0, Nat.zero_le _, rfl, fun j hj => by omega⟩
    case round =>
      obtain ⟨k, hk, rfl, hsm⟩ := hrel
      have HS := Lib.hid hsm
      clear hsm
      by_cases hlt : k < l.length
      · obtain ⟨b, o, rfl, hcell⟩ := hc k hlt
        have hs : (l.getD k ByteArray.empty).size ≤ 9223372036854775807 := hz _ (by rw [List.getD_eq_getElem?_getD, List.getElem?_eq_getElem hlt]; simp)
        obtain ⟨s, es⟩ : ∃ s, s = l.getD k ByteArray.empty := ⟨_, rfl⟩
        rw [← es] at hcell hs
        have ES := Lib.hid es
        clear hc hz es
        go_wp2
        · go_ret
          exact ⟨false, rfl, fun e => (by cases e), rfl⟩
        · go_round
          case rel =>
            refine ⟨k + 1, by omega, by go_num, fun j hj => ?_⟩
            by_cases e : j = k
            · rw [e, ← ES.out]; omega
            · exact HS.out j (by omega)
          case measure => simp [intOf]; omega
      · have hk' : Hid (k = l.length) := by show k = _; omega
        clear hc
        go_wp2
        go_ret
        exact ⟨true, rfl, fun _ i hi => HS.out i (by have := hk'.out; omega), rfl⟩

theorem strs_open {H : Type} {enc : TypeId × Value → H} {W : World} {a : Option Addr} {len cap : Nat} {d : DataW H} {p : List MemPlace}
    (h : DataW.Trod enc Tryz.prog W 0 (fun _ => true) true 22 (.slice a len cap) d p) :
    ∃ l : List ByteArray, len = l.length ∧ Strs W (.slice a l.length cap) l ∧ (a = none → cap = 0) ∧ l.length ≤ cap ∧ cap ≤ 9223372036854775807 ∧ ∀ s ∈ l, s.size ≤ 9223372036854775807 := by
  obtain ⟨fuel, hf⟩ := h
  rcases open_strings Tryz.underlying22 Tryz.underlying9 (by kernel_rfl) hf with ⟨hcs, _⟩ | ⟨x, len', cap', ss, hcs, _, hl, hm, hz, _, hcell, hws⟩
  · simp [Value.cells] at hcs
    obtain ⟨rfl, rfl, rfl⟩ := hcs
    exact ⟨[], rfl, ⟨none, 0, rfl, by simp, fun i hi => by simp at hi⟩, fun _ => rfl, by simp, by omega, by simp⟩
  · simp [Value.cells] at hcs
    obtain ⟨rfl, rfl, rfl⟩ := hcs
    unfold maxLen at hm hws
    have hz' : ss.length = cap := by simpa using hz
    have hlen : (ss.take len).length = len := by simp; omega
    refine ⟨ss.take len, hlen.symm, ⟨some x, cap, rfl, by omega, ?_⟩, (by simp), by omega, by omega, fun s hs => hws s (List.mem_of_mem_take hs)⟩
    intro i hi
    have h0 := hcell 0 (by omega)
    have hsp : x.spot = none := by simpa [Addr.add] using World.cell?_spot h0
    obtain ⟨b, o, sp⟩ := x
    simp only at hsp
    subst hsp
    refine ⟨b, o, rfl, ?_⟩
    have hc := hcell i (by omega)
    have e : (⟨b, o, none⟩ : Addr).add i = ⟨b, o + i, none⟩ := by unfold Addr.add; split <;> simp_all
    rw [e] at hc
    rw [hc]
    have : i < len := by omega
    simp [List.getD_eq_getElem?_getD, this]
end Go.Proofs.YtkofdhhkhcdeoaaGreat
