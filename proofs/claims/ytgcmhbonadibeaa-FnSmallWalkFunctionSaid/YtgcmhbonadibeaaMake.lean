/- What impl.name, impl.scopes and impl.WalkScopes make: the chain of blocks of a name in scopes, and the texts that Traverse comes to; conditions: the list reads as strings, and is at most 1000 long. -/
import Derived.Test.YtgcmhbonadibeaaScopes
namespace Go.Proofs.Ytgcmhbonadibeaa
open Go.ChangeShapes Go.WideShapes Go.ChangeAt Go.RowKit

theorem name_any (s : ByteArray) (w : World) :
    Calls Try.prog 12 #[.string s] w fun e w' => e = .returned (.iface 34 (.pointer (some ⟨w.heap.size, 0, none⟩))) ∧ w.alloc (.cells #[.string s] 37) = w' := by
  go_enter Try.func12, Try.ntmps12
  go_wp2
  go_ret
  exact ⟨rfl, rfl⟩

theorem Sc.raise {w : World} {B B' : Nat} {S : List Nat} {f : ByteArray} (hB : B ≤ B') : ∀ {l : List ByteArray} {v : Value}, Sc w B S v f l → Sc w B' S v f l
  | [], _, h => by
    obtain ⟨b, rfl, h1, h2, h3⟩ := h.of_nil
    exact .single b f h1 (by omega) h3
  | s :: l, _, h => by
    obtain ⟨b, c, u, rfl, h0, h1, h2, h3, h4, h5, h6, h7⟩ := h.of_cons
    exact .longer b c s f l u (Sc.raise hB h0) h1 h2 h3 (by omega) h5 (by omega) h7

theorem Ex.ofBelow {B : Nat} {S : List Nat} {w w' : World} (h : Below B w w') : Ex B S w w' := ⟨h.os, h.tape, h.output, h.size, fun k hk _ => h.block k hk⟩

theorem sc_step {w : World} {x y : Nat} {a : Value} {f s : ByteArray} {l : List ByteArray} (h : Sc w w.heap.size [x, y] a f l) (hx : x < w.heap.size) (hy : y < w.heap.size) :
    Sc ((w.alloc (.cells #[.string s] 37)).alloc (.cells #[a, .iface 34 (.pointer (some ⟨w.heap.size, 0, none⟩)), .bool false] 49)) (w.heap.size + 1 + 1) [x, y]
      (.iface 47 (.pointer (some ⟨w.heap.size + 1, 0, none⟩))) f (s :: l) := by
  have hb : Below w.heap.size w ((w.alloc (.cells #[.string s] 37)).alloc (.cells #[a, .iface 34 (.pointer (some ⟨w.heap.size, 0, none⟩)), .bool false] 49)) :=
    ((Below.refl _ _).alloc (Nat.le_refl _) _).alloc (by simp) _
  refine .longer _ w.heap.size s f l a (Sc.raise (by omega) (Sc.keep (Ex.ofBelow hb) h)) ?_ ?_ ?_ (by omega) (by simp; omega) (by omega) (by simp; omega)
  · exact (World.cell?_alloc_at (w := w.alloc _) _ _ _ _ (by simp)).trans (by simp)
  · exact (World.cell?_alloc_at (w := w.alloc _) _ _ _ _ (by simp)).trans (by simp)
  · exact (World.cell?_alloc_past (w := w.alloc _) _ _ _ (by simp)).trans ((World.cell?_alloc_at (w := w) _ _ _ _ rfl).trans (by simp))

/-- The strings lie below a block number. -/
theorem Strs.cellIn {w w' : World} {l : List ByteArray} {a : Option Addr} (hc : ∀ i, i < l.length → ∃ b o, a = some ⟨b, o, none⟩ ∧ w.cell? ⟨b, o + i, none⟩ = some (.string (l.getD i ByteArray.empty)))
    (hb : Below w.heap.size w w') (k : Nat) (hk : k < l.length) : ∃ b o, a = some ⟨b, o, none⟩ ∧ w'.cell? ⟨b, o + k, none⟩ = some (.string (l.getD k ByteArray.empty)) := by
  obtain ⟨b, o, e, h⟩ := hc k hk
  exact ⟨b, o, e, (hb.cell (p := ⟨b, o + k, none⟩) (World.block_lt_of_cell? w _ h)).trans h⟩

theorem take_rev {l : List ByteArray} {k : Nat} (h : k < l.length) : (l.take (k + 1)).reverse = l.getD k ByteArray.empty :: (l.take k).reverse := by
  rw [List.take_succ_eq_append_getElem h, List.reverse_append]
  simp [List.getD_eq_getElem?_getD, List.getElem?_eq_getElem h]

theorem Sc.form {w : World} {B : Nat} {S : List Nat} {v : Value} {f : ByteArray} {l : List ByteArray} (h : Sc w B S v f l) : ∃ t b, v = .iface t (.pointer (some ⟨b, 0, none⟩)) := by
  cases l with
  | nil =>
    obtain ⟨b, rfl, _⟩ := h.of_nil
    exact ⟨34, b, rfl⟩
  | cons s l =>
    obtain ⟨b, c, u, rfl, _⟩ := h.of_cons
    exact ⟨47, b, rfl⟩

set_option maxHeartbeats 1000000 in
theorem scopes_any (f : ByteArray) (v : Value) (l : List ByteArray) (w : World) (x y : Nat) (h : Strs w v l) (hx : x < w.heap.size) (hy : y < w.heap.size) :
    Calls Try.prog 10 #[.string f, v] w fun e w' => ∃ a, e = .returned a ∧ Sc w' w'.heap.size [x, y] a f l.reverse ∧ Below w.heap.size w w' := by
  obtain ⟨ad, c, rfl, hl, hc⟩ := h
  go_enter Try.func10, Try.ntmps10
  go_wp2_with (go_at_call 12; refine (name_any _ _).mono ?_; rintro e w' ⟨rfl, rfl⟩)
  go_loopw [5, 12] (fun a i wr => ∃ k : Nat, k ≤ l.length ∧ i = .int .i64 k ∧ Sc wr wr.heap.size [x, y] a f (l.take k).reverse ∧ Below w.heap.size w wr) (fun _ i _ => l.length - (intOf i).toNat)
  case atStart =>
    refine ⟨0, Nat.zero_le _, rfl, ?_, (Below.refl _ _).alloc (Nat.le_refl _) _⟩
    exact .single _ _ ((World.cell?_alloc_at (w := w) _ _ _ _ rfl).trans (by simp)) (by simp) (by simp; omega)
  case round =>
    obtain ⟨k, hk, rfl, hsc, hbel⟩ := hrel
    by_cases hlt : k < l.length
    · obtain ⟨b, o, rfl, hcell⟩ := Strs.cellIn hc hbel k hlt
      have hsz := hbel.size
      clear hc
      obtain ⟨t, ab, rfl⟩ := hsc.form
      have H1 := Lib.hid hbel
      have H2 := Lib.hid hsc
      clear hbel hsc
      obtain ⟨s, hs⟩ : ∃ s, s = l.getD k ByteArray.empty := ⟨_, rfl⟩
      rw [← hs] at hcell
      have HS := Lib.hid hs
      clear hs
      go_wp2_with (go_at_call 12; refine (name_any _ _).mono ?_; rintro e w' ⟨rfl, rfl⟩)
      go_roundw
      case rel =>
        refine ⟨k + 1, by omega, by go_num, ?_, ((H1.out.alloc hsz _).alloc (by simp; omega) _)⟩
        rw [take_rev hlt, ← HS.out]
        have := sc_step (s := s) H2.out (by omega) (by omega)
        simpa using this
      case measure => simp [intOf]; omega
    · have hk' : (l.take k).reverse = l.reverse := by rw [List.take_of_length_le (by omega)]
      rw [hk'] at hsc
      have H1 := Lib.hid hbel
      have H2 := Lib.hid hsc
      clear hbel hsc hk'
      go_wp2
      go_ret
      exact ⟨_, rfl, H2.out, H1.out⟩
end Go.Proofs.Ytgcmhbonadibeaa
