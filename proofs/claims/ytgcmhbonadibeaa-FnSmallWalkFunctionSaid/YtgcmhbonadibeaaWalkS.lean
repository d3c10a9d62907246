/- impl.WalkScopes: the texts that Traverse comes to, for every name in scopes; conditions: the list reads as strings and is at most 1000 long, and the number is at most a million. -/
import Derived.Test.YtgcmhbonadibeaaMake
namespace Go.Proofs.Ytgcmhbonadibeaa
open Go.ChangeShapes Go.WideShapes Go.ChangeAt Go.RowKit
attribute [local go_sem] nil_q nil_n met_q met_n

theorem strs_of_own {w : World} {B : Nat} {v : Value} {xs : List ByteArray} (h : w.ownsRow B 9 1 v xs.length (xs.map Value.string)) (hl : xs.length ≤ 9223372036854775807) : Strs w v xs := by
  rcases h.2 with ⟨rfl, h0⟩ | ⟨g, cap, cur, rfl, _, hg, _, _, _, ht⟩
  · exact ⟨none, 0, by rw [h0], hl, fun i hi => by omega⟩
  · refine ⟨some ⟨g, 0, none⟩, cap, rfl, hl, fun i hi => ⟨g, 0, rfl, ?_⟩⟩
    rw [Nat.zero_add, cell_of_row w g i cur 9 (0, 0) hg]
    have : cur.toList[i]? = some (Value.string (xs.getD i ByteArray.empty)) := by
      have h2 : (cur.toList.take (xs.length * 1))[i]? = (xs.map Value.string)[i]? := by rw [ht]
      rw [List.getElem?_take_of_lt (by omega)] at h2
      rw [h2]
      simp [List.getD_eq_getElem?_getD, List.getElem?_eq_getElem hi]
    simpa using this

theorem Strs.below {w w' : World} {v : Value} {l : List ByteArray} (h : Strs w v l) (hb : Below w.heap.size w w') : Strs w' v l := by
  obtain ⟨a, c, rfl, hl, hc⟩ := h
  exact ⟨a, c, rfl, hl, fun i hi => Strs.cellIn hc hb i hi⟩

theorem st_start {w w3 : World} {k : Nat} (hb : Below (w.heap.size + 1 + 1) ((w.alloc (.cells #[.int .i64 k] 3)).alloc (.cells #[.slice none 0 0] 22)) w3) :
    St w3 w3.heap.size (w.heap.size + 1) w.heap.size [] k := by
  have hsz : w.heap.size + 1 + 1 ≤ w3.heap.size := by simpa using hb.size
  refine ⟨⟨.slice none 0 0, ?_, World.ownsRow_nil _ _ _ _, by omega, Nat.le_refl _⟩, ?_, by omega, by omega⟩
  · rw [hb.block _ (by omega)]
    have h1 := heap_alloc_new (w.alloc (.cells #[.int .i64 k] 3)) (.cells #[.slice none 0 0] 22)
    simpa using h1
  · rw [hb.block _ (by omega), Below.heap_alloc _ _ _ (by simp)]
    exact heap_alloc_new w _

theorem two_below (w : World) (o o' : Obj) : Below w.heap.size w ((w.alloc o).alloc o') := ((Below.refl _ _).alloc (Nat.le_refl _) _).alloc (by simp) _

def Walked (f : ByteArray) (l : List ByteArray) (k : Nat) (w : World) (e : Ending) (w' : World) : Prop :=
  ∃ v, e = .returned v ∧ Strs w' v (trav f l.reverse k).1 ∧ Below w.heap.size w w'

theorem walked_of {w w3 w4 : World} {f : ByteArray} {l : List ByteArray} {k : Nat} {B : Nat} {q : Int} (hlen : l.length ≤ 1000)
    (hst : St w4 B (w.heap.size + 1) w.heap.size (trav f l.reverse k).1 q) (hb : Below w.heap.size w w3) (hx : Ex B [w.heap.size + 1, w.heap.size] w3 w4) (hB : w.heap.size ≤ B) :
    ∃ v, w4.cell? ⟨w.heap.size + 1, 0, none⟩ = some v ∧ Strs w4 v (trav f l.reverse k).1 ∧ Below w.heap.size w w4 := by
  obtain ⟨⟨v, hv, hown, _, _⟩, _, _, _⟩ := hst
  have hl := trav_len f l.reverse k
  exact ⟨v, cell_of_one hv, strs_of_own hown (by simp at hl; omega), hb.trans (hx.below hB (by simp))⟩

set_option maxHeartbeats 1000000 in
theorem walk_any (f : ByteArray) (v : Value) (l : List ByteArray) (k : Nat) (w : World) (h : Strs w v l) (hlen : l.length ≤ 1000) (hk : k ≤ 1000000) :
    Calls Try.prog 8 #[.string f, v, .int .i64 k] w (Walked f l k w) := by
  have hlen' := Lib.hid hlen
  go_enter Try.func8, Try.ntmps8
  go_wp2_with fail
  refine (scopes_any f v l _ (w.heap.size + 1) w.heap.size (h.below (two_below w _ _)) (by simp) (by simp; omega)).mono ?_
  rintro e w3 ⟨a, rfl, hsc, hbel⟩
  have hbel' : Below (w.heap.size + 1 + 1) ((w.alloc (.cells #[.int .i64 k] 3)).alloc (.cells #[.slice none 0 0] 22)) w3 := by simpa using hbel
  have hbw : Below w.heap.size w w3 := (two_below w _ _).trans (hbel'.mono (by omega))
  have hst := st_start hbel'
  have hsz := hbw.size
  have H1 := Lib.hid hbw
  clear hbel hbel' hbw h
  obtain ⟨r, hr⟩ : ∃ r, r = l.reverse := ⟨_, rfl⟩
  have HR := Lib.hid hr
  rw [← hr] at hsc
  have hrl : r.length ≤ 1000 := by rw [hr]; simpa using hlen
  clear hr hlen
  cases r with
  | nil =>
    obtain ⟨b, rfl, hb1, hb2, hb3⟩ := hsc.of_nil
    go_wp2_with fail
    refine (name_trav w3 w3.heap.size (w.heap.size + 1) w.heap.size b f [] k hst hb1 hb2 (by simp)).mono ?_
    rintro e w4 ⟨rfl, hst4, hx⟩
    have ht : trav f l.reverse k = ([f], (k : Int)) := by rw [← HR.out]; rfl
    have ht1 : (trav f l.reverse k).1 = [] ++ [f] := by rw [ht]; rfl
    rw [← ht1] at hst4
    obtain ⟨v', hv', hs', hb'⟩ := walked_of hlen'.out hst4 H1.out hx hsz
    clear ht ht1 hx hst4
    go_wp2_with fail
    go_ret
    exact ⟨v', rfl, hs', hb'⟩
  | cons s r' =>
    obtain ⟨b, _, _, rfl, _⟩ := hsc.of_cons
    have hsc' := Lib.hid hsc
    clear hsc
    go_wp2_with fail
    refine (qual_trav r' s f w3 w3.heap.size (w.heap.size + 1) w.heap.size b [] k hst hsc'.out (by simp at hrl ⊢; omega) (by simp at hrl; omega) (by omega)).mono ?_
    rintro e w4 ⟨rfl, hst4, hx⟩
    rw [HR.out, List.nil_append] at hst4
    obtain ⟨v', hv', hs', hb'⟩ := walked_of hlen'.out hst4 H1.out hx hsz
    clear hx hst4
    go_wp2_with fail
    go_ret
    exact ⟨v', rfl, hs', hb'⟩
end Go.Proofs.Ytgcmhbonadibeaa
