/- impl.words: the qualifiers that it makes, as they lie in memory; conditions: the list reads as strings and holds a million at most. -/
import Derived.Test.YtabnnnnheipldaaGreatInner
import Derived.Test.YtabnnnnheipldaaGreatQual
namespace Go.Proofs.YtabnnnnheipldaaGreat
open Go.ChangeShapes Go.WideShapes Go.ChangeAt Go.RowKit

/-- A slice of Qualifiers of the call's own, with the blocks of its elements. -/
def QR (w : World) (N : Nat) (v : Value) (cs : List Nat) (l : List ByteArray) : Prop :=
  cs.length = l.length ∧ w.ownsRow N 33 1 v cs.length (cs.map fun c => .iface 73 (.pointer (some ⟨c, 0, none⟩))) ∧
    ∀ i c, cs[i]? = some c → (w.heap[c]? = some (.cells #[.string (l.getD i ByteArray.empty), .slice none 0 0] 75 (0, 0)) ∧ N ≤ c ∧ c < w.heap.size) ∧ v.ownBlock ≠ some c

theorem QR.nil (w : World) (N : Nat) : QR w N (.slice none 0 0) [] [] := ⟨rfl, World.ownsRow_nil _ _ _ _, fun i c h => by simp at h⟩

theorem QR.set {w : World} {N : Nat} {v : Value} {cs : List Nat} {l : List ByteArray} (h : QR w N v cs l) {b : Nat} (hb : b < N) (u : Value) : QR (w.setCell ⟨b, 0, none⟩ u) N v cs l := by
  obtain ⟨h1, h2, h3⟩ := h
  refine ⟨h1, ownsRow_setCell_below h2 hb u, fun i c hc => ?_⟩
  obtain ⟨⟨a1, a2, a3⟩, a4⟩ := h3 i c hc
  exact ⟨⟨by rw [Below.heap_setCell _ _ _ _ (by exact (by omega : c ≠ b))]; exact a1, a2, by simpa [World.setCell] using a3⟩, a4⟩

theorem qr_step {w w1 : World} {N gg cap : Nat} {v : Value} {cs : List Nat} {l : List ByteArray} {s : ByteArray} (h : QR w N v cs l) (hN : N ≤ w.heap.size)
    (hown1 : w1.ownsRow N 33 1 (.slice (some ⟨gg, 0, none⟩) (cs.length + 1) cap) (cs.length + 1) ((cs.map fun c => Value.iface 73 (.pointer (some ⟨c, 0, none⟩))) ++ [.iface 73 (.pointer (some ⟨w.heap.size, 0, none⟩))]))
    (hgrow : ((w.alloc (.cells #[.string s, .slice none 0 0] 75)).alloc (.cells #[.iface 73 (.pointer (some ⟨w.heap.size, 0, none⟩))] 33)).grownBy w1 v.ownBlock)
    (hat : v.ownBlock = some gg ∨ gg = w.heap.size + 1 + 1) :
    QR w1 N (.slice (some ⟨gg, 0, none⟩) (cs.length + 1) cap) (cs ++ [w.heap.size]) (l ++ [s]) := by
  obtain ⟨hlen, hown, hel⟩ := h
  have hsz : w.heap.size + 1 + 1 ≤ w1.heap.size := by simpa using hgrow.size
  refine ⟨by simp [hlen], by simpa using hown1, ?_⟩
  intro i c hi
  have old : ∀ k, k < w.heap.size → v.ownBlock ≠ some k → w1.heap[k]? = w.heap[k]? := fun k hk hne => by
    rw [hgrow.block k (by simp; omega) (fun e => hne e.symm), Below.heap_alloc _ _ _ (by simp; omega), Below.heap_alloc _ _ _ hk]
  have hvn : v.ownBlock ≠ some w.heap.size := fun e => by have := (hown.lt _ e).2; omega
  by_cases hc : i < cs.length
  · rw [List.getElem?_append_left hc] at hi
    obtain ⟨⟨h1, h2, h3⟩, h4⟩ := hel i c hi
    refine ⟨⟨?_, h2, by omega⟩, ?_⟩
    · rw [old c h3 h4, h1]
      have e : (l ++ [s]).getD i ByteArray.empty = l.getD i ByteArray.empty := by
        rw [List.getD_eq_getElem?_getD, List.getD_eq_getElem?_getD, List.getElem?_append_left (by omega)]
      rw [e]
    · intro e
      obtain rfl : gg = c := by simpa [Value.ownBlock] using e
      rcases hat with hat | hat
      · exact h4 hat
      · omega
  · have hi' : i = cs.length ∧ c = w.heap.size := by
      rw [List.getElem?_append_right (by omega)] at hi
      have := (List.getElem?_eq_some_iff.1 hi)
      obtain ⟨h1, h2⟩ := this
      have h0 : i - cs.length = 0 := by simp at h1; omega
      simp [h0] at h2
      exact ⟨by omega, h2.symm⟩
    obtain ⟨rfl, rfl⟩ := hi'
    refine ⟨⟨?_, hN, by omega⟩, ?_⟩
    · rw [hgrow.block _ (by simp; omega) (fun e => hvn e.symm), Below.heap_alloc _ _ _ (by simp), heap_alloc_new w _]
      simp [hlen]
    · intro e
      have e' : gg = w.heap.size := by simpa [Value.ownBlock] using e
      rcases hat with hat | hat
      · rw [e'] at hat; exact hvn hat
      · omega

/-- The block of the qualifiers, and what it owns. -/
def WordsAt (w : World) (b : Nat) (l : List ByteArray) : Prop := ∃ v cs, w.heap[b]? = some (.cells #[v] 72 (0, 0)) ∧ QR w (b + 1) v cs l ∧ b < w.heap.size

set_option maxRecDepth 100000 in
set_option maxHeartbeats 2000000 in
theorem wordsC (v : Value) (l : List ByteArray) (w : World) (h : Strs w v l) (hm : l.length ≤ 1000000) :
    Calls Tryz.prog 16 #[v] w fun e w' => e = .returned (.iface 70 (.pointer (some ⟨w.heap.size, 0, none⟩))) ∧ WordsAt w' w.heap.size l ∧ Below w.heap.size w w' := by
  obtain ⟨ad, c, rfl, hl, hc⟩ := h
  obtain ⟨i0, hi0, hz0, hz1, hz2⟩ := info_parts infoA
  go_enter Tryz.func16, Tryz.ntmps16
  go_wp2_with fail
  go_loopw [10] (fun i wr => ∃ (k : Nat) (a : Value) (cs : List Nat), k ≤ l.length ∧ cs.length = k ∧ i = .int .i64 k ∧ wr.heap[w.heap.size]? = some (.cells #[a] 72 (0, 0)) ∧ QR wr (w.heap.size + 1) a cs (l.take k) ∧ Below w.heap.size w wr) (fun i _ => l.length - (intOf i).toNat)
  case atStart => exact ⟨0, .slice none 0 0, [], Nat.zero_le _, rfl, rfl, heap_alloc_new w _, by simpa using QR.nil _ _, (Below.refl _ _).alloc (Nat.le_refl _) _⟩
  case round =>
    obtain ⟨k, a, cs, hk, hcs, rfl, hbl, hn, hbel⟩ := hrel
    by_cases hlt : k < l.length
    · obtain ⟨b, o, rfl, hcell⟩ := Strs.at' hc hbel k hlt
      have hsz : w.heap.size < wr.heap.size := (Array.getElem?_eq_some_iff.1 hbl).1
      clear hc
      have hown := hn.2.1
      obtain ⟨va, vc, rfl⟩ := own_form hown
      have cq := cell_of_one hbl
      have fq := free_of_one hbl
      have H1 := Lib.hid hbel
      have H2 := Lib.hid hn
      have H3 := Lib.hid hcs
      have H4 := Lib.hid hown
      have H5 := Lib.hid hbl
      have hcl : cs.length ≤ 1000000 := by omega
      clear hbel hn hcs hown hbl
      obtain ⟨s, hs⟩ : ∃ s, s = l.getD k ByteArray.empty := ⟨_, rfl⟩
      rw [← hs] at hcell
      have HS := Lib.hid hs
      clear hs
      have hrow : (Value.slice va cs.length vc).ownBlock ≠ some w.heap.size := own_low H4.out (by omega)
      go_wp2_with (first | (at_builtin; refine wpList_append_lies _ rfl (.tmp 18) (.tmp 23) 51 rfl (w.heap.size + 1) 33 i0 _ 1 16 Tryz.underlying51 hi0 hz0 hz1 hz2 rfl (by decide) _ _ _ rfl ((H4.out.alloc _).alloc _) ⟨wr.heap.size + 1, 0, none⟩ 1 1 [.iface 73 (.pointer (some ⟨wr.heap.size, 0, none⟩))] rfl rfl (World.news_of_block (cs := #[.iface 73 (.pointer (some ⟨wr.heap.size, 0, none⟩))]) (t := 33) (fr := (0, 0)) (by have hh := heap_alloc_new (wr.alloc (.cells #[.string s, .slice none 0 0] 75)) (.cells #[.iface 73 (.pointer (some ⟨wr.heap.size, 0, none⟩))] 33); simpa using hh)) (by simp [Value.oneCell']) (by omega) (by unfold maxLen; omega) (by omega) (by simp; omega) (wr.heap.size + 1 + 1) (by simp) ?_; intro gg cap w1 hown1 hgrow hat hlt'; have d1 := (hgrow.cell_far ⟨w.heap.size, 0, none⟩ (by simp; omega) (Ne.symm hrow)); have d2 := (hgrow.frozen_far ⟨w.heap.size, 0, none⟩ (by simp; omega) (Ne.symm hrow)); have d3 := (hgrow.block w.heap.size (by simp; omega) (Ne.symm hrow)); rw [Below.heap_alloc _ _ _ (by simp; omega), Below.heap_alloc _ _ _ hsz, H5.out] at d3; have d4 := cell_of_one d3; have d5 := free_of_one d3; have D3 := Lib.hid d3; have G1 := Lib.hid hown1; have G2 := Lib.hid hgrow; have G3 := Lib.hid hat; clear hown1 hgrow hat hlt' d1 d2 d3))
      go_roundw
      case rel =>
        refine ⟨k + 1, _, cs ++ [wr.heap.size], by omega, by simp [H3.out], by go_num, one_setCell D3.out, ?_, ?_⟩
        · rw [take_snoc' hlt, ← HS.out]
          exact (qr_step H2.out (by omega) G1.out G2.out G3.out).set (by omega) _
        · exact ((((H1.out.alloc (by omega) _).alloc (by simp; omega) _)).grown G2.out (by simp; omega) (fun q hq => by have := (H4.out.lt q hq).1; omega)).setCell (p := ⟨w.heap.size, 0, none⟩) (Nat.le_refl _) _
      case measure => simp [intOf]; omega
    · have hk' : l.take k = l := List.take_of_length_le (by omega)
      rw [hk'] at hn
      have hsz : w.heap.size < wr.heap.size := (Array.getElem?_eq_some_iff.1 hbl).1
      have H1 := Lib.hid hbel
      have H2 := Lib.hid hn
      have H5 := Lib.hid hbl
      clear hbel hn hk' hcs hbl
      go_wp2_with fail
      go_ret
      exact ⟨rfl, ⟨a, cs, H5.out, H2.out, hsz⟩, H1.out⟩
end Go.Proofs.YtabnnnnheipldaaGreat
