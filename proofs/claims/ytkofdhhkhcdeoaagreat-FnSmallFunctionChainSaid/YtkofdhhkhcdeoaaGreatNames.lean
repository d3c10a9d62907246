/- impl.name, impl.builtin and impl.names: the blocks that they make; conditions: the list reads as strings and holds a million at most. -/
import Derived.Test.YtkofdhhkhcdeoaaGreatBase
import Derived.OneCell
import Derived.WalkSpells
import Derived.Deep.AppendLies
namespace Go.Proofs.YtkofdhhkhcdeoaaGreat
open Go.ChangeShapes Go.WideShapes Go.ChangeAt Go.RowKit

theorem nameC (s : ByteArray) (w : World) :
    Calls Tryz.prog 15 #[.string s] w fun e w' => e = .returned (.iface 60 (.pointer (some ⟨w.heap.size, 0, none⟩))) ∧ w.alloc (.cells #[.string s] 61) = w' := by
  go_enter Tryz.func15, Tryz.ntmps15
  go_wp2
  go_ret
  exact ⟨rfl, rfl⟩

theorem builtinC (s : ByteArray) (w : World) :
    Calls Tryz.prog 8 #[.string s] w fun e w' => e = .returned (.iface 38 (.pointer (some ⟨w.heap.size, 0, none⟩))) ∧ w.alloc (.cells #[.string s] 40) = w' := by
  go_enter Tryz.func8, Tryz.ntmps8
  go_wp2
  go_ret
  exact ⟨rfl, rfl⟩

theorem Strs.at' {w w' : World} {l : List ByteArray} {a : Option Addr} (hc : ∀ i, i < l.length → ∃ b o, a = some ⟨b, o, none⟩ ∧ w.cell? ⟨b, o + i, none⟩ = some (.string (l.getD i ByteArray.empty)))
    (hb : Below w.heap.size w w') (k : Nat) (hk : k < l.length) : ∃ b o, a = some ⟨b, o, none⟩ ∧ w'.cell? ⟨b, o + k, none⟩ = some (.string (l.getD k ByteArray.empty)) := by
  obtain ⟨b, o, e, h⟩ := hc k hk
  exact ⟨b, o, e, (hb.cell (p := ⟨b, o + k, none⟩) (World.block_lt_of_cell? w _ h)).trans h⟩

theorem Strs.below' {w w' : World} {v : Value} {l : List ByteArray} (h : Strs w v l) (hb : Below w.heap.size w w') : Strs w' v l := by
  obtain ⟨a, c, rfl, hl, hc⟩ := h
  exact ⟨a, c, rfl, hl, fun i hi => Strs.at' hc hb i hi⟩

/-- An element: a Name with a text, in a block from N on. -/
def NameIn (w : World) (N : Nat) (c : Nat) (s : ByteArray) : Prop := w.heap[c]? = some (.cells #[.string s] 61 (0, 0)) ∧ N ≤ c ∧ c < w.heap.size

/-- A slice of Names of the call's own, with the blocks of its elements. -/
def NamesR (w : World) (N : Nat) (v : Value) (cs : List Nat) (l : List ByteArray) : Prop :=
  cs.length = l.length ∧ w.ownsRow N 30 1 v cs.length (cs.map fun c => .iface 60 (.pointer (some ⟨c, 0, none⟩))) ∧
    ∀ i c, cs[i]? = some c → NameIn w N c (l.getD i ByteArray.empty) ∧ v.ownBlock ≠ some c

theorem Tryz.infoAST : (Tryz.prog.info? 30).map (fun i => (i.zero, i.size, i.bytes)) = some (some .nilIface, 1, 16) := by kernel_rfl

theorem NamesR.nil (w : World) (N : Nat) : NamesR w N (.slice none 0 0) [] [] := ⟨rfl, World.ownsRow_nil _ _ _ _, fun i c h => by simp at h⟩

theorem own_form {w : World} {N e size n : Nat} {v : Value} {xs : List Value} (h : w.ownsRow N e size v n xs) : ∃ a c, v = .slice a n c := by
  rcases h.2 with ⟨rfl, rfl⟩ | ⟨g, cap, cur, rfl, _⟩
  · exact ⟨none, 0, rfl⟩
  · exact ⟨_, _, rfl⟩
theorem NamesR.form {w : World} {N : Nat} {v : Value} {cs : List Nat} {l : List ByteArray} (h : NamesR w N v cs l) : ∃ a c, v = .slice a l.length c := by
  rw [← h.1]
  exact own_form h.2.1

theorem names_step {w w1 : World} {N gg cap : Nat} {v : Value} {cs : List Nat} {l : List ByteArray} {s : ByteArray} (h : NamesR w N v cs l) (hN : N ≤ w.heap.size)
    (hown1 : w1.ownsRow N 30 1 (.slice (some ⟨gg, 0, none⟩) (cs.length + 1) cap) (cs.length + 1) ((cs.map fun c => Value.iface 60 (.pointer (some ⟨c, 0, none⟩))) ++ [.iface 60 (.pointer (some ⟨w.heap.size, 0, none⟩))]))
    (hgrow : ((w.alloc (.cells #[.string s] 61)).alloc (.cells #[.iface 60 (.pointer (some ⟨w.heap.size, 0, none⟩))] 30)).grownBy w1 v.ownBlock)
    (hat : v.ownBlock = some gg ∨ gg = w.heap.size + 1 + 1) :
    NamesR w1 N (.slice (some ⟨gg, 0, none⟩) (cs.length + 1) cap) (cs ++ [w.heap.size]) (l ++ [s]) := by
  obtain ⟨hlen, hown, hel⟩ := h
  have hsz : w.heap.size + 1 + 1 ≤ w1.heap.size := by simpa using hgrow.size
  refine ⟨by simp [hlen], by simpa using hown1, ?_⟩
  intro i c hi
  have old : ∀ k, k < w.heap.size → v.ownBlock ≠ some k → w1.heap[k]? = w.heap[k]? := fun k hk hne => by
    rw [hgrow.block k (by simp; omega) (fun e => hne e.symm), Below.heap_alloc _ _ _ (by simp; omega), Below.heap_alloc _ _ _ hk]
  have hvn : v.ownBlock ≠ some w.heap.size := fun e => by have := (hown.lt _ e).2; omega
  by_cases hc : i < cs.length
  · rw [List.getElem?_append_left hc] at hi
    obtain ⟨⟨h1, h2, h3⟩, h4⟩ := hel i c hi
    refine ⟨⟨?_, h2, by omega⟩, ?_⟩
    · rw [old c h3 h4, h1]
      have e : (l ++ [s]).getD i ByteArray.empty = l.getD i ByteArray.empty := by
        rw [List.getD_eq_getElem?_getD, List.getD_eq_getElem?_getD, List.getElem?_append_left (by omega)]
      rw [e]
    · intro e
      obtain rfl : gg = c := by simpa [Value.ownBlock] using e
      rcases hat with hat | hat
      · exact h4 hat
      · omega
  · have hi' : i = cs.length ∧ c = w.heap.size := by
      rw [List.getElem?_append_right (by omega)] at hi
      have := (List.getElem?_eq_some_iff.1 hi)
      obtain ⟨h1, h2⟩ := this
      have h0 : i - cs.length = 0 := by simp at h1; omega
      simp [h0] at h2
      exact ⟨by omega, h2.symm⟩
    obtain ⟨rfl, rfl⟩ := hi'
    refine ⟨⟨?_, hN, by omega⟩, ?_⟩
    · rw [hgrow.block _ (by simp; omega) (fun e => hvn e.symm), Below.heap_alloc _ _ _ (by simp), heap_alloc_new w _]
      simp [hlen]
    · intro e
      have e' : gg = w.heap.size := by simpa [Value.ownBlock] using e
      rcases hat with hat | hat
      · rw [e'] at hat; exact hvn hat
      · omega

set_option maxRecDepth 100000 in
set_option maxHeartbeats 1000000 in
theorem namesC (v : Value) (l : List ByteArray) (w : World) (h : Strs w v l) (hm : l.length ≤ 1000000) :
    Calls Tryz.prog 11 #[v] w fun e w' => ∃ v' cs, e = .returned v' ∧ NamesR w' w.heap.size v' cs l ∧ Below w.heap.size w w' := by
  obtain ⟨ad, c, rfl, hl, hc⟩ := h
  obtain ⟨i0, hi0, hz0, hz1, hz2⟩ := info_parts Tryz.infoAST
  go_enter Tryz.func11, Tryz.ntmps11
  go_wp2_with fail
  go_loopw [3, 8] (fun a i wr => ∃ (k : Nat) (cs : List Nat), k ≤ l.length ∧ cs.length = k ∧ i = .int .i64 k ∧ NamesR wr w.heap.size a cs (l.take k) ∧ Below w.heap.size w wr) (fun _ i _ => l.length - (intOf i).toNat)
  case atStart => exact ⟨0, [], Nat.zero_le _, rfl, rfl, by simpa using NamesR.nil w w.heap.size, Below.refl _ _⟩
  case round =>
    obtain ⟨k, cs, hk, hcs, rfl, hn, hbel⟩ := hrel
    by_cases hlt : k < l.length
    · obtain ⟨b, o, rfl, hcell⟩ := Strs.at' hc hbel k hlt
      have hsz := hbel.size
      clear hc
      have hown := hn.2.1
      have H1 := Lib.hid hbel
      have H2 := Lib.hid hn
      have H3 := Lib.hid hcs
      have H4 := Lib.hid hown
      have hcl : cs.length ≤ 1000000 := by omega
      clear hbel hn hcs hown
      obtain ⟨s, hs⟩ : ∃ s, s = l.getD k ByteArray.empty := ⟨_, rfl⟩
      rw [← hs] at hcell
      have HS := Lib.hid hs
      clear hs
      go_wp2_with (first | (go_at_call 15; refine (nameC _ _).mono ?_; rintro e w' ⟨rfl, rfl⟩) | (at_builtin; refine wpList_append_lies _ rfl (.tmp 12) (.tmp 15) 41 rfl w.heap.size 30 i0 _ 1 16 Tryz.underlying41 hi0 hz0 hz1 hz2 rfl (by decide) _ _ _ rfl ((H4.out.alloc _).alloc _) ⟨wr.heap.size + 1, 0, none⟩ 1 1 [.iface 60 (.pointer (some ⟨wr.heap.size, 0, none⟩))] rfl rfl (World.news_of_block (cs := #[.iface 60 (.pointer (some ⟨wr.heap.size, 0, none⟩))]) (t := 30) (fr := (0, 0)) (by have hh := heap_alloc_new (wr.alloc (.cells #[.string s] 61)) (.cells #[.iface 60 (.pointer (some ⟨wr.heap.size, 0, none⟩))] 30); simpa using hh)) (by simp [Value.oneCell']) (by omega) (by unfold maxLen; omega) (by omega) (by simp; omega) (wr.heap.size + 1 + 1) (by simp) ?_; intro gg cap w1 hown1 hgrow hat hlt'; have G1 := Lib.hid hown1; have G2 := Lib.hid hgrow; have G3 := Lib.hid hat; clear hown1 hgrow hat hlt'))
      go_roundw
      case rel =>
        refine ⟨k + 1, cs ++ [wr.heap.size], by omega, by simp [H3.out], by go_num, ?_, ?_⟩
        · have e : l.take (k + 1) = l.take k ++ [s] := by
            rw [List.take_succ_eq_append_getElem hlt, HS.out]
            simp [List.getD_eq_getElem?_getD, List.getElem?_eq_getElem hlt]
          rw [e]
          exact names_step H2.out hsz G1.out G2.out G3.out
        · exact (((H1.out.alloc hsz _).alloc (by simp; omega) _)).grown G2.out (by simp; omega) (fun q hq => (H4.out.lt q hq).1)
      case measure => simp [intOf]; omega
    · have hk' : l.take k = l := List.take_of_length_le (by omega)
      rw [hk'] at hn
      have H1 := Lib.hid hbel
      have H2 := Lib.hid hn
      clear hbel hn hk' hcs
      go_wp2_with fail
      go_ret
      exact ⟨_, cs, rfl, H2.out, H1.out⟩
end Go.Proofs.YtkofdhhkhcdeoaaGreat
