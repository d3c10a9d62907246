/- Traverse over a typed function, with the closure of impl.WalkFunction: what it gathers; conditions: a million names at most. -/
import Derived.Test.YtgcmhbonadibeaaScopes
import Derived.Test.YtgcmhbonadibeaaNames
namespace Go.Proofs.Ytgcmhbonadibeaa
open Go.ChangeShapes Go.WideShapes Go.ChangeAt Go.RowKit
attribute [local go_sem ↓] Go.wp_at_zero Go.wp_at_succ

theorem ta_tn (p : Option Addr) (w : World) : (Instr.typeAssert (.iface 39 (.pointer p)) 31 34 true).run Try.prog w = .ok (.tuple #[.pointer none, .bool false]) w := by kernel_rfl
theorem ta_fn (p : Option Addr) (w : World) : (Instr.typeAssert (.iface 41 (.pointer p)) 31 34 true).run Try.prog w = .ok (.tuple #[.pointer none, .bool false]) w := by kernel_rfl
theorem ta_bn (p : Option Addr) (w : World) : (Instr.typeAssert (.iface 45 (.pointer p)) 31 34 true).run Try.prog w = .ok (.tuple #[.pointer none, .bool false]) w := by kernel_rfl
theorem ta_tb (p : Option Addr) (w : World) : (Instr.typeAssert (.iface 39 (.pointer p)) 31 45 true).run Try.prog w = .ok (.tuple #[.pointer none, .bool false]) w := by kernel_rfl
theorem ta_fb (p : Option Addr) (w : World) : (Instr.typeAssert (.iface 41 (.pointer p)) 31 45 true).run Try.prog w = .ok (.tuple #[.pointer none, .bool false]) w := by kernel_rfl
theorem ta_bb (p : Option Addr) (w : World) : (Instr.typeAssert (.iface 45 (.pointer p)) 31 45 true).run Try.prog w = .ok (.tuple #[.pointer p, .bool true]) w := by kernel_rfl
attribute [local go_sem] ta_nn ta_tn ta_fn ta_bn ta_tb ta_fb ta_bb
theorem nilF_n (p : Addr) (w : World) (n : Nat) : (nilAhead (n + 1) 34 (.pointer (some p)) "Traverse").run Try.prog w = .ok (some false) w := by kernel_rfl
theorem metF_n (p : Addr) (w : World) (n : Nat) : (method (n + 1) 34 (.pointer (some p)) "Traverse").run Try.prog w = .ok (34, .pointer (some p)) w := by kernel_rfl
theorem nilF_f (p : Addr) (w : World) (n : Nat) : (nilAhead (n + 1) 41 (.pointer (some p)) "Traverse").run Try.prog w = .ok (some false) w := by kernel_rfl
theorem metF_f (p : Addr) (w : World) (n : Nat) : (method (n + 1) 41 (.pointer (some p)) "Traverse").run Try.prog w = .ok (39, .pointer (some p)) w := by kernel_rfl
theorem nilF_b (p : Addr) (w : World) (n : Nat) : (nilAhead (n + 1) 45 (.pointer (some p)) "Traverse").run Try.prog w = .ok (some false) w := by kernel_rfl
theorem metF_b (p : Addr) (w : World) (n : Nat) : (method (n + 1) 45 (.pointer (some p)) "Traverse").run Try.prog w = .ok (42, .pointer (some p)) w := by kernel_rfl
attribute [local go_sem] nilF_n metF_n nilF_f metF_f nilF_b metF_b

set_option maxRecDepth 100000 in
set_option maxHeartbeats 1600000 in
theorem fclo_name (w : World) (B Bo b : Nat) (s : ByteArray) (xs : List ByteArray) (hout : Out w B Bo xs) (hb : w.cell? ⟨b, 0, none⟩ = some (.string s)) (hn : xs.length ≤ 1000000) :
    Calls Try.prog 16 #[.iface 34 (.pointer (some ⟨b, 0, none⟩)), .pointer (some ⟨Bo, 0, none⟩)] w fun e w' =>
      e = .returned (.bool true) ∧ Out w' B Bo (xs ++ [s]) ∧ Ex B [Bo] w w' := by
  obtain ⟨v, hv, hown, hBoB, hBw⟩ := hout
  obtain ⟨i0, hi0, hz0, hz1, hz2⟩ := info_parts Try.info9
  have cv := cell_of_one hv
  have fv := free_of_one hv
  have hlt := World.block_lt_of_cell? w _ cv
  have hnrow : v.ownBlock ≠ some Bo := fun e => by have := hown.lt _ e; omega
  have hH := Lib.hid hv
  clear hv
  go_enter Try.func16, Try.ntmps16
  go_wp2_with fail
  go_region_law ((refine step_append_lies _ (by rfl) _ _ _ (by rfl) B 9 i0 _ 1 16 Try.underlying22 hi0 hz0 hz1 hz2 rfl (by omega) v xs.length (xs.map Value.string) (by rfl) ((hown.alloc _).drew) ⟨w.heap.size, 0, none⟩ 1 1 [.string s] (by rfl) (by rfl) (World.news_of_block (cs := #[.string s]) (t := 9) (fr := (0, 0)) (heap_alloc_new w _)) (by simp [Value.oneCell']) (by omega) (by unfold maxLen; omega) (by omega) (by simp; omega) (w.heap.size + 1) (by simp) ?_; intro gg cap w1 hown1 hgrow hat hlt'; have hf1 := (hgrow.frozen_far ⟨Bo, 0, none⟩ (by simp; omega) (Ne.symm hnrow)).trans (frz_alloc hlt fv); have hc1 := (hgrow.cell_far ⟨Bo, 0, none⟩ (by simp; omega) (Ne.symm hnrow)).trans (cel_alloc hlt cv)))
  all_goals go_wp2
  all_goals go_ret
  all_goals exact ⟨rfl, out_step hH.out hown hBoB hBw hown1 hgrow⟩

set_option maxRecDepth 100000 in
set_option maxHeartbeats 1600000 in
theorem fclo_builtin (w : World) (B Bo b : Nat) (s : ByteArray) (xs : List ByteArray) (hout : Out w B Bo xs) (hb : w.cell? ⟨b, 0, none⟩ = some (.string s)) (hn : xs.length ≤ 1000000) :
    Calls Try.prog 16 #[.iface 45 (.pointer (some ⟨b, 0, none⟩)), .pointer (some ⟨Bo, 0, none⟩)] w fun e w' =>
      e = .returned (.bool true) ∧ Out w' B Bo (xs ++ [s]) ∧ Ex B [Bo] w w' := by
  obtain ⟨v, hv, hown, hBoB, hBw⟩ := hout
  obtain ⟨i0, hi0, hz0, hz1, hz2⟩ := info_parts Try.info9
  have cv := cell_of_one hv
  have fv := free_of_one hv
  have hlt := World.block_lt_of_cell? w _ cv
  have hnrow : v.ownBlock ≠ some Bo := fun e => by have := hown.lt _ e; omega
  have hH := Lib.hid hv
  clear hv
  go_enter Try.func16, Try.ntmps16
  go_wp2_with fail
  go_region_law ((refine step_append_lies _ (by rfl) _ _ _ (by rfl) B 9 i0 _ 1 16 Try.underlying22 hi0 hz0 hz1 hz2 rfl (by omega) v xs.length (xs.map Value.string) (by rfl) ((hown.alloc _).drew) ⟨w.heap.size, 0, none⟩ 1 1 [.string s] (by rfl) (by rfl) (World.news_of_block (cs := #[.string s]) (t := 9) (fr := (0, 0)) (heap_alloc_new w _)) (by simp [Value.oneCell']) (by omega) (by unfold maxLen; omega) (by omega) (by simp; omega) (w.heap.size + 1) (by simp) ?_; intro gg cap w1 hown1 hgrow hat hlt'; have hf1 := (hgrow.frozen_far ⟨Bo, 0, none⟩ (by simp; omega) (Ne.symm hnrow)).trans (frz_alloc hlt fv); have hc1 := (hgrow.cell_far ⟨Bo, 0, none⟩ (by simp; omega) (Ne.symm hnrow)).trans (cel_alloc hlt cv)))
  all_goals go_wp2
  all_goals go_ret
  all_goals exact ⟨rfl, out_step hH.out hown hBoB hBw hown1 hgrow⟩

theorem fclo_typed (w : World) (Bo b : Nat) :
    Calls Try.prog 16 #[.iface 39 (.pointer (some ⟨b, 0, none⟩)), .pointer (some ⟨Bo, 0, none⟩)] w fun e w' => e = .returned (.bool true) ∧ w = w' := by
  go_enter Try.func16, Try.ntmps16
  go_wp2
  go_ret
  exact ⟨rfl, rfl⟩
theorem fclo_func (w : World) (Bo b : Nat) :
    Calls Try.prog 16 #[.iface 41 (.pointer (some ⟨b, 0, none⟩)), .pointer (some ⟨Bo, 0, none⟩)] w fun e w' => e = .returned (.bool true) ∧ w = w' := by
  go_enter Try.func16, Try.ntmps16
  go_wp2
  go_ret
  exact ⟨rfl, rfl⟩

def cl1 (Bo : Nat) : Value := .func (.func 16) #[] #[.pointer (some ⟨Bo, 0, none⟩)]

theorem fname_trav (w : World) (B Bo b : Nat) (s : ByteArray) (xs : List ByteArray) (h : Out w B Bo xs) (hb : w.cell? ⟨b, 0, none⟩ = some (.string s)) (hn : xs.length ≤ 1000000) :
    Calls Try.prog 34 #[.pointer (some ⟨b, 0, none⟩), cl1 Bo] w fun e w' => e = .returned (.tuple #[]) ∧ Out w' B Bo (xs ++ [s]) ∧ Ex B [Bo] w w' := by
  unfold cl1
  go_enter Try.func34, Try.ntmps34
  go_wp2_with (go_at_call 16; refine (fclo_name w B Bo b s xs h hb hn).mono ?_; rintro e w' ⟨rfl, h1, h2⟩)
  go_end0
  exact ⟨rfl, h1, h2⟩
theorem fbuiltin_trav (w : World) (B Bo b : Nat) (s : ByteArray) (xs : List ByteArray) (h : Out w B Bo xs) (hb : w.cell? ⟨b, 0, none⟩ = some (.string s)) (hn : xs.length ≤ 1000000) :
    Calls Try.prog 42 #[.pointer (some ⟨b, 0, none⟩), cl1 Bo] w fun e w' => e = .returned (.tuple #[]) ∧ Out w' B Bo (xs ++ [s]) ∧ Ex B [Bo] w w' := by
  unfold cl1
  go_enter Try.func42, Try.ntmps42
  go_wp2_with (go_at_call 16; refine (fclo_builtin w B Bo b s xs h hb hn).mono ?_; rintro e w' ⟨rfl, h1, h2⟩)
  go_end0
  exact ⟨rfl, h1, h2⟩

/-- A slice of Names, as it lies in memory. -/
def ListAt (w : World) (B : Nat) (S : List Nat) (v : Value) (l : List ByteArray) : Prop :=
  ∃ a c, v = .slice a l.length c ∧ ∀ i, i < l.length → ∃ g ci, a = some ⟨g, 0, none⟩ ∧ g < B ∧ g ∉ S ∧ ci < B ∧ ci ∉ S ∧ w.cell? ⟨g, i, none⟩ = some (.iface 34 (.pointer (some ⟨ci, 0, none⟩))) ∧
    w.cell? ⟨ci, 0, none⟩ = some (.string (l.getD i ByteArray.empty))

theorem ListAt.keep {w w' : World} {B : Nat} {S : List Nat} {v : Value} {l : List ByteArray} (h : ListAt w B S v l) (hx : Ex B S w w') : ListAt w' B S v l := by
  obtain ⟨a, c, rfl, h⟩ := h
  refine ⟨a, c, rfl, fun i hi => ?_⟩
  obtain ⟨g, ci, e, h1, h2, h3, h4, h5, h6⟩ := h i hi
  exact ⟨g, ci, e, h1, h2, h3, h4, (hx.cell (p := ⟨g, i, none⟩) h1 h2).trans h5, (hx.cell (p := ⟨ci, 0, none⟩) h3 h4).trans h6⟩

theorem NamesR.list {w : World} {N : Nat} {v : Value} {cs : List Nat} {l : List ByteArray} (h : NamesR w N v cs l) {S : List Nat} (hS : ∀ k ∈ S, k < N) : ListAt w w.heap.size S v l := by
  obtain ⟨hlen, hown, hel⟩ := h
  rcases hown.2 with ⟨rfl, h0⟩ | ⟨g, cap, cur, rfl, hNg, hg, _, _, _, ht⟩
  · exact ⟨none, 0, by rw [← hlen, h0], fun i hi => by omega⟩
  · have hgl := (Array.getElem?_eq_some_iff.1 hg).1
    refine ⟨some ⟨g, 0, none⟩, cap, by rw [hlen], fun i hi => ?_⟩
    have hi' : i < cs.length := by omega
    obtain ⟨⟨h1, h2, h3⟩, h4⟩ := hel i cs[i] (List.getElem?_eq_getElem hi')
    refine ⟨g, cs[i], rfl, hgl, fun hm => by have := hS _ hm; omega, h3, fun hm => by have := hS _ hm; omega, ?_, cell_of_one h1⟩
    rw [cell_of_row w g i cur 31 (0, 0) hg]
    have h2 : (cur.toList.take (cs.length * 1))[i]? = (cs.map fun c => Value.iface 34 (.pointer (some ⟨c, 0, none⟩)))[i]? := by rw [ht]
    rw [List.getElem?_take_of_lt (by omega), List.getElem?_map, List.getElem?_eq_getElem hi'] at h2
    simpa using h2

set_option maxHeartbeats 1600000 in
theorem func_trav (w : World) (B Bo b bb : Nat) (back : ByteArray) (l xs : List ByteArray) (vargs : Value) (h : Out w B Bo xs) (c0 : w.cell? ⟨b, 0, none⟩ = some (.iface 45 (.pointer (some ⟨bb, 0, none⟩)))) (c1 : w.cell? ⟨b, 1, none⟩ = some vargs)
    (cb : w.cell? ⟨bb, 0, none⟩ = some (.string back)) (hl : ListAt w B [Bo] vargs l) (hb : b < B) (hb2 : b ∉ [Bo]) (hn : xs.length + l.length + 1 ≤ 1000000) :
    Calls Try.prog 39 #[.pointer (some ⟨b, 0, none⟩), cl1 Bo] w fun e w' => e = .returned (.tuple #[]) ∧ Out w' B Bo (xs ++ back :: l) ∧ Ex B [Bo] w w' := by
  obtain ⟨a, c, rfl, hc⟩ := id hl
  have HL := Lib.hid hl
  clear hl
  unfold cl1
  go_enter Try.func39, Try.ntmps39
  go_wp2_with (go_at_call 16; refine (fclo_func _ _ _).mono ?_; rintro e w' ⟨rfl, rfl⟩)
  refine (fbuiltin_trav w B Bo bb back xs h cb (by omega)).mono ?_
  rintro e w1 ⟨rfl, h1, x1⟩
  have d1 := (x1.cell (p := ⟨b, 1, none⟩) hb hb2).trans c1
  have H1 := Lib.hid h1
  have X1 := Lib.hid x1
  clear h1 x1 c0 c1 cb h
  go_wp2_with fail
  go_loopw [26] (fun i wr => ∃ k : Nat, k ≤ l.length ∧ i = .int .i64 k ∧ Out wr B Bo (xs ++ back :: l.take k) ∧ Ex B [Bo] w wr) (fun i _ => l.length - (intOf i).toNat)
  case atStart => exact ⟨0, Nat.zero_le _, rfl, by simpa using H1.out, X1.out⟩
  case round =>
    obtain ⟨k, hk, rfl, ho, hx⟩ := hrel
    by_cases hlt : k < l.length
    · obtain ⟨a', c', e, hc'⟩ := HL.out.keep hx
      obtain ⟨rfl, _, rfl⟩ : a = a' ∧ l.length = l.length ∧ c = c' := by simpa using e
      obtain ⟨g, ci, rfl, _, _, _, _, e1, e2⟩ := hc' k hlt
      have O := Lib.hid ho
      have X := Lib.hid hx
      have hln : (xs ++ back :: l.take k).length ≤ 1000000 := by simp; omega
      clear ho hx hc' e
      go_wp2_with (go_at_call 34; refine (fname_trav wr B Bo ci _ _ O.out e2 hln).mono ?_; rintro e w2 ⟨rfl, h2, x2⟩; have O2 := Lib.hid h2; have X2 := Lib.hid x2; clear h2 x2)
      go_roundw
      case rel =>
        refine ⟨k + 1, by omega, by go_num, ?_, X.out.trans X2.out⟩
        have e : l.take (k + 1) = l.take k ++ [l.getD k ByteArray.empty] := by
          rw [List.take_succ_eq_append_getElem hlt]
          simp [List.getD_eq_getElem?_getD, List.getElem?_eq_getElem hlt]
        rw [e]
        simpa using O2.out
      case measure => simp [intOf]; omega
    · have hk' : l.take k = l := List.take_of_length_le (by omega)
      rw [hk'] at ho
      have O := Lib.hid ho
      have X := Lib.hid hx
      clear ho hx hk'
      go_wp2_with fail
      go_end0
      exact ⟨rfl, O.out, X.out⟩
end Go.Proofs.Ytgcmhbonadibeaa
