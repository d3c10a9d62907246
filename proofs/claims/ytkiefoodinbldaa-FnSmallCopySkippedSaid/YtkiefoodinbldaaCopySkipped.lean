/- laws.FnSmallCopySkipped returns true, for every input: each Copy asks skip first, and returns nil; conditions: none. -/
import Derived.Test.YtkiefoodinbldaaBase
import Derived.WalkSpells
import Derived.Deep.RegionWith
import Derived.Deep.DrawnRows
namespace Go.Proofs.Ytkiefoodinbldaa
open Go.ChangeShapes Go.WideShapes Go.ChangeAt Go.RowKit
attribute [local go_sem ↓] Go.wp_at_zero Go.wp_at_succ

theorem nameC (s : ByteArray) (w : World) :
    Calls Try.prog 9 #[.string s] w fun e w' => e = .returned (.iface 36 (.pointer (some ⟨w.heap.size, 0, none⟩))) ∧ w.alloc (.cells #[.string s] 39) = w' := by
  go_enter Try.func9, Try.ntmps9
  go_wp2
  go_ret
  exact ⟨rfl, rfl⟩

theorem Strs.at' {w w' : World} {l : List ByteArray} {a : Option Addr} (hc : ∀ i, i < l.length → ∃ b o, a = some ⟨b, o, none⟩ ∧ w.cell? ⟨b, o + i, none⟩ = some (.string (l.getD i ByteArray.empty)))
    (hb : Below w.heap.size w w') (k : Nat) (hk : k < l.length) : ∃ b o, a = some ⟨b, o, none⟩ ∧ w'.cell? ⟨b, o + k, none⟩ = some (.string (l.getD k ByteArray.empty)) := by
  obtain ⟨b, o, e, h⟩ := hc k hk
  exact ⟨b, o, e, (hb.cell (p := ⟨b, o + k, none⟩) (World.block_lt_of_cell? w _ h)).trans h⟩

theorem Strs.below' {w w' : World} {v : Value} {l : List ByteArray} (h : Strs w v l) (hb : Below w.heap.size w w') : Strs w' v l := by
  obtain ⟨a, c, rfl, hl, hc⟩ := h
  exact ⟨a, c, rfl, hl, fun i hi => Strs.at' hc hb i hi⟩

/-- A name or a name in a scope: a pointer to a block. -/
def Node (v : Value) : Prop := ∃ p : Nat, v = .iface 36 (.pointer (some ⟨p, 0, none⟩)) ∨ v = .iface 33 (.pointer (some ⟨p, 0, none⟩))

set_option maxHeartbeats 1000000 in
theorem scopesC (f : ByteArray) (v : Value) (l : List ByteArray) (w : World) (h : Strs w v l) :
    Calls Try.prog 6 #[.string f, v] w fun e w' => ∃ a, Node a ∧ e = .returned a ∧ Below w.heap.size w w' := by
  obtain ⟨ad, c, rfl, hl, hc⟩ := h
  go_enter Try.func6, Try.ntmps6
  go_wp2_with (go_at_call 9; refine (nameC _ _).mono ?_; rintro e w' ⟨rfl, rfl⟩)
  go_loopw [5, 12] (fun a i wr => ∃ k : Nat, k ≤ l.length ∧ i = .int .i64 k ∧ Node a ∧ Below w.heap.size w wr) (fun _ i _ => l.length - (intOf i).toNat)
  case atStart => exact ⟨0, Nat.zero_le _, rfl, ⟨_, .inl rfl⟩, (Below.refl _ _).alloc (Nat.le_refl _) _⟩
  case round =>
    obtain ⟨k, hk, rfl, hnode, hbel⟩ := hrel
    by_cases hlt : k < l.length
    · obtain ⟨b, o, rfl, hcell⟩ := Strs.at' hc hbel k hlt
      have hsz := hbel.size
      clear hc
      have H1 := Lib.hid hbel
      clear hbel
      obtain ⟨s, hs⟩ : ∃ s, s = l.getD k ByteArray.empty := ⟨_, rfl⟩
      rw [← hs] at hcell
      clear hs
      obtain ⟨p, rfl | rfl⟩ := hnode
      all_goals
        go_wp2_with (go_at_call 9; refine (nameC _ _).mono ?_; rintro e w' ⟨rfl, rfl⟩)
        go_roundw
        case rel => exact ⟨k + 1, by omega, by go_num, ⟨_, .inr rfl⟩, ((H1.out.alloc hsz _).alloc (by simp; omega) _)⟩
        case measure => simp [intOf]; omega
    · have H1 := Lib.hid hbel
      have H2 := Lib.hid hnode
      clear hbel hnode
      go_wp2
      go_ret
      exact ⟨_, H2.out, rfl, H1.out⟩

theorem renC (f t : ByteArray) (w : World) :
    Calls Try.prog 7 #[.string f, .string t] w fun e w' => ∃ cs, e = .returned (.func (.func 10) #[] cs) ∧ Below w.heap.size w w' := by
  go_enter Try.func7, Try.ntmps7
  go_wp2
  go_ret
  exact ⟨_, rfl, ((Below.refl _ _).alloc (Nat.le_refl _) _).alloc (by simp) _⟩

def skipAll : Value := .func (.func 8) #[] #[]

theorem copy_name (p : Nat) (v : Value) (w : World) :
    Calls Try.prog 29 #[.pointer (some ⟨p, 0, none⟩), v, skipAll] w fun e w' => e = .returned .nilIface ∧ w = w' := by
  unfold skipAll
  go_enter Try.func29, Try.ntmps29
  go_wp2
  go_ret
  exact ⟨rfl, rfl⟩

theorem copy_qual (p : Nat) (v : Value) (w : World) :
    Calls Try.prog 26 #[.pointer (some ⟨p, 0, none⟩), v, skipAll] w fun e w' => e = .returned .nilIface ∧ w = w' := by
  unfold skipAll
  go_enter Try.func26, Try.ntmps26
  go_wp2
  go_ret
  exact ⟨rfl, rfl⟩

theorem nilC_n (p : Addr) (w : World) (n : Nat) : (nilAhead (n + 1) 36 (.pointer (some p)) "Copy").run Try.prog w = .ok (some false) w := by kernel_rfl
theorem metC_n (p : Addr) (w : World) (n : Nat) : (method (n + 1) 36 (.pointer (some p)) "Copy").run Try.prog w = .ok (29, .pointer (some p)) w := by kernel_rfl
theorem nilC_q (p : Addr) (w : World) (n : Nat) : (nilAhead (n + 1) 33 (.pointer (some p)) "Copy").run Try.prog w = .ok (some false) w := by kernel_rfl
theorem metC_q (p : Addr) (w : World) (n : Nat) : (method (n + 1) 33 (.pointer (some p)) "Copy").run Try.prog w = .ok (26, .pointer (some p)) w := by kernel_rfl
attribute [local go_sem] nilC_n metC_n nilC_q metC_q

/-- What a call of Copy on the value comes to: some function, which returns nil. -/
def Skips (a : Value) : Prop := ∃ t p k, a = .iface t (.pointer (some ⟨p, 0, none⟩)) ∧ (∀ n w, (nilAhead (n + 1) t (.pointer (some ⟨p, 0, none⟩)) "Copy").run Try.prog w = .ok (some false) w) ∧
  (∀ n w, (method (n + 1) t (.pointer (some ⟨p, 0, none⟩)) "Copy").run Try.prog w = .ok (k, .pointer (some ⟨p, 0, none⟩)) w) ∧ (∀ x y z w, (callFunc k #[x, y, z]).run Try.prog w = .ok (.enter k #[x, y, z]) w) ∧
  ∀ v w, Calls Try.prog k #[.pointer (some ⟨p, 0, none⟩), v, .func (.func 8) #[] #[]] w fun e w' => e = .returned .nilIface ∧ w = w'

theorem Node.skips {a : Value} (h : Node a) : Skips a := by
  obtain ⟨p, rfl | rfl⟩ := h
  · exact ⟨_, p, 29, rfl, fun n w => nilC_n _ w n, fun n w => metC_n _ w n, fun _ _ _ _ => by kernel_rfl, fun v w => copy_name p v w⟩
  · exact ⟨_, p, 26, rfl, fun n w => nilC_q _ w n, fun n w => metC_q _ w n, fun _ _ _ _ => by kernel_rfl, fun v w => copy_qual p v w⟩

theorem scopesK (f : ByteArray) (v : Value) (l : List ByteArray) (w : World) (h : Strs w v l) :
    Calls Try.prog 6 #[.string f, v] w fun e w' => ∃ a, Skips a ∧ e = .returned a ∧ Below w.heap.size w w' :=
  (scopesC f v l w h).mono fun _ _ ⟨a, ha, he, hb⟩ => ⟨a, ha.skips, he, hb⟩

set_option maxHeartbeats 2000000 in
theorem skipped_any (f t : ByteArray) (v : Value) (l : List ByteArray) (w : World) (h : Strs w v l) :
    Calls Try.prog 5 #[.string f, v, .string t] w (True1 w) := by
  go_enter Try.func5, Try.ntmps5
  go_wp2_with fail
  go_region_with (first | (go_at_call 6; refine (scopesK _ _ l _ ?_).mono ?_; (first | exact h | exact h.below' ‹_›); rintro e w1 ⟨a, ⟨t, p, k, rfl, hnil, hmet, hcf, hcall⟩, rfl, hb1⟩) | (go_at_call 7; refine (renC _ _ _).mono ?_; rintro e w2 ⟨cs, rfl, hb2⟩) | (refine (hcall _ _).mono ?_; rintro e w' ⟨rfl, rfl⟩))
  all_goals go_wp2
  all_goals go_ret
  · exact ⟨rfl, ((Below.refl w.heap.size w).drew.trans hb1).trans (hb2.mono hb1.size)⟩
  · exact ⟨rfl, ((Below.refl w.heap.size w).drew.trans hb1).trans (hb2.mono hb1.size)⟩

set_option maxHeartbeats 2000000 in
theorem law_skipped (f : ByteArray) (hf : f.size ≤ maxLen) (a : Option Addr) (c : Nat) (l : List ByteArray) {w : World} (h : Strs w (.slice a l.length c) l) (_hnil : a = none → c = 0) (hc : l.length ≤ c) (hc2 : c ≤ 9223372036854775807) (hz : ∀ s ∈ l, s.size ≤ 9223372036854775807)
    (t : ByteArray) (ht : t.size ≤ maxLen) : Calls Try.prog 3 #[.string f, .slice a l.length c, .string t] w (True1 w) := by
  unfold maxLen at hf ht
  have hl : l.length ≤ 9223372036854775807 := by omega
  have hz' := Lib.hid hz
  clear hz
  go_enter Try.func3, Try.ntmps3
  by_cases h1 : 2147483647 < f.size
  · go_wp2_with fail
    go_ret
    exact ⟨rfl, Below.refl _ _⟩
  · by_cases h2 : 2147483647 < t.size
    · go_wp2_with (first | (go_at_call 4; refine (fits_any _ l _ h hz'.out).mono ?_; rintro e w' ⟨b, rfl, rfl⟩; cases b))
      all_goals go_ret
      all_goals exact ⟨rfl, Below.refl _ _⟩
    · go_wp2_with (first | (go_at_call 4; refine (fits_any _ l _ h hz'.out).mono ?_; rintro e w' ⟨b, rfl, rfl⟩; cases b) | (go_at_call 5; refine (skipped_any _ _ _ l _ h).mono ?_; rintro e w' ⟨rfl, hb⟩))
      · go_ret
        exact ⟨rfl, Below.refl _ _⟩
      · go_ret
        exact ⟨rfl, Below.refl _ _⟩
      · go_ret
        exact ⟨rfl, hb⟩
end Go.Proofs.Ytkiefoodinbldaa
