/- Traverse over a name in scopes, with the closure of impl.WalkScopes: what it gathers and what it leaves, for every chain of blocks; conditions: so many scopes as a million holds. -/
import Derived.Test.YtgcmhbonadibeaaBase
import Derived.WalkSpells
import Derived.OneCell
import Derived.Deep.RegionHeld3
import Derived.Deep.RegionLaw
import Derived.Deep.AppendLies
import Derived.Deep.DrawnRows
namespace Go.Proofs.Ytgcmhbonadibeaa
open Go.ChangeShapes Go.WideShapes Go.ChangeAt Go.RowKit
attribute [local go_sem ↓] Go.wp_at_zero Go.wp_at_succ

/-- Below a block number, but for some blocks, the world is as it was. -/
structure Ex (B : Nat) (S : List Nat) (w w' : World) : Prop where
  os : w'.os = w.os
  tape : w'.tape = w.tape
  output : w'.output = w.output
  size : w.heap.size ≤ w'.heap.size
  block : ∀ k, k < B → k ∉ S → w'.heap[k]? = w.heap[k]?

theorem Ex.refl (B : Nat) (S : List Nat) (w : World) : Ex B S w w := ⟨rfl, rfl, rfl, Nat.le_refl _, fun _ _ _ => rfl⟩
theorem Ex.trans {B : Nat} {S : List Nat} {a b c : World} (h : Ex B S a b) (k : Ex B S b c) : Ex B S a c :=
  ⟨k.os.trans h.os, k.tape.trans h.tape, k.output.trans h.output, Nat.le_trans h.size k.size, fun i hi hS => (k.block i hi hS).trans (h.block i hi hS)⟩
theorem Ex.cell {B : Nat} {S : List Nat} {w w' : World} (h : Ex B S w w') {p : Addr} (hp : p.block < B) (hS : p.block ∉ S) : w'.cell? p = w.cell? p :=
  World.cell?_of_block (w := w) (h.block p.block hp hS)
theorem Ex.below {B : Nat} {S : List Nat} {w w' : World} (h : Ex B S w w') {B' : Nat} (hB : B' ≤ B) (hS : ∀ k, k ∈ S → B' ≤ k) : Below B' w w' :=
  ⟨h.os, h.tape, h.output, h.size, fun k hk => h.block k (Nat.lt_of_lt_of_le hk hB) (fun hm => by have := hS k hm; omega)⟩

theorem Try.info9 : (Try.prog.info? 9).map (fun i => (i.zero, i.size, i.bytes)) = some (some (.string ByteArray.empty), 1, 16) := by kernel_rfl

theorem ta_nn (p : Option Addr) (w : World) : (Instr.typeAssert (.iface 34 (.pointer p)) 31 34 true).run Try.prog w = .ok (.tuple #[.pointer p, .bool true]) w := by kernel_rfl
theorem ta_qn (p : Option Addr) (w : World) : (Instr.typeAssert (.iface 47 (.pointer p)) 31 34 true).run Try.prog w = .ok (.tuple #[.pointer none, .bool false]) w := by kernel_rfl
attribute [local go_sem] ta_nn ta_qn

/-- The captured slice of strings, and what it owns. -/
def Out (w : World) (B Bo : Nat) (xs : List ByteArray) : Prop :=
  ∃ v, w.heap[Bo]? = some (.cells #[v] 22 (0, 0)) ∧ w.ownsRow B 9 1 v xs.length (xs.map Value.string) ∧ Bo < B ∧ B ≤ w.heap.size

theorem exOfGrown {B : Nat} {S : List Nat} {w w' : World} {row : Option Nat} (hg : w.grownBy w' row) (hB : B ≤ w.heap.size) (hr : ∀ k, row = some k → B ≤ k) : Ex B S w w' :=
  ⟨hg.os, hg.tape, hg.output, hg.size, fun k hk _ => hg.block k (by omega) (fun e => by have := hr k e.symm; omega)⟩

theorem frz_alloc {w : World} {o : Obj} {a : Addr} (h : a.block < w.heap.size) (hf : w.frozen? a = false) : (w.alloc o).drew.frozen? a = false := by
  have : (w.alloc o).drew.frozen? a = w.frozen? a := World.frozen?_of_block (w := w) (Below.heap_alloc w o a.block h)
  rw [this, hf]

theorem cel_alloc {w : World} {o : Obj} {a : Addr} {v : Value} (h : a.block < w.heap.size) (hf : w.cell? a = some v) : (w.alloc o).drew.cell? a = some v := by
  have : (w.alloc o).drew.cell? a = w.cell? a := World.cell?_of_block (w := w) (Below.heap_alloc w o a.block h)
  rw [this, hf]

theorem out_step {w w1 : World} {B Bo gg cap : Nat} {xs : List ByteArray} {s : ByteArray} {v : Value} (hv : w.heap[Bo]? = some (.cells #[v] 22 (0, 0)))
    (hown : w.ownsRow B 9 1 v xs.length (xs.map Value.string)) (hBoB : Bo < B) (hBw : B ≤ w.heap.size)
    (hown1 : w1.ownsRow B 9 1 (Value.slice (some ⟨gg, 0, none⟩) (xs.length + 1) cap) (xs.length + 1) (List.map Value.string xs ++ [Value.string s]))
    (hgrow : (w.alloc (Obj.cells #[Value.string s] 9)).drew.grownBy w1 v.ownBlock) :
    Out (w1.setCell ⟨Bo, 0, none⟩ (Value.slice (some ⟨gg, 0, none⟩) (xs.length + 1) cap)) B Bo (xs ++ [s]) ∧
      Ex B [Bo] w (w1.setCell ⟨Bo, 0, none⟩ (Value.slice (some ⟨gg, 0, none⟩) (xs.length + 1) cap)) := by
  have hnrow : some Bo ≠ v.ownBlock := fun e => by have := hown.lt _ e.symm; omega
  have hsz : w.heap.size + 1 ≤ w1.heap.size := by simpa using hgrow.size
  have h1 : w1.heap[Bo]? = some (.cells #[v] 22 (0, 0)) := by
    rw [hgrow.block Bo (by simp; omega) hnrow]
    exact (Below.heap_alloc w _ Bo (by omega)).trans hv
  refine ⟨⟨_, one_setCell h1, ?_, hBoB, by simp [World.setCell]; omega⟩, ⟨hgrow.os, hgrow.tape, hgrow.output, by simp [World.setCell]; omega, ?_⟩⟩
  · have := ownsRow_setCell_below hown1 (a := ⟨Bo, 0, none⟩) hBoB (Value.slice (some ⟨gg, 0, none⟩) (xs.length + 1) cap)
    simpa using this
  · intro k hk hS
    rw [Below.heap_setCell _ _ _ _ (by simpa using hS), hgrow.block k (by simp; omega) (fun e => by have := hown.lt _ e.symm; omega)]
    exact Below.heap_alloc w _ k (by omega)

set_option maxRecDepth 100000 in
set_option maxHeartbeats 1600000 in
theorem clo_name (w : World) (B Bo Bp b : Nat) (s : ByteArray) (xs : List ByteArray) (hout : Out w B Bo xs) (hb : w.cell? ⟨b, 0, none⟩ = some (.string s)) (hbB : b < B) (hn : xs.length ≤ 1000000) :
    Calls Try.prog 11 #[.iface 34 (.pointer (some ⟨b, 0, none⟩)), .pointer (some ⟨Bo, 0, none⟩), .pointer (some ⟨Bp, 0, none⟩)] w fun e w' =>
      e = .returned (.bool true) ∧ Out w' B Bo (xs ++ [s]) ∧ Ex B [Bo] w w' := by
  obtain ⟨v, hv, hown, hBoB, hBw⟩ := hout
  obtain ⟨i0, hi0, hz0, hz1, hz2⟩ := info_parts Try.info9
  have cv := cell_of_one hv
  have fv := free_of_one hv
  have hlt := World.block_lt_of_cell? w _ cv
  have hltb := World.block_lt_of_cell? w _ hb
  have hnrow : v.ownBlock ≠ some Bo := fun e => by have := hown.lt _ e; omega
  have hnrow2 : v.ownBlock ≠ some b := fun e => by have := hown.lt _ e; omega
  have hH := Lib.hid hv
  clear hv
  go_enter Try.func11, Try.ntmps11
  go_wp2_with fail
  go_region_law ((refine step_append_lies _ (by rfl) _ _ _ (by rfl) B 9 i0 _ 1 16 Try.underlying22 hi0 hz0 hz1 hz2 rfl (by omega) v xs.length (xs.map Value.string) (by rfl) ((hown.alloc _).drew) ⟨w.heap.size, 0, none⟩ 1 1 [.string s] (by rfl) (by rfl) (World.news_of_block (cs := #[.string s]) (t := 9) (fr := (0, 0)) (heap_alloc_new w _)) (by simp [Value.oneCell']) (by omega) (by unfold maxLen; omega) (by omega) (by simp; omega) (w.heap.size + 1) (by simp) ?_; intro gg cap w1 hown1 hgrow hat hlt'; have hf1 := (hgrow.frozen_far ⟨Bo, 0, none⟩ (by simp; omega) (Ne.symm hnrow)).trans (frz_alloc hlt fv); have hc1 := (hgrow.cell_far ⟨Bo, 0, none⟩ (by simp; omega) (Ne.symm hnrow)).trans (cel_alloc hlt cv)))
  all_goals go_wp2
  all_goals go_ret
  all_goals exact ⟨rfl, out_step hH.out hown hBoB hBw hown1 hgrow⟩

/-- The state of a walk over scopes: what was gathered, and how many may still be opened. -/
structure St (w : World) (B Bo Bp : Nat) (xs : List ByteArray) (m : Int) : Prop where
  out : Out w B Bo xs
  op : w.heap[Bp]? = some (.cells #[.int .i64 m] 3 (0, 0))
  lt : Bp < B
  ne : Bp ≠ Bo

theorem Ex.widen {B : Nat} {S T : List Nat} {w w' : World} (h : Ex B S w w') (hs : ∀ k ∈ S, k ∈ T) : Ex B T w w' :=
  ⟨h.os, h.tape, h.output, h.size, fun k hk hn => h.block k hk (fun hm => hn (hs k hm))⟩

def cl (Bo Bp : Nat) : Value := .func (.func 11) #[] #[.pointer (some ⟨Bo, 0, none⟩), .pointer (some ⟨Bp, 0, none⟩)]

theorem clo_name_st (w : World) (B Bo Bp b : Nat) (s : ByteArray) (xs : List ByteArray) (m : Int) (h : St w B Bo Bp xs m) (hb : w.cell? ⟨b, 0, none⟩ = some (.string s)) (hbB : b < B) (hn : xs.length ≤ 1000000) :
    Calls Try.prog 11 #[.iface 34 (.pointer (some ⟨b, 0, none⟩)), .pointer (some ⟨Bo, 0, none⟩), .pointer (some ⟨Bp, 0, none⟩)] w fun e w' =>
      e = .returned (.bool true) ∧ St w' B Bo Bp (xs ++ [s]) m ∧ Ex B [Bo, Bp] w w' := by
  refine (clo_name w B Bo Bp b s xs h.out hb hbB hn).mono ?_
  rintro e w' ⟨rfl, ho, hx⟩
  exact ⟨rfl, ⟨ho, by rw [hx.block Bp h.lt (by simpa using h.ne)]; exact h.op, h.lt, h.ne⟩, hx.widen (by simp)⟩

theorem st_dec {w : World} {B Bo Bp : Nat} {xs : List ByteArray} {m : Int} (h : St w B Bo Bp xs m) (q : Int) :
    St (w.setCell ⟨Bp, 0, none⟩ (.int .i64 q)) B Bo Bp xs q ∧ Ex B [Bo, Bp] w (w.setCell ⟨Bp, 0, none⟩ (.int .i64 q)) := by
  obtain ⟨⟨v, hv, hown, hBo, hBw⟩, hp, hlt, hne⟩ := h
  refine ⟨⟨⟨v, ?_, ownsRow_setCell_below hown hlt _, hBo, by simpa [World.setCell] using hBw⟩, one_setCell hp, hlt, hne⟩, ⟨rfl, rfl, rfl, by simp [World.setCell], ?_⟩⟩
  · rw [Below.heap_setCell _ _ _ _ (by exact fun e => hne e.symm)]; exact hv
  · intro k hk hS
    exact Below.heap_setCell _ _ _ _ (by intro e; subst e; simp at hS)

set_option maxHeartbeats 400000 in
theorem clo_qual (w : World) (B Bo Bp b : Nat) (xs : List ByteArray) (m : Int) (h : St w B Bo Bp xs m) (hm : -1000000 ≤ m) (hm2 : m ≤ 1000000000) :
    Calls Try.prog 11 #[.iface 47 (.pointer (some ⟨b, 0, none⟩)), .pointer (some ⟨Bo, 0, none⟩), .pointer (some ⟨Bp, 0, none⟩)] w fun e w' =>
      e = .returned (.bool (decide (1 ≤ m))) ∧ St w' B Bo Bp xs (m - 1) ∧ Ex B [Bo, Bp] w w' := by
  have cp := cell_of_one h.op
  have fp := free_of_one h.op
  have H := Lib.hid h
  clear h
  go_enter Try.func11, Try.ntmps11
  go_wp2
  go_ret
  exact ⟨rfl, st_dec H.out _⟩

theorem name_trav (w : World) (B Bo Bp b : Nat) (s : ByteArray) (xs : List ByteArray) (m : Int) (h : St w B Bo Bp xs m) (hb : w.cell? ⟨b, 0, none⟩ = some (.string s)) (hbB : b < B) (hn : xs.length ≤ 1000000) :
    Calls Try.prog 34 #[.pointer (some ⟨b, 0, none⟩), cl Bo Bp] w fun e w' =>
      e = .returned (.tuple #[]) ∧ St w' B Bo Bp (xs ++ [s]) m ∧ Ex B [Bo, Bp] w w' := by
  unfold cl
  go_enter Try.func34, Try.ntmps34
  go_wp2_with (go_at_call 11; refine (clo_name_st w B Bo Bp b s xs m h hb hbB hn).mono ?_; rintro e w' ⟨rfl, h1, h2⟩)
  go_end0
  exact ⟨rfl, h1, h2⟩

/-- A name in scopes, as it lies in memory: the scopes' texts behind the first, the last one first. -/
def ScL (w : World) (B : Nat) (S : List Nat) (f : ByteArray) : List ByteArray → Value → Prop
  | [], v => ∃ b, v = .iface 34 (.pointer (some ⟨b, 0, none⟩)) ∧ w.cell? ⟨b, 0, none⟩ = some (.string f) ∧ b < B ∧ b ∉ S
  | s :: l, v => ∃ b c u, v = .iface 47 (.pointer (some ⟨b, 0, none⟩)) ∧ ScL w B S f l u ∧ w.cell? ⟨b, 0, none⟩ = some u ∧ w.cell? ⟨b, 1, none⟩ = some (.iface 34 (.pointer (some ⟨c, 0, none⟩))) ∧
      w.cell? ⟨c, 0, none⟩ = some (.string s) ∧ b < B ∧ b ∉ S ∧ c < B ∧ c ∉ S

def Sc (w : World) (B : Nat) (S : List Nat) (v : Value) (f : ByteArray) (l : List ByteArray) : Prop := ScL w B S f l v

theorem Sc.single {w : World} {B : Nat} {S : List Nat} (b : Nat) (f : ByteArray) (h1 : w.cell? ⟨b, 0, none⟩ = some (.string f)) (h2 : b < B) (h3 : b ∉ S) : Sc w B S (.iface 34 (.pointer (some ⟨b, 0, none⟩))) f [] :=
  ⟨b, rfl, h1, h2, h3⟩
theorem Sc.longer {w : World} {B : Nat} {S : List Nat} (b c : Nat) (s f : ByteArray) (l : List ByteArray) (v : Value) (h0 : Sc w B S v f l) (h1 : w.cell? ⟨b, 0, none⟩ = some v) (h2 : w.cell? ⟨b, 1, none⟩ = some (.iface 34 (.pointer (some ⟨c, 0, none⟩))))
    (h3 : w.cell? ⟨c, 0, none⟩ = some (.string s)) (h4 : b < B) (h5 : b ∉ S) (h6 : c < B) (h7 : c ∉ S) : Sc w B S (.iface 47 (.pointer (some ⟨b, 0, none⟩))) f (s :: l) :=
  ⟨b, c, v, rfl, h0, h1, h2, h3, h4, h5, h6, h7⟩
theorem Sc.of_nil {w : World} {B : Nat} {S : List Nat} {v : Value} {f : ByteArray} (h : Sc w B S v f []) :
    ∃ b, v = .iface 34 (.pointer (some ⟨b, 0, none⟩)) ∧ w.cell? ⟨b, 0, none⟩ = some (.string f) ∧ b < B ∧ b ∉ S := h
theorem Sc.of_cons {w : World} {B : Nat} {S : List Nat} {v : Value} {f s : ByteArray} {l : List ByteArray} (h : Sc w B S v f (s :: l)) :
    ∃ b c u, v = .iface 47 (.pointer (some ⟨b, 0, none⟩)) ∧ Sc w B S u f l ∧ w.cell? ⟨b, 0, none⟩ = some u ∧ w.cell? ⟨b, 1, none⟩ = some (.iface 34 (.pointer (some ⟨c, 0, none⟩))) ∧
      w.cell? ⟨c, 0, none⟩ = some (.string s) ∧ b < B ∧ b ∉ S ∧ c < B ∧ c ∉ S := h
theorem Sc.of_at {w : World} {B : Nat} {S : List Nat} {b : Nat} {f s : ByteArray} {l : List ByteArray} (h : Sc w B S (.iface 47 (.pointer (some ⟨b, 0, none⟩))) f (s :: l)) :
    ∃ c u, Sc w B S u f l ∧ w.cell? ⟨b, 0, none⟩ = some u ∧ w.cell? ⟨b, 1, none⟩ = some (.iface 34 (.pointer (some ⟨c, 0, none⟩))) ∧
      w.cell? ⟨c, 0, none⟩ = some (.string s) ∧ b < B ∧ b ∉ S ∧ c < B ∧ c ∉ S := by
  obtain ⟨b', c, u, e, h⟩ := h.of_cons
  obtain rfl : b = b' := by simpa using e
  exact ⟨c, u, h⟩

theorem Sc.keep {w w' : World} {B : Nat} {S : List Nat} {f : ByteArray} (hx : Ex B S w w') : ∀ {l : List ByteArray} {v : Value}, Sc w B S v f l → Sc w' B S v f l
  | [], _, h => by
    obtain ⟨b, rfl, h1, h2, h3⟩ := h.of_nil
    exact .single b f ((hx.cell (p := ⟨b, 0, none⟩) h2 h3).trans h1) h2 h3
  | s :: l, _, h => by
    obtain ⟨b, c, u, rfl, h0, h1, h2, h3, h4, h5, h6, h7⟩ := h.of_cons
    exact .longer b c s f l u (Sc.keep hx h0) ((hx.cell (p := ⟨b, 0, none⟩) h4 h5).trans h1) ((hx.cell (p := ⟨b, 1, none⟩) h4 h5).trans h2) ((hx.cell (p := ⟨c, 0, none⟩) h6 h7).trans h3) h4 h5 h6 h7

/-- What a walk gathers, and how many it leaves to be opened. -/
def trav (f : ByteArray) : List ByteArray → Int → List ByteArray × Int
  | [], m => ([f], m)
  | s :: l, m => if 1 ≤ m then ((trav f l (m - 1)).1 ++ [s], (trav f l (m - 1)).2) else ([], m - 1)

theorem trav_len (f : ByteArray) : ∀ (l : List ByteArray) (m : Int), (trav f l m).1.length ≤ l.length + 1
  | [], m => by simp [trav]
  | s :: l, m => by
    have := trav_len f l (m - 1)
    unfold trav
    split
    · simp; omega
    · simp
theorem trav_low (f : ByteArray) : ∀ (l : List ByteArray) (m : Int), m - (l.length : Int) - 1 ≤ (trav f l m).2 ∧ (trav f l m).2 ≤ m
  | [], m => by simp [trav]; omega
  | s :: l, m => by
    have := trav_low f l (m - 1)
    unfold trav
    split
    · simp; omega
    · simp; omega

theorem nil_q (p : Addr) (w : World) (n : Nat) : (nilAhead (n + 1) 47 (.pointer (some p)) "Traverse").run Try.prog w = .ok (some false) w := by kernel_rfl
theorem nil_n (p : Addr) (w : World) (n : Nat) : (nilAhead (n + 1) 34 (.pointer (some p)) "Traverse").run Try.prog w = .ok (some false) w := by kernel_rfl
theorem met_q (p : Addr) (w : World) (n : Nat) : (method (n + 1) 47 (.pointer (some p)) "Traverse").run Try.prog w = .ok (45, .pointer (some p)) w := by kernel_rfl
theorem met_n (p : Addr) (w : World) (n : Nat) : (method (n + 1) 34 (.pointer (some p)) "Traverse").run Try.prog w = .ok (34, .pointer (some p)) w := by kernel_rfl
attribute [local go_sem] nil_q nil_n met_q met_n

theorem trav_no {f s : ByteArray} {l : List ByteArray} {m : Int} (h : ¬ 1 ≤ m) : trav f (s :: l) m = ([], m - 1) := by rw [trav, if_neg h]
theorem trav_yes {f s : ByteArray} {l : List ByteArray} {m : Int} (h : 1 ≤ m) : trav f (s :: l) m = ((trav f l (m - 1)).1 ++ [s], (trav f l (m - 1)).2) := by rw [trav, if_pos h]

set_option maxHeartbeats 1000000 in
theorem qual_shut (s f : ByteArray) (l : List ByteArray) (w : World) (B Bo Bp b : Nat) (xs : List ByteArray) (m : Int) (h : St w B Bo Bp xs m) (hm : -1000000 ≤ m) (hle : ¬ 1 ≤ m) :
    Calls Try.prog 45 #[.pointer (some ⟨b, 0, none⟩), cl Bo Bp] w fun e w' =>
      e = .returned (.tuple #[]) ∧ St w' B Bo Bp (xs ++ (trav f (s :: l) m).1) (trav f (s :: l) m).2 ∧ Ex B [Bo, Bp] w w' := by
  rw [trav_no hle]
  unfold cl
  go_enter Try.func45, Try.ntmps45
  go_wp2_with (go_at_call 11; refine (clo_qual w B Bo Bp b xs m h (by omega) (by omega)).mono ?_; rintro e w1 ⟨rfl, hst, hx⟩)
  go_end0
  exact ⟨rfl, by simpa using hst, hx⟩

set_option maxHeartbeats 1000000 in
theorem qual_trav : ∀ (l : List ByteArray) (s f : ByteArray) (w : World) (B Bo Bp b : Nat) (xs : List ByteArray) (m : Int), St w B Bo Bp xs m → Sc w B [Bo, Bp] (.iface 47 (.pointer (some ⟨b, 0, none⟩))) f (s :: l) →
    xs.length + l.length + 2 ≤ 1000000 → -1000000 + l.length + 2 ≤ m → m ≤ 1000000000 →
    Calls Try.prog 45 #[.pointer (some ⟨b, 0, none⟩), cl Bo Bp] w fun e w' =>
      e = .returned (.tuple #[]) ∧ St w' B Bo Bp (xs ++ (trav f (s :: l) m).1) (trav f (s :: l) m).2 ∧ Ex B [Bo, Bp] w w' := by
  intro l
  induction l with
  | nil =>
    intro s f w B Bo Bp b xs m h hs hn hm hm2
    obtain ⟨c, v, hs, h1, h2, h3, h4, h5, h6, h7⟩ := hs.of_at
    obtain ⟨d, rfl, hd1, hd2, hd3⟩ := hs.of_nil
    have hn' : xs.length + 2 ≤ 1000000 := by simpa using hn
    clear hn
    have hm' : -1000000 ≤ m := by simp at hm; omega
    clear hm
    by_cases hle : 1 ≤ m
    · rw [trav_yes hle]
      unfold cl
      go_enter Try.func45, Try.ntmps45
      go_wp2_with (go_at_call 11; refine (clo_qual w B Bo Bp b xs m h (by omega) (by omega)).mono ?_; rintro e w1 ⟨rfl, hst, hx⟩; have e1 := (hx.cell (p := ⟨b, 0, none⟩) h4 h5).trans h1; have e2 := (hx.cell (p := ⟨b, 1, none⟩) h4 h5).trans h2; have e3 := (hx.cell (p := ⟨c, 0, none⟩) h6 h7).trans h3; have e4 := (hx.cell (p := ⟨d, 0, none⟩) hd2 hd3).trans hd1)
      refine (name_trav w1 B Bo Bp d f xs (m - 1) hst e4 hd2 (by omega)).mono ?_
      rintro e w2 ⟨rfl, hst2, hx2⟩
      have e5 := (hx2.cell (p := ⟨b, 1, none⟩) h4 h5).trans e2
      have e6 := (hx2.cell (p := ⟨c, 0, none⟩) h6 h7).trans e3
      go_wp2_with fail
      refine (name_trav w2 B Bo Bp c s (xs ++ [f]) (m - 1) hst2 e6 h6 (by simp; omega)).mono ?_
      rintro e w3 ⟨rfl, hst3, hx3⟩
      go_wp2_with fail
      go_end0
      exact ⟨rfl, by simpa [trav] using hst3, (hx.trans hx2).trans hx3⟩
    · exact qual_shut s f [] w B Bo Bp b xs m h hm' hle
  | cons s' l ih =>
    intro s f w B Bo Bp b xs m h hs hn hm hm2
    obtain ⟨c, v, hs', h1, h2, h3, h4, h5, h6, h7⟩ := hs.of_at
    obtain ⟨d, _, _, rfl, _⟩ := hs'.of_cons
    clear hs
    have hn' : xs.length + l.length + 3 ≤ 1000000 := by simp at hn; omega
    clear hn
    have hm' : -1000000 + l.length + 3 ≤ m := by simp at hm; omega
    clear hm
    by_cases hle : 1 ≤ m
    · rw [trav_yes hle]
      have hlen := trav_len f (s' :: l) (m - 1)
      have hlen2 : (trav f (s' :: l) (m - 1)).1.length ≤ l.length + 2 := by simpa using hlen
      clear hlen
      obtain ⟨ys, q, hyq⟩ : ∃ ys q, trav f (s' :: l) (m - 1) = (ys, q) := ⟨_, _, rfl⟩
      have ihh := fun w hst hsc => ih s' f w B Bo Bp d xs (m - 1) hst hsc (by omega) (by omega) (by omega)
      rw [hyq] at hlen2 ihh ⊢
      clear hyq ih
      have I := Lib.hid ihh
      clear ihh
      unfold cl
      go_enter Try.func45, Try.ntmps45
      go_wp2_with (go_at_call 11; refine (clo_qual w B Bo Bp b xs m h (by omega) (by omega)).mono ?_; rintro e w1 ⟨rfl, hst, hx⟩; have e1 := (hx.cell (p := ⟨b, 0, none⟩) h4 h5).trans h1; have e2 := (hx.cell (p := ⟨b, 1, none⟩) h4 h5).trans h2; have e3 := (hx.cell (p := ⟨c, 0, none⟩) h6 h7).trans h3)
      refine (I.out w1 hst (Sc.keep hx hs')).mono ?_
      rintro e w2 ⟨rfl, hst2, hx2⟩
      have e5 := (hx2.cell (p := ⟨b, 1, none⟩) h4 h5).trans e2
      have e6 := (hx2.cell (p := ⟨c, 0, none⟩) h6 h7).trans e3
      go_wp2_with fail
      refine (name_trav w2 B Bo Bp c s (xs ++ ys) q hst2 e6 h6 (by simp at hlen2 ⊢; omega)).mono ?_
      rintro e w3 ⟨rfl, hst3, hx3⟩
      go_wp2_with fail
      go_end0
      exact ⟨rfl, by simpa using hst3, (hx.trans hx2).trans hx3⟩
    · exact qual_shut s f (s' :: l) w B Bo Bp b xs m h (by omega) hle
end Go.Proofs.Ytgcmhbonadibeaa
