/- The closures of impl.Rename: what the one copies, and that the other skips nothing; conditions: the captured texts lie in memory, the text of what is skipped is none. -/
import Derived.Test.YtlfbmpenekiigaaGreatDoorKindOf
import Derived.Test.YtlfbmpenekiigaaGreatDoorSpecA
import Derived.OneCell
import Derived.Deep.QuietTactic
import Derived.BigQuiet
namespace Go.Proofs.YtlfbmpenekiigaaGreatDoor
open Go.ChangeShapes Go.WideShapes Go.ChangeAt Go.RowKit
set_option linter.unusedVariables false

def kNone : ByteArray := ⟨#[110, 111, 110, 101]⟩

/-- What the closures have captured. -/
structure Env (w : World) (f g : ByteArray) (pf pt ps : Nat) : Prop where
  from_ : w.cell? ⟨pf, 0, none⟩ = some (.string f)
  to_ : w.cell? ⟨pt, 0, none⟩ = some (.string g)
  skip_ : w.cell? ⟨ps, 0, none⟩ = some (.string kNone)

theorem Env.below {w w' : World} {f g : ByteArray} {pf pt ps : Nat} (h : Env w f g pf pt ps) (hb : Below w.heap.size w w') : Env w' f g pf pt ps :=
  ⟨cells_below hb _ _ _ h.from_, cells_below hb _ _ _ h.to_, cells_below hb _ _ _ h.skip_⟩

theorem kindNe {k : ByteArray} {p : Nat} (h : (k, p) ∈ ptrs) : (k.toList == kNone.toList) = false := by
  unfold ptrs at h
  simp only [List.mem_cons, Prod.mk.injEq, List.not_mem_nil, or_false] at h
  have hd : ∀ a : ByteArray, a ≠ kNone → (a.toList == kNone.toList) = false := fun a ha => by
    cases e : (a.toList == kNone.toList) with
    | false => rfl
    | true => exact (ha (bytes_of (by simpa using e))).elim
  rcases h with ⟨rfl, rfl⟩ | ⟨rfl, rfl⟩ | ⟨rfl, rfl⟩ | ⟨rfl, rfl⟩ | ⟨rfl, rfl⟩ | ⟨rfl, rfl⟩ | ⟨rfl, rfl⟩ | ⟨rfl, rfl⟩ | ⟨rfl, rfl⟩ | ⟨rfl, rfl⟩ | ⟨rfl, rfl⟩ | ⟨rfl, rfl⟩ | ⟨rfl, rfl⟩ | ⟨rfl, rfl⟩ | ⟨rfl, rfl⟩ | ⟨rfl, rfl⟩ | ⟨rfl, rfl⟩ | ⟨rfl, rfl⟩ | ⟨rfl, rfl⟩ | ⟨rfl, rfl⟩ | ⟨rfl, rfl⟩ | ⟨rfl, rfl⟩ | ⟨rfl, rfl⟩ | ⟨rfl, rfl⟩ | ⟨rfl, rfl⟩ | ⟨rfl, rfl⟩ | ⟨rfl, rfl⟩ | ⟨rfl, rfl⟩ | ⟨rfl, rfl⟩
  all_goals exact hd _ (by decide)

theorem ptr_ne {k : ByteArray} {p : Nat} (h : PtrK k p) : (k.toList == kNone.toList) = false := kindNe h.mem

theorem below_drewN' {B : Nat} {a w : World} (h : Below B a w) (n : Nat) : Below B a (w.drewN n) := ⟨h.os, h.tape, h.output, h.size, h.block⟩

/-- The function that tells what is skipped: nothing is. -/
theorem skipC {k : ByteArray} {p : Nat} (hp : PtrK k p) (b : Nat) (f g : ByteArray) (pf pt ps : Nat) (w : World) (he : Env w f g pf pt ps) :
    Calls Tryz.prog 18 #[.iface p (.pointer (some ⟨b, 0, none⟩)), .pointer (some ⟨ps, 0, none⟩)] w (fun e w' => e = .returned (.bool false) ∧ Below w.heap.size w w') := by
  have hs := he.skip_
  have hne := ptr_ne hp
  have hk := kindOfC hp (some ⟨b, 0, none⟩)
  have HK := Lib.hid hk
  clear hk he
  go_enter Tryz.func18, Tryz.ntmps18
  go_wp2_with fail
  go_quiet (first | (go_at_call 19; refine Calls.quiet_of_same ((HK.out _).mono fun e w' h => ⟨h.1, h.2.symm⟩)))
  go_wp2_with fail
  go_ret
  exact ⟨by simp, below_drewN' (Below.refl _ _) _⟩

/-- The copying function at an element that is no Name: there is no copy. -/
theorem fnOther {k : ByteArray} {p : Nat} (ha : ∀ (a : Option Addr) (w : World), (Instr.typeAssert (.iface p (.pointer a)) 33 36 true).run Tryz.prog w = .ok (.tuple #[.pointer none, .bool false]) w) (b : Nat) (pf pt : Nat) (w : World) :
    Calls Tryz.prog 17 #[.iface p (.pointer (some ⟨b, 0, none⟩)), .pointer (some ⟨pf, 0, none⟩), .pointer (some ⟨pt, 0, none⟩)] w (fun e w' => e = .returned .nilIface ∧ Below w.heap.size w w') := by
  go_enter Tryz.func17, Tryz.ntmps17
  go_wp2_with fail
  go_quiet (fail)
  go_wp2_with fail
  go_ret
  exact ⟨rfl, below_drewN' (Below.refl _ _) _⟩

/-- The copying function at the Name that is looked for: a copy with the other text. -/
theorem fnYes (b : Nat) (s f g : ByteArray) (pf pt ps : Nat) (w : World) (he : Env w f g pf pt ps) (hb : w.cell? ⟨b, 0, none⟩ = some (.string s)) (hs : s = f) :
    Calls Tryz.prog 17 #[.iface 36 (.pointer (some ⟨b, 0, none⟩)), .pointer (some ⟨pf, 0, none⟩), .pointer (some ⟨pt, 0, none⟩)] w (fun e w' =>
      ∃ b', e = .returned (.iface 36 (.pointer (some ⟨b', 0, none⟩))) ∧ New w w' b' ∧ w'.heap[b']? = some (.cells #[.string g] 39 (0, 0)) ∧ Below w.heap.size w w') := by
  have h1 := he.from_
  have h2 := he.to_
  have a0 : ∀ (a : Option Addr) (w : World), (Instr.typeAssert (.iface 36 (.pointer a)) 33 36 true).run Tryz.prog w = .ok (.tuple #[.pointer a, .bool true]) w := fun a w => by kernel_rfl
  have hs' : (s.toList == f.toList) = true := by rw [hs]; simp
  clear he hs
  go_enter Tryz.func17, Tryz.ntmps17
  go_wp2_with fail
  go_quiet (fail)
  go_wp2_with fail
  go_ret
  exact ⟨_, rfl, ⟨by simp, by simp⟩, heap_alloc_new _ _, (below_drewN' (Below.refl _ _) _).alloc (by simp) _⟩

/-- The copying function at another Name. -/
theorem fnNo (b : Nat) (s f g : ByteArray) (pf pt ps : Nat) (w : World) (he : Env w f g pf pt ps) (hb : w.cell? ⟨b, 0, none⟩ = some (.string s)) (hs : s ≠ f) :
    Calls Tryz.prog 17 #[.iface 36 (.pointer (some ⟨b, 0, none⟩)), .pointer (some ⟨pf, 0, none⟩), .pointer (some ⟨pt, 0, none⟩)] w (fun e w' => e = .returned .nilIface ∧ Below w.heap.size w w') := by
  have h1 := he.from_
  have h2 := he.to_
  have a0 : ∀ (a : Option Addr) (w : World), (Instr.typeAssert (.iface 36 (.pointer a)) 33 36 true).run Tryz.prog w = .ok (.tuple #[.pointer a, .bool true]) w := fun a w => by kernel_rfl
  have hs' : (s.toList == f.toList) = false := by
    cases e : (s.toList == f.toList) with
    | false => rfl
    | true => exact (hs (bytes_of (by simpa using e))).elim
  clear he hs
  go_enter Tryz.func17, Tryz.ntmps17
  go_wp2_with fail
  go_quiet (fail)
  go_wp2_with fail
  go_ret
  exact ⟨rfl, below_drewN' (Below.refl _ _) _⟩
end Go.Proofs.YtlfbmpenekiigaaGreatDoor
