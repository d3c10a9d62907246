/- size and Small: a small tree's elements have few kids; conditions: the node reads as a tree. -/
import Derived.Test.YtlfbmpenekiigaaGreatDoorSpecR
namespace Go.Proofs.YtlfbmpenekiigaaGreatDoor
open Go.ChangeShapes Go.WideShapes Go.ChangeAt Go.RowKit

def Few (t : Tree) : Prop := t.kids.length ≤ 200

/-- What size comes to. -/
def SizeSaid (w : World) (d : Nat) (t : Tree) (k : Int) (e : Ending) (w' : World) : Prop := ∃ r : Int, e = .returned (.int .i64 r) ∧ 1 ≤ r ∧ r ≤ 201 ∧ (r ≤ k → All Few d t) ∧ Below w.heap.size w w'

def RoundZ (w wr : World) (l : List Tree) (d : Nat) (k : Int) (all i : Value) : Prop :=
  ∃ (j : Nat) (m : Int), j ≤ l.length ∧ i = .int .i64 j ∧ all = .int .i64 m ∧ (j : Int) + 1 ≤ m ∧ m ≤ k ∧ Below w.heap.size w wr ∧ Upto l (All Few d) j

set_option maxHeartbeats 2000000 in
theorem sizeC : ∀ (d : Nat) (t : Tree) (kv : Value) (w : World) (m k : Int), KidsAt w d t kv → -1000 ≤ m → m ≤ 24 → -1000 ≤ k → k ≤ 200 →
    Calls Tryz.prog 11 #[.agg #[.string t.kind, .string t.text, .int .i64 t.num, kv], .int .i64 m, .int .i64 k] w (SizeSaid w d t k) := by
  intro d
  induction d with
  | zero => intro t kv w m k h; exact h.elim
  | succ d ih =>
    intro t kv w m k h hm1 hm2 hk1 hk2
    obtain ⟨hkk, ht, _, a, c, rfl, hl, hc, hkids⟩ := h
    have HK := Lib.hid hkids
    have IH := Lib.hid ih
    clear hkids ih
    have B := Lib.hid (below1 w (.cells #[.string t.kind, .string t.text, .int .i64 t.num, .slice a t.kids.length c] 24))
    by_cases hm : 0 < m
    · by_cases hk : 0 < k
      · go_enter Tryz.func11, Tryz.ntmps11
        go_wp2_with fail
        go_loopw [7, 19] (fun al i wr => RoundZ w wr t.kids d k al i) (fun _ i _ => t.kids.length - (intOf i).toNat)
        case atStart => exact ⟨0, 1, Nat.zero_le _, rfl, rfl, by omega, by omega, B.out, Upto.zero _ _⟩
        case round =>
          obtain ⟨j, al, hj, rfl, rfl, hj1, hj2, hb, hup⟩ := hrel
          have HB := Lib.hid hb
          have HU := Lib.hid hup
          have hsz := hb.size
          by_cases hlt : j < t.kids.length
          · obtain ⟨x, b, o, xa, xc, hx, hmm, rfl, hbl, ⟨x0, x1, x2, x3⟩, KX⟩ := kid_at HK.out hlt
            have HX := Lib.hid hx
            have HKX := Lib.hid KX
            obtain ⟨hc1, hf1⟩ := bcell hb
            have q1 : b < wr.heap.size := by omega
            clear hb hup hx KX hmm
            go_wp2_with fail
            refine (IH.out x _ _ _ _ (HKX.out.below (HB.out.trans ((below1 wr _).mono hsz))) (by omega) (by omega) (by omega) (by omega)).mono ?_
            rintro e w1 ⟨r, rfl, hr1, hr2, hp1, hb1⟩
            have B1 := Lib.hid ((HB.out.trans ((below1 wr _).mono hsz)).trans (hb1.mono (by simp; omega)))
            have P1 := Lib.hid hp1
            clear hp1 hb1
            by_cases hgo : al + r ≤ k
            · go_wp2_with fail
              go_roundw
              case rel => exact ⟨j + 1, al + r, by omega, by go_num, rfl, by omega, by omega, B1.out, HU.out.succ HX.out (P1.out (by omega))⟩
              case measure => simp [intOf]; omega
            · go_wp2_with fail
              go_ret
              exact ⟨_, rfl, by omega, by omega, fun _ => by omega, B1.out⟩
          · have HE : Hid (j = t.kids.length) := by show j = _; omega
            clear hb hup
            go_wp2_with fail
            go_ret
            exact ⟨_, rfl, by omega, by omega, fun _ => ⟨(by have := HE.out; show t.kids.length ≤ 200; omega), (HE.out ▸ HU.out).all⟩, HB.out⟩
      · go_enter Tryz.func11, Tryz.ntmps11
        go_wp2_with fail
        go_ret
        exact ⟨_, rfl, by omega, by omega, fun _ => by omega, B.out⟩
    · go_enter Tryz.func11, Tryz.ntmps11
      go_wp2_with fail
      go_ret
      exact ⟨_, rfl, by omega, by omega, fun _ => by omega, B.out⟩

set_option maxHeartbeats 1000000 in
theorem smallC (d : Nat) (t : Tree) (kv : Value) (w : World) (h : KidsAt w d t kv) :
    Calls Tryz.prog 5 #[.agg #[.string t.kind, .string t.text, .int .i64 t.num, kv]] w (Ans w (All Few d t)) := by
  obtain ⟨a, c, rfl⟩ := h.form
  have HI := Lib.hid h
  clear h
  have B := Lib.hid (below1 w (.cells #[.string t.kind, .string t.text, .int .i64 t.num, .slice a t.kids.length c] 24))
  go_enter Tryz.func5, Tryz.ntmps5
  go_wp2_with fail
  refine (sizeC d t _ _ 24 200 (HI.out.below B.out) (by omega) (by omega) (by omega) (by omega)).mono ?_
  rintro e w1 ⟨r, rfl, hr1, hr2, hp1, hb1⟩
  have B1 := Lib.hid (B.out.trans (hb1.mono B.out.size))
  have P1 := Lib.hid hp1
  clear hp1 hb1
  go_wp2_with fail
  go_ret
  exact ⟨_, rfl, fun e => P1.out (by simpa using e), B1.out⟩
end Go.Proofs.YtlfbmpenekiigaaGreatDoor
