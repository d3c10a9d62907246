/- Trees of nodes: how one is read out of an argument, and that it stays; conditions: none. -/
import Derived.Test.YtlfbmpenekiigaaGreatDoorRows
import Derived.WalkKit
import Derived.WalkSpells
import Derived.ProofKit
import Derived.OpenShut
import Derived.Deep.Slices
import Derived.ChangeSame
import Derived.ChangeOld
import Derived.Lib.Hide
namespace Go.Proofs.YtlfbmpenekiigaaGreatDoor
open Go.ChangeShapes Go.WideShapes Go.ChangeAt Go.RowKit

/-- A node as data. -/
structure Tree where
  kind : ByteArray
  text : ByteArray
  num : Int
  kids : List Tree

/-- The node of no element. -/
def Tree.nil : Tree := ⟨ByteArray.empty, ByteArray.empty, 0, []⟩

/-- The node as a value. -/
def Tree.val (t : Tree) (kv : Value) : Value := .agg #[.string t.kind, .string t.text, .int .i64 t.num, kv]

/-- Nodes in a row of memory: N says what each of them is. -/
def ListOf (w : World) (N : Tree → Value → Prop) (l : List Tree) (v : Value) : Prop :=
  ∃ a c, v = .slice a l.length c ∧ l.length ≤ c ∧ c ≤ 9223372036854775807 ∧
    ∀ i x, l[i]? = some x → ∃ b o kv, a = some ⟨b, o, none⟩ ∧ w.cell? ⟨b, o + i * 4, none⟩ = some (.string x.kind) ∧ w.cell? ⟨b, o + i * 4 + 1, none⟩ = some (.string x.text) ∧
      w.cell? ⟨b, o + i * 4 + 2, none⟩ = some (.int .i64 x.num) ∧ w.cell? ⟨b, o + i * 4 + 3, none⟩ = some kv ∧ N x kv

/-- A tree of at most this depth in memory: kv is the slice of its kids. -/
def KidsAt (w : World) : Nat → Tree → Value → Prop
  | 0, _, _ => False
  | d + 1, t, kv => t.kind.size ≤ maxLen ∧ t.text.size ≤ maxLen ∧ (Lit.int .i64 t.num).wf = true ∧ ListOf w (KidsAt w d) t.kids kv

def NodeAt (w : World) (d : Nat) (t : Tree) (v : Value) : Prop := ∃ kv, v = t.val kv ∧ KidsAt w d t kv

theorem ListOf.imp {w w' : World} {N N' : Tree → Value → Prop} {l : List Tree} {v : Value} (h : ListOf w N l v) (hw : ∀ b o x, w.cell? ⟨b, o, none⟩ = some x → w'.cell? ⟨b, o, none⟩ = some x)
    (hN : ∀ x kv, x ∈ l → N x kv → N' x kv) : ListOf w' N' l v := by
  obtain ⟨a, c, rfl, h1, h2, h3⟩ := h
  refine ⟨a, c, rfl, h1, h2, fun i x hx => ?_⟩
  obtain ⟨b, o, kv, e, g0, g1, g2, g3, g4⟩ := h3 i x hx
  exact ⟨b, o, kv, e, hw _ _ _ g0, hw _ _ _ g1, hw _ _ _ g2, hw _ _ _ g3, hN x kv (List.mem_of_getElem? hx) g4⟩

theorem KidsAt.imp {w w' : World} (hw : ∀ b o x, w.cell? ⟨b, o, none⟩ = some x → w'.cell? ⟨b, o, none⟩ = some x) : ∀ (d : Nat) (t : Tree) (kv : Value), KidsAt w d t kv → KidsAt w' d t kv
  | 0, _, _, h => h
  | d + 1, _, _, ⟨h1, h2, h3, h4⟩ => ⟨h1, h2, h3, h4.imp hw (fun x kv _ h => KidsAt.imp hw d x kv h)⟩

theorem KidsAt.more {w : World} : ∀ (d : Nat) (t : Tree) (kv : Value), KidsAt w d t kv → KidsAt w (d + 1) t kv
  | 0, _, _, h => h.elim
  | d + 1, _, _, ⟨h1, h2, h3, h4⟩ => ⟨h1, h2, h3, h4.imp (fun _ _ _ h => h) (fun x kv _ h => KidsAt.more d x kv h)⟩

theorem cells_below {w w' : World} (h : Below w.heap.size w w') (b o : Nat) (x : Value) (hx : w.cell? ⟨b, o, none⟩ = some x) : w'.cell? ⟨b, o, none⟩ = some x :=
  (h.cell (p := ⟨b, o, none⟩) (World.block_lt_of_cell? w _ hx)).trans hx

theorem KidsAt.below {w w' : World} {d : Nat} {t : Tree} {kv : Value} (h : KidsAt w d t kv) (hb : Below w.heap.size w w') : KidsAt w' d t kv := KidsAt.imp (cells_below hb) d t kv h
theorem NodeAt.below {w w' : World} {d : Nat} {t : Tree} {v : Value} (h : NodeAt w d t v) (hb : Below w.heap.size w w') : NodeAt w' d t v := by
  obtain ⟨kv, e, k⟩ := h
  exact ⟨kv, e, k.below hb⟩
theorem ListOf.below {w w' : World} {d : Nat} {l : List Tree} {v : Value} (h : ListOf w (KidsAt w d) l v) (hb : Below w.heap.size w w') : ListOf w' (KidsAt w' d) l v :=
  h.imp (cells_below hb) (fun _ _ _ k => k.below hb)

/-! ### Out of an argument -/
theorem list_of_fun (n : Nat) (p : Nat → Tree → Prop) (h : ∀ i, i < n → ∃ t, p i t) : ∃ l : List Tree, l.length = n ∧ ∀ i x, l[i]? = some x → p i x := by
  induction n with
  | zero => exact ⟨[], rfl, fun i x hx => by simp at hx⟩
  | succ n ih =>
    obtain ⟨l, hl, hp⟩ := ih (fun i hi => h i (by omega))
    obtain ⟨t, ht⟩ := h n (by omega)
    refine ⟨l ++ [t], by simp [hl], fun i x hx => ?_⟩
    by_cases hi : i < n
    · rw [List.getElem?_append_left (by omega)] at hx
      exact hp i x hx
    · rw [List.getElem?_append_right (by omega)] at hx
      have h0 : i - l.length = 0 := by have := (List.getElem?_eq_some_iff.1 hx).1; simp at this; omega
      have : i = n := by omega
      subst this
      rw [h0] at hx
      simp at hx
      subst hx
      exact ht


theorem four_list (cs : List Value) (h : cs.length = 4) : ∃ a b c d, cs = [a, b, c, d] := by
  rcases cs with _ | ⟨a, _ | ⟨b, _ | ⟨c, _ | ⟨d, _ | ⟨e, l⟩⟩⟩⟩⟩
  all_goals first | (simp at h; done) | skip
  exact ⟨a, b, c, d, rfl⟩

/-- A tree's cells, as a list. -/
def cellsT (t : Tree) (kv : Value) : List Value := [.string t.kind, .string t.text, .int .i64 t.num, kv]

set_option linter.unusedSimpArgs false in
theorem tree_open {H : Type} {enc : TypeId × Value → H} {W : World} : ∀ (fuel : Nat) (cs : List Value) (x : DataW H × List MemPlace),
    DataW.trod enc Tryz.prog W 0 (fun _ => true) true fuel 24 cs = some x → ∃ t kv, cs = cellsT t kv ∧ KidsAt W fuel t kv := by
  intro fuel
  induction fuel using Nat.strongRecOn with
  | _ fuel ih =>
    intro cs x h
    obtain ⟨xs, n, rfl, _, hlen, hxs, hf⟩ := DataW.trod_struct Tryz.underlying24 h
    have hc4 : Tryz.prog.cellsOf 24 = 4 := by kernel_rfl
    rw [hc4] at hlen
    obtain ⟨c0, c1, c2, c3, rfl⟩ := four_list cs hlen
    · have h0 : DataW.trod enc Tryz.prog W 0 (fun _ => true) true n 9 (([c0, c1, c2, c3].drop 0).take (Tryz.prog.cellsOf 9)) = xs[0]? := hf 0 _ rfl
      have h1 : DataW.trod enc Tryz.prog W 0 (fun _ => true) true n 9 (([c0, c1, c2, c3].drop 1).take (Tryz.prog.cellsOf 9)) = xs[1]? := hf 1 _ rfl
      have h2 : DataW.trod enc Tryz.prog W 0 (fun _ => true) true n 3 (([c0, c1, c2, c3].drop 2).take (Tryz.prog.cellsOf 3)) = xs[2]? := hf 2 _ rfl
      have h3 : DataW.trod enc Tryz.prog W 0 (fun _ => true) true n 22 (([c0, c1, c2, c3].drop 3).take (Tryz.prog.cellsOf 22)) = xs[3]? := hf 3 _ rfl
      rw [show Tryz.prog.cellsOf 9 = 1 by kernel_rfl] at h0 h1
      rw [show Tryz.prog.cellsOf 3 = 1 by kernel_rfl] at h2
      rw [show Tryz.prog.cellsOf 22 = 1 by kernel_rfl] at h3
      have hx0 : xs[0]? = some (xs[0]'(by rw [hxs]; decide)) := List.getElem?_eq_getElem _
      have hx1 : xs[1]? = some (xs[1]'(by rw [hxs]; decide)) := List.getElem?_eq_getElem _
      have hx2 : xs[2]? = some (xs[2]'(by rw [hxs]; decide)) := List.getElem?_eq_getElem _
      have hx3 : xs[3]? = some (xs[3]'(by rw [hxs]; decide)) := List.getElem?_eq_getElem _
      rw [hx0] at h0
      rw [hx1] at h1
      rw [hx2] at h2
      rw [hx3] at h3
      obtain ⟨k, e0, _, z0⟩ := DataW.trod_string Tryz.underlying9 h0
      obtain ⟨tx, e1, _, z1⟩ := DataW.trod_string Tryz.underlying9 h1
      obtain ⟨m, e2, _, z2⟩ := DataW.trod_int Tryz.underlying3 h2
      obtain rfl : c0 = .string k := by simpa using e0
      obtain rfl : c1 = .string tx := by simpa using e1
      obtain rfl : c2 = .int .i64 m := by simpa using e2
      rcases DataW.trod_slice Tryz.underlying22 h3 with ⟨e3, _⟩ | ⟨a, len, cap, elems, rest, n', rfl, e3, _, _, hl, hm, hel, hat, _, _⟩
      · obtain rfl : c3 = .slice none 0 0 := by simpa using e3
        exact ⟨⟨k, tx, m, []⟩, _, rfl, z0, z1, z2, none, 0, rfl, by simp, by omega, fun i x hx => by simp at hx⟩
      · obtain rfl : c3 = .slice (some a) len cap := by simpa using e3
        have hsp0 : ∀ i, i < len → i = 0 → a.spot = none := by
          intro i hi e
          have hb := hat i hi
          rw [List.getElem?_eq_getElem (by omega)] at hb
          rw [hc4] at hb
          obtain ⟨cs', hcs, ht⟩ := Option.bind_eq_some_iff.1 hb
          obtain ⟨t, kv, rfl, hk⟩ := ih n' (by omega) _ _ ht
          have := World.cell?_spot (((World.cells?_some hcs).2.2 0 (by omega)).trans (show (cellsT t kv)[0]? = some (.string t.kind) from rfl))
          rw [e] at this
          simpa [Addr.add] using this
        have hsp : 0 < len → a.spot = none := fun h => hsp0 _ h rfl
        have step : ∀ i, i < len → ∃ t, ∃ b o kv, a = ⟨b, o, none⟩ ∧ W.cell? ⟨b, o + i * 4, none⟩ = some (.string t.kind) ∧ W.cell? ⟨b, o + i * 4 + 1, none⟩ = some (.string t.text) ∧
            W.cell? ⟨b, o + i * 4 + 2, none⟩ = some (.int .i64 t.num) ∧ W.cell? ⟨b, o + i * 4 + 3, none⟩ = some kv ∧ KidsAt W n' t kv := by
          intro i hi
          have hb := hat i hi
          rw [List.getElem?_eq_getElem (by omega)] at hb
          rw [hc4] at hb
          obtain ⟨cs', hcs, ht⟩ := Option.bind_eq_some_iff.1 hb
          obtain ⟨t, kv, rfl, hk⟩ := ih n' (by omega) _ _ ht
          obtain ⟨_, _, hcell⟩ := World.cells?_some hcs
          have hsp := hsp (by omega)
          obtain ⟨b, o, sp⟩ := a
          simp only at hsp
          subst hsp
          have ea : ∀ j k, ((Addr.mk b o none).add j).add k = ⟨b, o + j + k, none⟩ := fun j k => by unfold Addr.add; split <;> split <;> simp_all
          refine ⟨t, b, o, kv, rfl, ?_, ?_, ?_, ?_, hk⟩
          · have := hcell 0 (by omega); rw [ea] at this; exact this
          · have := hcell 1 (by omega); rw [ea] at this; exact this
          · have := hcell 2 (by omega); rw [ea] at this; exact this
          · have := hcell 3 (by omega); rw [ea] at this; exact this
        obtain ⟨l, hll, hlp⟩ := list_of_fun len _ step
        subst hll
        unfold maxLen at hm
        refine ⟨⟨k, tx, m, l⟩, _, rfl, z0, z1, z2, some a, cap, rfl, hl, by omega, fun i x hx => ?_⟩
        obtain ⟨b, o, kv, rfl, q0, q1, q2, q3, q4⟩ := hlp i x hx
        exact ⟨b, o, kv, rfl, q0, q1, q2, q3, q4.more⟩
end Go.Proofs.YtlfbmpenekiigaaGreatDoor
