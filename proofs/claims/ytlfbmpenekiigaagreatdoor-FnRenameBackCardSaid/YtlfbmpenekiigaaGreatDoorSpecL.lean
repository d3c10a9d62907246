/- isReturn, and the loops that go down a tree; conditions: the node reads as a tree, the tables hold texts, IsType is known. -/
import Derived.Test.YtlfbmpenekiigaaGreatDoorSpecE
import Derived.Deep.LoopGhost
namespace Go.Proofs.YtlfbmpenekiigaaGreatDoor
open Go.ChangeShapes Go.WideShapes Go.ChangeAt Go.RowKit

/-- A variable that holds a node. -/
def BoxAt (w : World) (p : Nat) (t : Tree) (kv : Value) : Prop := w.heap[p]? = some (.cells #[.string t.kind, .string t.text, .int .i64 t.num, kv] 24 (0, 0))

section
variable {w : World} {p : Nat} {t : Tree} {kv : Value}
theorem BoxAt.c0 (h : BoxAt w p t kv) : w.cell? ⟨p, 0, none⟩ = some (.string t.kind) := by unfold BoxAt at h; simp [World.cell?, h]
theorem BoxAt.c1 (h : BoxAt w p t kv) : w.cell? ⟨p, 1, none⟩ = some (.string t.text) := by unfold BoxAt at h; simp [World.cell?, h]
theorem BoxAt.c2 (h : BoxAt w p t kv) : w.cell? ⟨p, 2, none⟩ = some (.int .i64 t.num) := by unfold BoxAt at h; simp [World.cell?, h]
theorem BoxAt.c3 (h : BoxAt w p t kv) : w.cell? ⟨p, 3, none⟩ = some kv := by unfold BoxAt at h; simp [World.cell?, h]
theorem BoxAt.free (h : BoxAt w p t kv) (i : Nat) : w.frozen? ⟨p, i, none⟩ = false := by unfold BoxAt at h; simp [World.frozen?, h]
theorem BoxAt.new (w : World) (t : Tree) (kv : Value) : BoxAt (w.alloc (.cells #[.string t.kind, .string t.text, .int .i64 t.num, kv] 24)) w.heap.size t kv := heap_alloc_new w _
theorem BoxAt.lt (h : BoxAt w p t kv) : p < w.heap.size := (Array.getElem?_eq_some_iff.1 h).1
theorem heap_put {i : Nat} {cs : Array Value} {ty : TypeId} {fr : Nat × Nat} {v : Value} (h : w.heap[p]? = some (.cells cs ty fr)) : (w.setCell ⟨p, i, none⟩ v).heap[p]? = some (.cells (cs.setIfInBounds i v) ty fr) := by
  simp [World.setCell, Array.getElem?_modify, h]
theorem BoxAt.put (h : BoxAt w p t kv) (u : Tree) (ku : Value) : BoxAt ((((w.setCell ⟨p, 0, none⟩ (.string u.kind)).setCell ⟨p, 1, none⟩ (.string u.text)).setCell ⟨p, 2, none⟩ (.int .i64 u.num)).setCell ⟨p, 3, none⟩ ku) p u ku := by
  have := heap_put (i := 3) (v := ku) (heap_put (i := 2) (v := .int .i64 u.num) (heap_put (i := 1) (v := .string u.text) (heap_put (i := 0) (v := .string u.kind) h)))
  simpa [BoxAt] using this
end

theorem Fine.kid0 {d : Nat} {p x : Tree} {l : List Tree} (h : Fine (d + 1) p) (e : p.kids = x :: l) (hx : x.kind ≠ ByteArray.empty) : Fine d x := All.kinded (h.1.2 x (by rw [e]; simp)) hx

/-- What a node of a kind has. -/
theorem fine_unary {d : Nat} {p : Tree} (h : Fine (d + 1) p) (hk : p.kind ∈ unaryKinds) : ∃ x, p.kids = [x] ∧ Fine d x := by
  have hs := h.2
  unfold Shape at hs
  have key : ∀ {l : List ByteArray}, (∀ k ∈ l, k ∉ unaryKinds) → p.kind ∉ l := fun hl hm => hl _ hm hk
  have ne : ∀ {k : ByteArray}, k ∉ unaryKinds → p.kind ≠ k := fun hn e => hn (e ▸ hk)
  rcases hs with h1 | h1 | h1 | h1 | h1 | h1 | h1 | h1 | h1 | h1 | h1
  · exact (key (by decide) h1.1).elim
  · exact (ne (by decide) h1.1).elim
  · exact (ne (by decide) h1.1).elim
  · obtain ⟨_, _, _, x, e, hx⟩ := h1
    exact ⟨x, e, h.kid0 e hx⟩
  · exact (ne (by decide) h1.1).elim
  · exact (key (by decide) h1.1).elim
  · exact (ne (by decide) h1.1).elim
  · rcases h1.1 with e | e
    · exact (ne (by decide) e).elim
    · exact (ne (by decide) e).elim
  · exact (ne (by decide) h1.1).elim
  · exact (ne (by decide) h1.1).elim
  · exact (ne (by decide) h1.1).elim

theorem fine_binary {d : Nat} {p : Tree} (h : Fine (d + 1) p) (hk : p.kind ∈ binaryKinds) : ∃ x y, p.kids = [x, y] ∧ Fine d x ∧ Fine d y := by
  have hs := h.2
  unfold Shape at hs
  have key : ∀ {l : List ByteArray}, (∀ k ∈ l, k ∉ binaryKinds) → p.kind ∉ l := fun hl hm => hl _ hm hk
  have ne : ∀ {k : ByteArray}, k ∉ binaryKinds → p.kind ≠ k := fun hn e => hn (e ▸ hk)
  rcases hs with h1 | h1 | h1 | h1 | h1 | h1 | h1 | h1 | h1 | h1 | h1
  · exact (key (by decide) h1.1).elim
  · exact (ne (by decide) h1.1).elim
  · exact (ne (by decide) h1.1).elim
  · exact (key (by decide) h1.1).elim
  · exact (ne (by decide) h1.1).elim
  · obtain ⟨_, _, _, x, y, e, hx, hy⟩ := h1
    exact ⟨x, y, e, h.kid0 e hx, All.kinded (h.1.2 y (by rw [e]; simp)) hy⟩
  · exact (ne (by decide) h1.1).elim
  · rcases h1.1 with e | e
    · exact (ne (by decide) e).elim
    · exact (ne (by decide) e).elim
  · exact (ne (by decide) h1.1).elim
  · exact (ne (by decide) h1.1).elim
  · exact (ne (by decide) h1.1).elim

theorem fine_template {d : Nat} {p : Tree} (h : Fine (d + 1) p) (hk : p.kind = kTemplate) : ∃ x l, p.kids = x :: l ∧ Fine d x := by
  have hs := h.2
  unfold Shape at hs
  rw [hk] at hs
  rcases hs with h1 | h1 | h1 | h1 | h1 | h1 | h1 | h1 | h1 | h1 | h1
  all_goals first
    | (obtain ⟨_, _, _, x, l, e, hx, _⟩ := h1; exact ⟨x, l, e, h.kid0 e hx⟩)
    | exact absurd h1.1 (by decide)

/-- How the loop's variable stands: k rounds at most are to come. -/
def Down (w wr : World) (p q : Nat) (s : ByteArray) (k : Nat) : Prop := ∃ t kv, BoxAt wr p t kv ∧ KidsAt w k t kv ∧ Fine k t ∧ Below w.heap.size w wr ∧ wr.cell? ⟨q, 0, none⟩ = some (.string s)

theorem below_put {B : Nat} {a w : World} {p : Nat} (h : Below B a w) (hp : B ≤ p) (v0 v1 v2 v3 : Value) : Below B a ((((w.setCell ⟨p, 0, none⟩ v0).setCell ⟨p, 1, none⟩ v1).setCell ⟨p, 2, none⟩ v2).setCell ⟨p, 3, none⟩ v3) :=
  (((h.setCell (p := ⟨p, 0, none⟩) hp v0).setCell (p := ⟨p, 1, none⟩) hp v1).setCell (p := ⟨p, 2, none⟩) hp v2).setCell (p := ⟨p, 3, none⟩) hp v3

set_option maxRecDepth 100000 in
set_option maxHeartbeats 2000000 in
theorem isReturnC (d : Nat) (K : Tests 45 d) : Tests 25 d := by
  intro t kv w h
  have HI := Lib.hid h
  have HY := Lib.hid K
  obtain ⟨a, c, rfl⟩ := h.kids.form
  have B := Lib.hid (below1 w (.cells #[.string t.kind, .string t.text, .int .i64 t.num, .slice a t.kids.length c] 24))
  clear h K
  go_enter Tryz.func25, Tryz.ntmps25
  go_wp2_with fail
  refine (HY.out t _ _ (HI.out.below B.out)).mono ?_
  rintro e w1 ⟨b1, rfl, hp1, hb1⟩
  have B1 := Lib.hid (B.out.trans (hb1.mono B.out.size))
  have z1 : w.heap.size < w1.heap.size := by have := hb1.size; simp at this; omega
  obtain ⟨hc1, hf1⟩ := bcell hb1
  cases b1 with
  | false =>
    clear hp1 hb1
    go_wp2_with fail
    go_ret
    exact ⟨_, rfl, fun e => Bool.noConfusion e, B1.out⟩
  | true =>
    have P1 := Lib.hid (hp1 rfl)
    clear hp1 hb1
    go_wp2_with fail
    refine (turnedC d t _ _ (HI.out.kids.below B1.out)).mono ?_
    rintro e w2 ⟨b2, rfl, _, hb2⟩
    have B2 := Lib.hid (B1.out.trans (hb2.mono B1.out.size))
    have z2 : w.heap.size < w2.heap.size := by have := hb2.size; omega
    obtain ⟨hc2, hf2⟩ := bcell hb2
    cases b2 with
    | false =>
      clear hb2
      go_wp2_with fail
      go_ret
      exact ⟨_, rfl, fun _ => P1.out, B2.out⟩
    | true =>
      have n1 : w1.cell? ⟨w.heap.size, 0, none⟩ = some (.string t.kind) := (hc1 _ 0 (by simp)).trans ((World.cell?_alloc_at (w := w) _ _ _ _ rfl).trans (by simp))
      have n2 : w2.cell? ⟨w.heap.size, 0, none⟩ = some (.string t.kind) := (hc2 _ 0 z1).trans n1
      have N2 : Hid ((w2.alloc (.cells #[.string t.kind, .string t.text, .int .i64 t.num, .slice a t.kids.length c] 24)).cell? ⟨w.heap.size, 0, none⟩ = some (.string t.kind)) := (World.cell?_alloc_past (w := w2) _ _ _ z2).trans n2
      clear hb2 n1 n2
      go_wp2_with fail
      go_loopg [] d (fun k wr => Down w wr w2.heap.size w.heap.size t.kind k)
      case atStart => exact ⟨t, _, BoxAt.new _ _ _, HI.out.kids, P1.out, B2.out.trans ((below1 w2 _).mono B2.out.size), N2.out⟩
      case round =>
        obtain ⟨p, kp, hbox, hkp, hfp, hbel, hn⟩ := hrel
        have hc0 := hbox.c0
        have hbc1 := hbox.c1
        have hbc2 := hbox.c2
        have hc3 := hbox.c3
        have HN := Lib.hid hn
        have f0 := hbox.free 0
        have f1 := hbox.free 1
        have f2 := hbox.free 2
        have f3 := hbox.free 3
        have HBX := Lib.hid hbox
        have HBL := Lib.hid hbel
        have HF := Lib.hid hfp
        have HKP := Lib.hid hkp
        obtain ⟨hd1, hd2⟩ := bcell hbel
        clear hc1 hf1 hc2 hf2
        by_cases hptr : p.kind = kPointerType
        · have k0 := kind_is (a := p.kind) kPointerType hptr (l := [80, 111, 105, 110, 116, 101, 114, 84, 121, 112, 101]) rfl
          cases gk with
          | zero => exact hkp.elim
          | succ k =>
            obtain ⟨x, ex, fx⟩ := fine_unary hfp (by rw [hptr]; decide)
            obtain ⟨_, _, _, pa, pc, rfl, _, _, hpk⟩ := hkp
            have hlen : 0 < p.kids.length := by rw [ex]; simp
            obtain ⟨x', b, o, xa, xc, hx0, _, rfl, hbl, ⟨x0, x1, x2, x3⟩, KX⟩ := kid0 hpk hlen
            obtain rfl : x = x' := by rw [ex] at hx0; simpa using hx0
            have FX := Lib.hid fx
            have HKX := Lib.hid KX
            clear hbox hbel hfp hpk hx0 KX ex fx hptr
            go_wp2_with fail
            go_roundg k
            case rel => exact ⟨x, _, HBX.out.put x _, HKX.out, FX.out, below_put HBL.out (by omega) _ _ _ _, by
              rw [World.cell?_of_block (w := wr) (a := ⟨w.heap.size, 0, none⟩) (by
                have hne : w.heap.size ≠ w2.heap.size := by omega
                rw [Below.heap_setCell _ _ _ _ hne, Below.heap_setCell _ _ _ _ hne, Below.heap_setCell _ _ _ _ hne, Below.heap_setCell _ _ _ _ hne])]
              exact HN.out⟩
            case measure => omega
        · have k0 := kind_ne (a := p.kind) kPointerType hptr (l := [80, 111, 105, 110, 116, 101, 114, 84, 121, 112, 101]) rfl
          clear hbox hbel hfp hkp hptr
          go_wp2_with fail
          all_goals go_ret
          all_goals exact ⟨_, rfl, fun _ => P1.out, HBL.out⟩
end Go.Proofs.YtlfbmpenekiigaaGreatDoor
